import JvmDerived
import JvmDerived.Pilot.@@N@@Statement
import JvmDerived.Pilot.@@N@@Code
set_option linter.unusedVariables false
set_option linter.unusedSimpArgs false
namespace Jvm.RoadKit
open Sem ClassFile Op Lib Jvm.Stand Jvm.Free Jvm.LawKit
section Own
variable {p : Program} {l : Launch} {e : Env} {R : Room} {s : State} {m : MethodId} {args : Array Value} {below : List Frame} {meth : Method} {c : Code} {T : State} {locs : List Loc} {cells slots : Nat} {Q : Option Value → Heap → List Loc → Prop} {Φ : Outcome → State → List Loc → Prop} {k n : Nat} {pc pc' : Nat} {L L' : Array Slot} {S : List Value}
def OG (p : Program) (e : Env) (below : List Frame) (Φ : Outcome → State → List Loc → Prop) (Q : Option Value → Heap → List Loc → Prop) (t : State) : Prop :=
  ∃ s₂ o, Steps p.tables e below t s₂ ∧ s₂.status = .running ∧ Ended s₂ below o ∧ ∃ v L, o = .returned v ∧ Q v s₂.heap L ∧ Φ o s₂ L
abbrev FE (s : State) (k n : Nat) : Outcome → State → List Loc → Prop := fun o t L => FrameEnd s o t L k n
abbrev FEW (s : State) (k n : Nat) : Outcome → State → List Loc → Prop := fun o t L => ReturnedEndW s o t L k n
theorem og_of {t t' : State} (st : ∀ g, Steps p.tables e below t' g → Steps p.tables e below t g) (G : OG p e below Φ Q t') : OG p e below Φ Q t := by
  obtain ⟨s₂, o, h, r⟩ := G; exact ⟨s₂, o, st _ h, r⟩
theorem og_tr {t t' : State} (st : Steps p.tables e below t t') (G : OG p e below Φ Q t') : OG p e below Φ Q t := og_of (fun _ k => st.trans k) G
def Lv (e : Env) (below : List Frame) (Φ : Outcome → State → List Loc → Prop) (m : MethodId) (meth : Method) (T : State) (locs : List Loc) : Prop :=
  ∀ v : Option Value, (meth.sig.returnType = none → v = none) → ∃ fs, (∀ (f : JFrame) (acts : List Action), f.method = m → f.locked = none → f.entered = [] → (doReturn e (T.setTop f) acts v).1 = T.setFrames fs) ∧ (T.setFrames fs).status = .running ∧ Ended (T.setFrames fs) below (.returned v) ∧ Φ (.returned v) (T.setFrames fs) locs
theorem own_lv (X : Stand p l e R s m args below meth c T locs cells slots) (hlk : meth.locks = false) (hk : cells ≤ k) (hn : slots ≤ n) : Lv e below (FE s k n) m meth T locs := fun v hv => by
  obtain ⟨fs, hr, hrun, hended, hW, hsame⟩ := X.leave (v := v) hv hlk
  exact ⟨fs, hr, hrun, hended, ⟨_, rfl⟩, hW, hsame.mono hk hn⟩
theorem own_lvW {vm₁ : Vm} {q : Nat} (X : Stand p l e R (s.setVm vm₁) m args below meth c T locs cells slots) (hlk : meth.locks = false) (hS : s.Since vm₁ q) (hq : q ≤ T.heap.size) (hk : cells ≤ k) (hn : slots ≤ n) : Lv e below (FEW s k n) m meth T locs := fun v hv => by
  obtain ⟨fs, hr, hrun, hended, h1, h2, h3, h4⟩ := X.leaveW hS hq (v := v) hv hlk
  exact ⟨fs, hr, hrun, hended, h1, h2, h3, h4.mono hk hn⟩
theorem og_end (hE : Lv e below Φ m meth T locs) {v : Option Value} (hv : meth.sig.returnType = none → v = none) {g : JFrame}
    (st : ∀ fs, (∀ (f : JFrame) (acts : List Action), f.method = m → f.locked = none → f.entered = [] → (doReturn e (T.setTop f) acts v).1 = T.setFrames fs) → Steps p.tables e below (T.setTop g) (T.setFrames fs))
    (hQ : Q v T.heap locs) : OG p e below Φ Q (T.setTop g) := by
  obtain ⟨fs, hr, hrun, hended, hF⟩ := hE v hv
  exact ⟨_, _, st fs hr, hrun, hended, _, _, rfl, hQ, hF⟩
theorem own_mono (X : Stand p l e R s m args below meth c T locs cells slots) {cells' slots' : Nat} (hc : cells ≤ cells') (hs : slots ≤ slots') : Stand p l e R s m args below meth c T locs cells' slots' :=
  ⟨X.admits, X.cas, X.clock, X.frames, X.room, X.hears, X.method, X.code, X.here, X.tail, X.warmed, X.limits, X.bytes, X.same.mono hc hs⟩
theorem retI (X : Stand p l e R s m args below meth c T locs cells slots) (hx : p.tables.exec = Jvm.exec) {pc : Nat} {Ls : Array Slot} {z : Int32} {rest : List Value} (hret : meth.sig.returnType = some .int) (hd : decode c.code pc = .ok (.ireturn, 1)) {fs : List Frame}
    (hl : ∀ (f : JFrame) (acts : List Action), f.method = m → f.locked = none → f.entered = [] → (doReturn e (T.setTop f) acts (some (.int z))).1 = T.setFrames fs) : Steps p.tables e below (T.setTop (mkF m pc Ls (.int z :: rest))) (T.setFrames fs) := by
  have hm' : T.vm.method? m = some meth := X.method'
  have hn : narrow .int (.int z) = .int z := rfl
  show Steps p.tables e below (T.setTop { method := m, pc := pc, locals := Ls, stack := _ :: rest, locked := none }) _
  jvm_step X.here [X.here.top, hx, hd, hm', hret, hn]
  first | (intro acts; rw [hl _ acts rfl rfl rfl]) | rw [hl _ _ rfl rfl rfl]
  exact Steps.refl _
theorem o_retI (X : Stand p l e R s m args below meth c T locs cells slots) (hx : p.tables.exec = Jvm.exec) (hret : meth.sig.returnType = some .int) (hE : Lv e below Φ m meth T locs) (hd : decode c.code pc = .ok (.ireturn, 1)) {z : Int32} (hQ : Q (some (.int z)) T.heap locs) : OG p e below Φ Q (T.setTop (mkF m pc L (.int z :: S))) :=
  og_end hE (fun h => by rw [hret] at h; cases h) (fun fs hr => retI X hx hret hd hr) hQ
theorem o_retN (X : Stand p l e R s m args below meth c T locs cells slots) (hx : p.tables.exec = Jvm.exec) {t : FieldType} (hret : meth.sig.returnType = some t) (ht : t = .boolean ∨ t = .byte ∨ t = .char ∨ t = .short) (hE : Lv e below Φ m meth T locs) (hd : decode c.code pc = .ok (.ireturn, 1)) {z : Int32} (hQ : Q (some (.int (nar t z))) T.heap locs) : OG p e below Φ Q (T.setTop (mkF m pc L (.int z :: S))) :=
  og_end hE (fun h => by rw [hret] at h; cases h) (fun fs hr => retN X hx hret ht hd hr) hQ
theorem o_retB (X : Stand p l e R s m args below meth c T locs cells slots) (hx : p.tables.exec = Jvm.exec) (hret : meth.sig.returnType = some .boolean) (hE : Lv e below Φ m meth T locs) (hd : decode c.code pc = .ok (.ireturn, 1)) {z : Int32} (hz : z = 0 ∨ z = 1) (hQ : Q (some (.int z)) T.heap locs) : OG p e below Φ Q (T.setTop (mkF m pc L (.int z :: S))) :=
  o_retN X hx hret (Or.inl rfl) hE hd (by have q : nar .boolean z = z := by { rcases hz with rfl | rfl <;> rfl }; rw [q]; exact hQ)
theorem o_retL (X : Stand p l e R s m args below meth c T locs cells slots) (hx : p.tables.exec = Jvm.exec) (hret : meth.sig.returnType = some .long) (hE : Lv e below Φ m meth T locs) (hd : decode c.code pc = .ok (.lreturn, 1)) {z : Int64} (hQ : Q (some (.long z)) T.heap locs) : OG p e below Φ Q (T.setTop (mkF m pc L (.long z :: S))) :=
  og_end hE (fun h => by rw [hret] at h; cases h) (fun fs hr => retOut X hx hret rfl (Or.inr (Or.inl ⟨rfl, rfl, z, rfl⟩)) hd hr) hQ
theorem o_retA (X : Stand p l e R s m args below meth c T locs cells slots) (hx : p.tables.exec = Jvm.exec) {t : FieldType} (hret : meth.sig.returnType = some t) (ht : t.isReference = true) (hE : Lv e below Φ m meth T locs) (hd : decode c.code pc = .ok (.areturn, 1)) {w : Value} (hw : w.isRef = true) (hnw : narrow t w = w) (hQ : Q (some w) T.heap locs) : OG p e below Φ Q (T.setTop (mkF m pc L (w :: S))) :=
  og_end hE (fun h => by rw [hret] at h; cases h) (fun fs hr => retOut X hx hret hnw (Or.inr (Or.inr (Or.inr (Or.inr ⟨rfl, ht, hw⟩)))) hd hr) hQ
theorem o_ret0 (X : Stand p l e R s m args below meth c T locs cells slots) (hx : p.tables.exec = Jvm.exec) (hret : meth.sig.returnType = none) (hE : Lv e below Φ m meth T locs) (hd : decode c.code pc = .ok (.return_, 1)) (hQ : Q none T.heap locs) : OG p e below Φ Q (T.setTop (mkF m pc L [])) :=
  og_end hE (fun _ => rfl) (fun fs hr => X.returnOut hx hret hd hr) hQ
theorem lcY_eq {x y : Int64} (h : x = y) : ifCond.holds .eq (lcmpW x y) = true ∧ ifCond.holds .ne (lcmpW x y) = false := ⟨(if0 _ _).trans (teq ((lw_eq x y).mpr h)).1, (if0 _ _).trans (teq ((lw_eq x y).mpr h)).2⟩
theorem lcN_eq {x y : Int64} (h : ¬ x = y) : ifCond.holds .eq (lcmpW x y) = false ∧ ifCond.holds .ne (lcmpW x y) = true := ⟨(if0 _ _).trans (feq (mt (lw_eq x y).mp h)).1, (if0 _ _).trans (feq (mt (lw_eq x y).mp h)).2⟩
theorem lcY_lt {x y : Int64} (h : x < y) : ifCond.holds .lt (lcmpW x y) = true ∧ ifCond.holds .ge (lcmpW x y) = false := ⟨(if0 _ _).trans (tlt ((lw_lt x y).mpr h)).1, (if0 _ _).trans (tlt ((lw_lt x y).mpr h)).2.1⟩
theorem lcN_lt {x y : Int64} (h : ¬ x < y) : ifCond.holds .lt (lcmpW x y) = false ∧ ifCond.holds .ge (lcmpW x y) = true := ⟨(if0 _ _).trans (flt (mt (lw_lt x y).mp h)).1, (if0 _ _).trans (flt (mt (lw_lt x y).mp h)).2.1⟩
theorem lcY_gt {x y : Int64} (h : y < x) : ifCond.holds .gt (lcmpW x y) = true ∧ ifCond.holds .le (lcmpW x y) = false := ⟨(if0 _ _).trans (tlt ((lw_gt x y).mpr h)).2.2.1, (if0 _ _).trans (tlt ((lw_gt x y).mpr h)).2.2.2⟩
theorem lcN_gt {x y : Int64} (h : ¬ y < x) : ifCond.holds .gt (lcmpW x y) = false ∧ ifCond.holds .le (lcmpW x y) = true := ⟨(if0 _ _).trans (flt (mt (lw_gt x y).mp h)).2.2.1, (if0 _ _).trans (flt (mt (lw_gt x y).mp h)).2.2.2⟩
theorem o_iloadN (X : Stand p l e R s m args below meth c T locs cells slots) (hx : p.tables.exec = Jvm.exec) {i : Fin 4} {v : Int32} (hp : pc + 1 = pc') (hd : decode c.code pc = .ok (.iload_n i, 1)) (hl : L[i.val]? = some (.val (.int v))) (G : OG p e below Φ Q (T.setTop (mkF m pc' L (.int v :: S)))) : OG p e below Φ Q (T.setTop (mkF m pc L S)) := by
  subst hp; exact og_of (fun _ st => XS.iloadN X.here hx rfl hd hl st) G
theorem o_iload (X : Stand p l e R s m args below meth c T locs cells slots) (hx : p.tables.exec = Jvm.exec) {i : Nat} {v : Int32} (hp : pc + 2 = pc') (hd : decode c.code pc = .ok (.iload i, 2)) (hl : L[i]? = some (.val (.int v))) (G : OG p e below Φ Q (T.setTop (mkF m pc' L (.int v :: S)))) : OG p e below Φ Q (T.setTop (mkF m pc L S)) := by
  subst hp; exact og_of (fun _ st => XS.iload X.here hx rfl hd hl st) G
theorem o_istoreN (X : Stand p l e R s m args below meth c T locs cells slots) (hx : p.tables.exec = Jvm.exec) {i : Fin 4} {v : Int32} (hp : pc + 1 = pc') (hd : decode c.code pc = .ok (.istore_n i, 1)) (hl : storeLocals L i.val (.int v) = some L') (G : OG p e below Φ Q (T.setTop (mkF m pc' L' S))) : OG p e below Φ Q (T.setTop (mkF m pc L (.int v :: S))) := by
  subst hp; exact og_of (fun _ st => XS.istoreN X.here hx rfl hd rfl hl st) G
theorem o_istore (X : Stand p l e R s m args below meth c T locs cells slots) (hx : p.tables.exec = Jvm.exec) {i : Nat} {v : Int32} (hp : pc + 2 = pc') (hd : decode c.code pc = .ok (.istore i, 2)) (hl : storeLocals L i (.int v) = some L') (G : OG p e below Φ Q (T.setTop (mkF m pc' L' S))) : OG p e below Φ Q (T.setTop (mkF m pc L (.int v :: S))) := by
  subst hp; exact og_of (fun _ st => XS.istore X.here hx rfl hd rfl hl st) G
theorem o_lloadN (X : Stand p l e R s m args below meth c T locs cells slots) (hx : p.tables.exec = Jvm.exec) {i : Fin 4} {v : Int64} (hp : pc + 1 = pc') (hd : decode c.code pc = .ok (.lload_n i, 1)) (hl : L[i.val]? = some (.val (.long v))) (G : OG p e below Φ Q (T.setTop (mkF m pc' L (.long v :: S)))) : OG p e below Φ Q (T.setTop (mkF m pc L S)) := by
  subst hp; exact og_of (fun _ st => XS.lloadN X.here hx rfl hd hl st) G
theorem o_lload (X : Stand p l e R s m args below meth c T locs cells slots) (hx : p.tables.exec = Jvm.exec) {i : Nat} {v : Int64} (hp : pc + 2 = pc') (hd : decode c.code pc = .ok (.lload i, 2)) (hl : L[i]? = some (.val (.long v))) (G : OG p e below Φ Q (T.setTop (mkF m pc' L (.long v :: S)))) : OG p e below Φ Q (T.setTop (mkF m pc L S)) := by
  subst hp; exact og_of (fun _ st => XS.lload X.here hx rfl hd hl st) G
theorem o_lstoreN (X : Stand p l e R s m args below meth c T locs cells slots) (hx : p.tables.exec = Jvm.exec) {i : Fin 4} {v : Int64} (hp : pc + 1 = pc') (hd : decode c.code pc = .ok (.lstore_n i, 1)) (hl : storeLocals L i.val (.long v) = some L') (G : OG p e below Φ Q (T.setTop (mkF m pc' L' S))) : OG p e below Φ Q (T.setTop (mkF m pc L (.long v :: S))) := by
  subst hp; exact og_of (fun _ st => XS.lstoreN X.here hx rfl hd rfl hl st) G
theorem o_lstore (X : Stand p l e R s m args below meth c T locs cells slots) (hx : p.tables.exec = Jvm.exec) {i : Nat} {v : Int64} (hp : pc + 2 = pc') (hd : decode c.code pc = .ok (.lstore i, 2)) (hl : storeLocals L i (.long v) = some L') (G : OG p e below Φ Q (T.setTop (mkF m pc' L' S))) : OG p e below Φ Q (T.setTop (mkF m pc L (.long v :: S))) := by
  subst hp; exact og_of (fun _ st => XS.lstore X.here hx rfl hd rfl hl st) G
theorem o_aloadN (X : Stand p l e R s m args below meth c T locs cells slots) (hx : p.tables.exec = Jvm.exec) {i : Fin 4} {v : Value} (hp : pc + 1 = pc') (hd : decode c.code pc = .ok (.aload_n i, 1)) (hl : L[i.val]? = some (.val v)) (hv : v.isRef = true) (G : OG p e below Φ Q (T.setTop (mkF m pc' L (v :: S)))) : OG p e below Φ Q (T.setTop (mkF m pc L S)) := by
  subst hp; exact og_of (fun _ st => XS.aloadN X.here hx rfl hd hl hv st) G
theorem o_aload (X : Stand p l e R s m args below meth c T locs cells slots) (hx : p.tables.exec = Jvm.exec) {i : Nat} {v : Value} (hp : pc + 2 = pc') (hd : decode c.code pc = .ok (.aload i, 2)) (hl : L[i]? = some (.val v)) (hv : v.isRef = true) (G : OG p e below Φ Q (T.setTop (mkF m pc' L (v :: S)))) : OG p e below Φ Q (T.setTop (mkF m pc L S)) := by
  subst hp; exact og_of (fun _ st => XS.aload X.here hx rfl hd hl hv st) G
theorem o_astoreN (X : Stand p l e R s m args below meth c T locs cells slots) (hx : p.tables.exec = Jvm.exec) {i : Fin 4} {v : Value} (hp : pc + 1 = pc') (hd : decode c.code pc = .ok (.astore_n i, 1)) (hv : v.isRef = true) (hl : storeLocals L i.val v = some L') (G : OG p e below Φ Q (T.setTop (mkF m pc' L' S))) : OG p e below Φ Q (T.setTop (mkF m pc L (v :: S))) := by
  subst hp; exact og_of (fun _ st => XS.astoreN X.here hx rfl hd rfl hv hl st) G
theorem o_astore (X : Stand p l e R s m args below meth c T locs cells slots) (hx : p.tables.exec = Jvm.exec) {i : Nat} {v : Value} (hp : pc + 2 = pc') (hd : decode c.code pc = .ok (.astore i, 2)) (hv : v.isRef = true) (hl : storeLocals L i v = some L') (G : OG p e below Φ Q (T.setTop (mkF m pc' L' S))) : OG p e below Φ Q (T.setTop (mkF m pc L (v :: S))) := by
  subst hp; exact og_of (fun _ st => XS.astore X.here hx rfl hd rfl hv hl st) G
theorem o_iconst (X : Stand p l e R s m args below meth c T locs cells slots) (hx : p.tables.exec = Jvm.exec) {i : Int} {z : Int32} (hp : pc + 1 = pc') (hd : decode c.code pc = .ok (.iconst i, 1)) (hz : Int32.ofInt i = z) (G : OG p e below Φ Q (T.setTop (mkF m pc' L (.int z :: S)))) : OG p e below Φ Q (T.setTop (mkF m pc L S)) := by
  subst hp hz; exact og_of (fun _ st => XS.iconst X.here hx rfl hd st) G
theorem o_bipush (X : Stand p l e R s m args below meth c T locs cells slots) (hx : p.tables.exec = Jvm.exec) {i : Int} {z : Int32} (hp : pc + 2 = pc') (hd : decode c.code pc = .ok (.bipush i, 2)) (hz : (Int8.ofInt i).toInt32 = z) (G : OG p e below Φ Q (T.setTop (mkF m pc' L (.int z :: S)))) : OG p e below Φ Q (T.setTop (mkF m pc L S)) := by
  subst hp hz; exact og_of (fun _ st => XS.bipush X.here hx rfl hd st) G
theorem o_sipush (X : Stand p l e R s m args below meth c T locs cells slots) (hx : p.tables.exec = Jvm.exec) {i : Int} {z : Int32} (hp : pc + 3 = pc') (hd : decode c.code pc = .ok (.sipush i, 3)) (hz : (Int16.ofInt i).toInt32 = z) (G : OG p e below Φ Q (T.setTop (mkF m pc' L (.int z :: S)))) : OG p e below Φ Q (T.setTop (mkF m pc L S)) := by
  subst hp hz; exact og_of (fun _ st => XS.sipush X.here hx rfl hd st) G
theorem o_lconst (X : Stand p l e R s m args below meth c T locs cells slots) (hx : p.tables.exec = Jvm.exec) {i : Fin 2} {z : Int64} (hp : pc + 1 = pc') (hd : decode c.code pc = .ok (.lconst i, 1)) (hz : Int64.ofNat i = z) (G : OG p e below Φ Q (T.setTop (mkF m pc' L (.long z :: S)))) : OG p e below Φ Q (T.setTop (mkF m pc L S)) := by
  subst hp hz; exact og_of (fun _ st => XS.lconst X.here hx rfl hd st) G
theorem o_aconst_null (X : Stand p l e R s m args below meth c T locs cells slots) (hx : p.tables.exec = Jvm.exec) (hp : pc + 1 = pc') (hd : decode c.code pc = .ok (.aconst_null, 1))  (G : OG p e below Φ Q (T.setTop (mkF m pc' L (.null :: S)))) : OG p e below Φ Q (T.setTop (mkF m pc L S)) := by
  subst hp; exact og_of (fun _ st => XS.aconstNull X.here hx rfl hd st) G
theorem o_iadd (X : Stand p l e R s m args below meth c T locs cells slots) (hx : p.tables.exec = Jvm.exec) {x : Int32} {y : Int32} {z : Int32} (hp : pc + 1 = pc') (hd : decode c.code pc = .ok (.iadd, 1)) (hz : x + y = z) (G : OG p e below Φ Q (T.setTop (mkF m pc' L (.int z :: S)))) : OG p e below Φ Q (T.setTop (mkF m pc L (.int y :: .int x :: S))) := by
  subst hp hz; exact og_of (fun _ st => XS.iadd X.here hx rfl hd rfl st) G
theorem o_ladd (X : Stand p l e R s m args below meth c T locs cells slots) (hx : p.tables.exec = Jvm.exec) {x : Int64} {y : Int64} {z : Int64} (hp : pc + 1 = pc') (hd : decode c.code pc = .ok (.ladd, 1)) (hz : x + y = z) (G : OG p e below Φ Q (T.setTop (mkF m pc' L (.long z :: S)))) : OG p e below Φ Q (T.setTop (mkF m pc L (.long y :: .long x :: S))) := by
  subst hp hz; exact og_of (fun _ st => XS.ladd X.here hx rfl hd rfl st) G
theorem o_isub (X : Stand p l e R s m args below meth c T locs cells slots) (hx : p.tables.exec = Jvm.exec) {x : Int32} {y : Int32} {z : Int32} (hp : pc + 1 = pc') (hd : decode c.code pc = .ok (.isub, 1)) (hz : x - y = z) (G : OG p e below Φ Q (T.setTop (mkF m pc' L (.int z :: S)))) : OG p e below Φ Q (T.setTop (mkF m pc L (.int y :: .int x :: S))) := by
  subst hp hz; exact og_of (fun _ st => XS.isub X.here hx rfl hd rfl st) G
theorem o_lsub (X : Stand p l e R s m args below meth c T locs cells slots) (hx : p.tables.exec = Jvm.exec) {x : Int64} {y : Int64} {z : Int64} (hp : pc + 1 = pc') (hd : decode c.code pc = .ok (.lsub, 1)) (hz : x - y = z) (G : OG p e below Φ Q (T.setTop (mkF m pc' L (.long z :: S)))) : OG p e below Φ Q (T.setTop (mkF m pc L (.long y :: .long x :: S))) := by
  subst hp hz; exact og_of (fun _ st => XS.lsub X.here hx rfl hd rfl st) G
theorem o_imul (X : Stand p l e R s m args below meth c T locs cells slots) (hx : p.tables.exec = Jvm.exec) {x : Int32} {y : Int32} {z : Int32} (hp : pc + 1 = pc') (hd : decode c.code pc = .ok (.imul, 1)) (hz : x * y = z) (G : OG p e below Φ Q (T.setTop (mkF m pc' L (.int z :: S)))) : OG p e below Φ Q (T.setTop (mkF m pc L (.int y :: .int x :: S))) := by
  subst hp hz; exact og_of (fun _ st => XS.imul X.here hx rfl hd rfl st) G
theorem o_lmul (X : Stand p l e R s m args below meth c T locs cells slots) (hx : p.tables.exec = Jvm.exec) {x : Int64} {y : Int64} {z : Int64} (hp : pc + 1 = pc') (hd : decode c.code pc = .ok (.lmul, 1)) (hz : x * y = z) (G : OG p e below Φ Q (T.setTop (mkF m pc' L (.long z :: S)))) : OG p e below Φ Q (T.setTop (mkF m pc L (.long y :: .long x :: S))) := by
  subst hp hz; exact og_of (fun _ st => XS.lmul X.here hx rfl hd rfl st) G
theorem o_iand (X : Stand p l e R s m args below meth c T locs cells slots) (hx : p.tables.exec = Jvm.exec) {x : Int32} {y : Int32} {z : Int32} (hp : pc + 1 = pc') (hd : decode c.code pc = .ok (.iand, 1)) (hz : x &&& y = z) (G : OG p e below Φ Q (T.setTop (mkF m pc' L (.int z :: S)))) : OG p e below Φ Q (T.setTop (mkF m pc L (.int y :: .int x :: S))) := by
  subst hp hz; exact og_of (fun _ st => XS.iand X.here hx rfl hd rfl st) G
theorem o_land (X : Stand p l e R s m args below meth c T locs cells slots) (hx : p.tables.exec = Jvm.exec) {x : Int64} {y : Int64} {z : Int64} (hp : pc + 1 = pc') (hd : decode c.code pc = .ok (.land, 1)) (hz : x &&& y = z) (G : OG p e below Φ Q (T.setTop (mkF m pc' L (.long z :: S)))) : OG p e below Φ Q (T.setTop (mkF m pc L (.long y :: .long x :: S))) := by
  subst hp hz; exact og_of (fun _ st => XS.land X.here hx rfl hd rfl st) G
theorem o_ior (X : Stand p l e R s m args below meth c T locs cells slots) (hx : p.tables.exec = Jvm.exec) {x : Int32} {y : Int32} {z : Int32} (hp : pc + 1 = pc') (hd : decode c.code pc = .ok (.ior, 1)) (hz : x ||| y = z) (G : OG p e below Φ Q (T.setTop (mkF m pc' L (.int z :: S)))) : OG p e below Φ Q (T.setTop (mkF m pc L (.int y :: .int x :: S))) := by
  subst hp hz; exact og_of (fun _ st => XS.ior X.here hx rfl hd rfl st) G
theorem o_lor (X : Stand p l e R s m args below meth c T locs cells slots) (hx : p.tables.exec = Jvm.exec) {x : Int64} {y : Int64} {z : Int64} (hp : pc + 1 = pc') (hd : decode c.code pc = .ok (.lor, 1)) (hz : x ||| y = z) (G : OG p e below Φ Q (T.setTop (mkF m pc' L (.long z :: S)))) : OG p e below Φ Q (T.setTop (mkF m pc L (.long y :: .long x :: S))) := by
  subst hp hz; exact og_of (fun _ st => XS.lor X.here hx rfl hd rfl st) G
theorem o_ixor (X : Stand p l e R s m args below meth c T locs cells slots) (hx : p.tables.exec = Jvm.exec) {x : Int32} {y : Int32} {z : Int32} (hp : pc + 1 = pc') (hd : decode c.code pc = .ok (.ixor, 1)) (hz : x ^^^ y = z) (G : OG p e below Φ Q (T.setTop (mkF m pc' L (.int z :: S)))) : OG p e below Φ Q (T.setTop (mkF m pc L (.int y :: .int x :: S))) := by
  subst hp hz; exact og_of (fun _ st => XS.ixor X.here hx rfl hd rfl st) G
theorem o_lxor (X : Stand p l e R s m args below meth c T locs cells slots) (hx : p.tables.exec = Jvm.exec) {x : Int64} {y : Int64} {z : Int64} (hp : pc + 1 = pc') (hd : decode c.code pc = .ok (.lxor, 1)) (hz : x ^^^ y = z) (G : OG p e below Φ Q (T.setTop (mkF m pc' L (.long z :: S)))) : OG p e below Φ Q (T.setTop (mkF m pc L (.long y :: .long x :: S))) := by
  subst hp hz; exact og_of (fun _ st => XS.lxor X.here hx rfl hd rfl st) G
theorem o_ishl (X : Stand p l e R s m args below meth c T locs cells slots) (hx : p.tables.exec = Jvm.exec) {x : Int32} {y : Int32} {z : Int32} (hp : pc + 1 = pc') (hd : decode c.code pc = .ok (.ishl, 1)) (hz : x <<< (y &&& 31) = z) (G : OG p e below Φ Q (T.setTop (mkF m pc' L (.int z :: S)))) : OG p e below Φ Q (T.setTop (mkF m pc L (.int y :: .int x :: S))) := by
  subst hp hz; exact og_of (fun _ st => XS.ishl X.here hx rfl hd rfl st) G
theorem o_ishr (X : Stand p l e R s m args below meth c T locs cells slots) (hx : p.tables.exec = Jvm.exec) {x : Int32} {y : Int32} {z : Int32} (hp : pc + 1 = pc') (hd : decode c.code pc = .ok (.ishr, 1)) (hz : x >>> (y &&& 31) = z) (G : OG p e below Φ Q (T.setTop (mkF m pc' L (.int z :: S)))) : OG p e below Φ Q (T.setTop (mkF m pc L (.int y :: .int x :: S))) := by
  subst hp hz; exact og_of (fun _ st => XS.ishr X.here hx rfl hd rfl st) G
theorem o_iushr (X : Stand p l e R s m args below meth c T locs cells slots) (hx : p.tables.exec = Jvm.exec) {x : Int32} {y : Int32} {z : Int32} (hp : pc + 1 = pc') (hd : decode c.code pc = .ok (.iushr, 1)) (hz : (x.toUInt32 >>> (y &&& 31).toUInt32).toInt32 = z) (G : OG p e below Φ Q (T.setTop (mkF m pc' L (.int z :: S)))) : OG p e below Φ Q (T.setTop (mkF m pc L (.int y :: .int x :: S))) := by
  subst hp hz; exact og_of (fun _ st => XS.iushr X.here hx rfl hd rfl st) G
theorem o_lshl (X : Stand p l e R s m args below meth c T locs cells slots) (hx : p.tables.exec = Jvm.exec) {x : Int64} {y : Int32} {z : Int64} (hp : pc + 1 = pc') (hd : decode c.code pc = .ok (.lshl, 1)) (hz : x <<< (y &&& 0x3f).toInt64 = z) (G : OG p e below Φ Q (T.setTop (mkF m pc' L (.long z :: S)))) : OG p e below Φ Q (T.setTop (mkF m pc L (.int y :: .long x :: S))) := by
  subst hp hz; exact og_of (fun _ st => XS.lshl X.here hx rfl hd rfl st) G
theorem o_lshr (X : Stand p l e R s m args below meth c T locs cells slots) (hx : p.tables.exec = Jvm.exec) {x : Int64} {y : Int32} {z : Int64} (hp : pc + 1 = pc') (hd : decode c.code pc = .ok (.lshr, 1)) (hz : x >>> (y &&& 0x3f).toInt64 = z) (G : OG p e below Φ Q (T.setTop (mkF m pc' L (.long z :: S)))) : OG p e below Φ Q (T.setTop (mkF m pc L (.int y :: .long x :: S))) := by
  subst hp hz; exact og_of (fun _ st => XS.lshr X.here hx rfl hd rfl st) G
theorem o_lushr (X : Stand p l e R s m args below meth c T locs cells slots) (hx : p.tables.exec = Jvm.exec) {x : Int64} {y : Int32} {z : Int64} (hp : pc + 1 = pc') (hd : decode c.code pc = .ok (.lushr, 1)) (hz : (x.toUInt64 >>> (y &&& 0x3f).toInt64.toUInt64).toInt64 = z) (G : OG p e below Φ Q (T.setTop (mkF m pc' L (.long z :: S)))) : OG p e below Φ Q (T.setTop (mkF m pc L (.int y :: .long x :: S))) := by
  subst hp hz; exact og_of (fun _ st => XS.lushr X.here hx rfl hd rfl st) G
theorem o_idiv (X : Stand p l e R s m args below meth c T locs cells slots) (hx : p.tables.exec = Jvm.exec) {x : Int32} {y : Int32} {z : Int32} (hp : pc + 1 = pc') (hd : decode c.code pc = .ok (.idiv, 1)) (hz : x / y = z) (hy : y ≠ 0) (G : OG p e below Φ Q (T.setTop (mkF m pc' L (.int z :: S)))) : OG p e below Φ Q (T.setTop (mkF m pc L (.int y :: .int x :: S))) := by
  subst hp hz; exact og_of (fun _ st => XS.idiv X.here hx rfl hd rfl hy st) G
theorem o_ldiv (X : Stand p l e R s m args below meth c T locs cells slots) (hx : p.tables.exec = Jvm.exec) {x : Int64} {y : Int64} {z : Int64} (hp : pc + 1 = pc') (hd : decode c.code pc = .ok (.ldiv, 1)) (hz : x / y = z) (hy : y ≠ 0) (G : OG p e below Φ Q (T.setTop (mkF m pc' L (.long z :: S)))) : OG p e below Φ Q (T.setTop (mkF m pc L (.long y :: .long x :: S))) := by
  subst hp hz; exact og_of (fun _ st => XS.ldiv X.here hx rfl hd rfl hy st) G
theorem o_irem (X : Stand p l e R s m args below meth c T locs cells slots) (hx : p.tables.exec = Jvm.exec) {x y z : Int32} (hp : pc + 1 = pc') (hd : decode c.code pc = .ok (.irem, 1)) (hz : x % y = z) (hy : y ≠ 0) (G : OG p e below Φ Q (T.setTop (mkF m pc' L (.int z :: S)))) : OG p e below Φ Q (T.setTop (mkF m pc L (.int y :: .int x :: S))) := by
  subst hp hz; exact og_of (fun _ st => XS.irem X.here hx rfl hd rfl hy (by rw [irem_eq_mod x y]; exact st)) G
theorem o_lrem (X : Stand p l e R s m args below meth c T locs cells slots) (hx : p.tables.exec = Jvm.exec) {x y z : Int64} (hp : pc + 1 = pc') (hd : decode c.code pc = .ok (.lrem, 1)) (hz : x % y = z) (hy : y ≠ 0) (G : OG p e below Φ Q (T.setTop (mkF m pc' L (.long z :: S)))) : OG p e below Φ Q (T.setTop (mkF m pc L (.long y :: .long x :: S))) := by
  subst hp hz; exact og_of (fun _ st => XS.lrem X.here hx rfl hd rfl hy (by rw [lrem_mod x y]; exact st)) G
theorem o_ineg (X : Stand p l e R s m args below meth c T locs cells slots) (hx : p.tables.exec = Jvm.exec) {x : Int32} {z : Int32} (hp : pc + 1 = pc') (hd : decode c.code pc = .ok (.ineg, 1)) (hz : -x = z) (G : OG p e below Φ Q (T.setTop (mkF m pc' L (.int z :: S)))) : OG p e below Φ Q (T.setTop (mkF m pc L (.int x :: S))) := by
  subst hp hz; exact og_of (fun _ st => XS.ineg X.here hx rfl hd rfl st) G
theorem o_lneg (X : Stand p l e R s m args below meth c T locs cells slots) (hx : p.tables.exec = Jvm.exec) {x : Int64} {z : Int64} (hp : pc + 1 = pc') (hd : decode c.code pc = .ok (.lneg, 1)) (hz : -x = z) (G : OG p e below Φ Q (T.setTop (mkF m pc' L (.long z :: S)))) : OG p e below Φ Q (T.setTop (mkF m pc L (.long x :: S))) := by
  subst hp hz; exact og_of (fun _ st => XS.lneg X.here hx rfl hd rfl st) G
theorem o_i2l (X : Stand p l e R s m args below meth c T locs cells slots) (hx : p.tables.exec = Jvm.exec) {x : Int32} {z : Int64} (hp : pc + 1 = pc') (hd : decode c.code pc = .ok (.i2l, 1)) (hz : x.toInt64 = z) (G : OG p e below Φ Q (T.setTop (mkF m pc' L (.long z :: S)))) : OG p e below Φ Q (T.setTop (mkF m pc L (.int x :: S))) := by
  subst hp hz; exact og_of (fun _ st => XS.i2l X.here hx rfl hd rfl st) G
theorem o_l2i (X : Stand p l e R s m args below meth c T locs cells slots) (hx : p.tables.exec = Jvm.exec) {x : Int64} {z : Int32} (hp : pc + 1 = pc') (hd : decode c.code pc = .ok (.l2i, 1)) (hz : x.toInt32 = z) (G : OG p e below Φ Q (T.setTop (mkF m pc' L (.int z :: S)))) : OG p e below Φ Q (T.setTop (mkF m pc L (.long x :: S))) := by
  subst hp hz; exact og_of (fun _ st => XS.l2i X.here hx rfl hd rfl st) G
theorem o_i2b (X : Stand p l e R s m args below meth c T locs cells slots) (hx : p.tables.exec = Jvm.exec) {x : Int32} {z : Int32} (hp : pc + 1 = pc') (hd : decode c.code pc = .ok (.i2b, 1)) (hz : x.toInt8.toInt32 = z) (G : OG p e below Φ Q (T.setTop (mkF m pc' L (.int z :: S)))) : OG p e below Φ Q (T.setTop (mkF m pc L (.int x :: S))) := by
  subst hp hz; exact og_of (fun _ st => XS.i2b X.here hx rfl hd rfl st) G
theorem o_i2s (X : Stand p l e R s m args below meth c T locs cells slots) (hx : p.tables.exec = Jvm.exec) {x : Int32} {z : Int32} (hp : pc + 1 = pc') (hd : decode c.code pc = .ok (.i2s, 1)) (hz : x.toInt16.toInt32 = z) (G : OG p e below Φ Q (T.setTop (mkF m pc' L (.int z :: S)))) : OG p e below Φ Q (T.setTop (mkF m pc L (.int x :: S))) := by
  subst hp hz; exact og_of (fun _ st => XS.i2s X.here hx rfl hd rfl st) G
theorem o_i2c (X : Stand p l e R s m args below meth c T locs cells slots) (hx : p.tables.exec = Jvm.exec) {x : Int32} {z : Int32} (hp : pc + 1 = pc') (hd : decode c.code pc = .ok (.i2c, 1)) (hz : x.toUInt32.toUInt16.toUInt32.toInt32 = z) (G : OG p e below Φ Q (T.setTop (mkF m pc' L (.int z :: S)))) : OG p e below Φ Q (T.setTop (mkF m pc L (.int x :: S))) := by
  subst hp hz; exact og_of (fun _ st => XS.i2c X.here hx rfl hd rfl st) G
theorem o_lcmp (X : Stand p l e R s m args below meth c T locs cells slots) (hx : p.tables.exec = Jvm.exec) {x y : Int64} (hp : pc + 1 = pc') (hd : decode c.code pc = .ok (.lcmp, 1))  (G : OG p e below Φ Q (T.setTop (mkF m pc' L (.int (lcmpW x y) :: S)))) : OG p e below Φ Q (T.setTop (mkF m pc L (.long y :: .long x :: S))) := by
  subst hp; exact og_of (fun _ st => XS.lcmp X.here hx rfl hd rfl st) G
theorem o_dup (X : Stand p l e R s m args below meth c T locs cells slots) (hx : p.tables.exec = Jvm.exec) {v : Value} (hp : pc + 1 = pc') (hd : decode c.code pc = .ok (.dup, 1)) (hc : v.category = 1) (G : OG p e below Φ Q (T.setTop (mkF m pc' L (v :: v :: S)))) : OG p e below Φ Q (T.setTop (mkF m pc L (v :: S))) := by
  subst hp; exact og_of (fun _ st => XS.dup X.here hx rfl hd rfl hc st) G
theorem o_pop (X : Stand p l e R s m args below meth c T locs cells slots) (hx : p.tables.exec = Jvm.exec) {v : Value} (hp : pc + 1 = pc') (hd : decode c.code pc = .ok (.pop, 1)) (hc : v.category = 1) (G : OG p e below Φ Q (T.setTop (mkF m pc' L S))) : OG p e below Φ Q (T.setTop (mkF m pc L (v :: S))) := by
  subst hp; exact og_of (fun _ st => XS.pop X.here hx rfl hd rfl hc st) G
theorem o_dup_x1 (X : Stand p l e R s m args below meth c T locs cells slots) (hx : p.tables.exec = Jvm.exec) {v w : Value} (hp : pc + 1 = pc') (hd : decode c.code pc = .ok (.dup_x1, 1)) (hc : v.category = 1) (hc2 : w.category = 1) (G : OG p e below Φ Q (T.setTop (mkF m pc' L (v :: w :: v :: S)))) : OG p e below Φ Q (T.setTop (mkF m pc L (v :: w :: S))) := by
  subst hp; exact og_of (fun _ st => XS.dupX1 X.here hx rfl hd rfl hc hc2 st) G
theorem o_dup2 (X : Stand p l e R s m args below meth c T locs cells slots) (hx : p.tables.exec = Jvm.exec) {v w : Value} (hp : pc + 1 = pc') (hd : decode c.code pc = .ok (.dup2, 1)) (hc : v.category = 1) (hc2 : w.category = 1) (G : OG p e below Φ Q (T.setTop (mkF m pc' L (v :: w :: v :: w :: S)))) : OG p e below Φ Q (T.setTop (mkF m pc L (v :: w :: S))) := by
  subst hp; exact og_of (fun _ st => XT.dup2 X.here hx rfl hd rfl hc hc2 st) G
theorem o_dup2L (X : Stand p l e R s m args below meth c T locs cells slots) (hx : p.tables.exec = Jvm.exec) {v : Int64} (hp : pc + 1 = pc') (hd : decode c.code pc = .ok (.dup2, 1))  (G : OG p e below Φ Q (T.setTop (mkF m pc' L (.long v :: .long v :: S)))) : OG p e below Φ Q (T.setTop (mkF m pc L (.long v :: S))) := by
  subst hp; exact og_of (fun _ st => XT.dup2L X.here hx rfl hd rfl st) G
theorem o_dup_x2 (X : Stand p l e R s m args below meth c T locs cells slots) (hx : p.tables.exec = Jvm.exec) {u v w : Value} (hp : pc + 1 = pc') (hd : decode c.code pc = .ok (.dup_x2, 1)) (hu : u.category = 1) (hv : v.category = 1) (hw : w.category = 1) (G : OG p e below Φ Q (T.setTop (mkF m pc' L (u :: v :: w :: u :: S)))) : OG p e below Φ Q (T.setTop (mkF m pc L (u :: v :: w :: S))) := by
  subst hp; refine og_of (fun _ st => ?_) G
  jvm_step X.here [X.here.top, hx, hd, hu, hv, hw]
  exact st
theorem o_iinc (X : Stand p l e R s m args below meth c T locs cells slots) (hx : p.tables.exec = Jvm.exec) {i : Nat} {cst : Int} {x z : Int32} (hp : pc + 3 = pc') (hd : decode c.code pc = .ok (.iinc i cst, 3)) (hl : L[i]? = some (.val (.int x))) (hz : x + Int32.ofInt cst = z) (hl' : storeLocals L i (.int z) = some L') (G : OG p e below Φ Q (T.setTop (mkF m pc' L' S))) : OG p e below Φ Q (T.setTop (mkF m pc L S)) := by
  subst hp hz; exact og_of (fun _ st => XS.iinc X.here hx rfl hd hl hl' st) G
theorem o_goto (X : Stand p l e R s m args below meth c T locs cells slots) (hx : p.tables.exec = Jvm.exec) {o : Int} (hd : decode c.code pc = .ok (.goto o, 3)) (ho : 0 ≤ (pc : Int) + o) (hp : ((pc : Int) + o).toNat = pc') (G : OG p e below Φ Q (T.setTop (mkF m pc' L S))) : OG p e below Φ Q (T.setTop (mkF m pc L S)) := og_of (fun _ st => XS.goto X.here hx rfl rfl hd ho hp st) G
theorem o_ifY (X : Stand p l e R s m args below meth c T locs cells slots) (hx : p.tables.exec = Jvm.exec) {cd : ClassFile.Cond} {x : Int32} {o : Int} (hd : decode c.code pc = .ok (.ifCond cd o, 3)) (hc : ifCond.holds cd x = true) (ho : 0 ≤ (pc : Int) + o) (hp : ((pc : Int) + o).toNat = pc') (G : OG p e below Φ Q (T.setTop (mkF m pc' L S))) : OG p e below Φ Q (T.setTop (mkF m pc L (.int x :: S))) := og_of (fun _ st => XS.ifYes X.here hx rfl rfl hd rfl hc ho hp st) G
theorem o_ifN (X : Stand p l e R s m args below meth c T locs cells slots) (hx : p.tables.exec = Jvm.exec) {cd : ClassFile.Cond} {x : Int32} {o : Int} (hp : pc + 3 = pc') (hd : decode c.code pc = .ok (.ifCond cd o, 3)) (hc : ifCond.holds cd x = false) (G : OG p e below Φ Q (T.setTop (mkF m pc' L S))) : OG p e below Φ Q (T.setTop (mkF m pc L (.int x :: S))) := by
  subst hp; exact og_of (fun _ st => XS.ifNo X.here hx rfl hd rfl hc st) G
theorem o_icmpY (X : Stand p l e R s m args below meth c T locs cells slots) (hx : p.tables.exec = Jvm.exec) {cd : ClassFile.Cond} {x y : Int32} {o : Int} (hd : decode c.code pc = .ok (.if_icmp cd o, 3)) (hc : if_icmp.holds cd x y = true) (ho : 0 ≤ (pc : Int) + o) (hp : ((pc : Int) + o).toNat = pc') (G : OG p e below Φ Q (T.setTop (mkF m pc' L S))) : OG p e below Φ Q (T.setTop (mkF m pc L (.int y :: .int x :: S))) := og_of (fun _ st => XS.icmpYes X.here hx rfl rfl hd rfl hc ho hp st) G
theorem o_icmpN (X : Stand p l e R s m args below meth c T locs cells slots) (hx : p.tables.exec = Jvm.exec) {cd : ClassFile.Cond} {x y : Int32} {o : Int} (hp : pc + 3 = pc') (hd : decode c.code pc = .ok (.if_icmp cd o, 3)) (hc : if_icmp.holds cd x y = false) (G : OG p e below Φ Q (T.setTop (mkF m pc' L S))) : OG p e below Φ Q (T.setTop (mkF m pc L (.int y :: .int x :: S))) := by
  subst hp; exact og_of (fun _ st => XS.icmpNo X.here hx rfl hd rfl hc st) G
theorem o_ifnullY (X : Stand p l e R s m args below meth c T locs cells slots) (hx : p.tables.exec = Jvm.exec) {o : Int} (hd : decode c.code pc = .ok (.ifnull o, 3)) (ho : 0 ≤ (pc : Int) + o) (hp : ((pc : Int) + o).toNat = pc') (G : OG p e below Φ Q (T.setTop (mkF m pc' L S))) : OG p e below Φ Q (T.setTop (mkF m pc L (.null :: S))) := og_of (fun _ st => XS.ifnullYes X.here hx rfl rfl hd rfl ho hp st) G
theorem o_ifnullN (X : Stand p l e R s m args below meth c T locs cells slots) (hx : p.tables.exec = Jvm.exec) {o : Int} {a : Addr} (hp : pc + 3 = pc') (hd : decode c.code pc = .ok (.ifnull o, 3)) (G : OG p e below Φ Q (T.setTop (mkF m pc' L S))) : OG p e below Φ Q (T.setTop (mkF m pc L (.ref a :: S))) := by
  subst hp; exact og_of (fun _ st => XS.ifnullNo X.here hx rfl hd rfl st) G
theorem o_ifnonnullY (X : Stand p l e R s m args below meth c T locs cells slots) (hx : p.tables.exec = Jvm.exec) {o : Int} {a : Addr} (hd : decode c.code pc = .ok (.ifnonnull o, 3)) (ho : 0 ≤ (pc : Int) + o) (hp : ((pc : Int) + o).toNat = pc') (G : OG p e below Φ Q (T.setTop (mkF m pc' L S))) : OG p e below Φ Q (T.setTop (mkF m pc L (.ref a :: S))) := og_of (fun _ st => XS.ifnonnullYes X.here hx rfl rfl hd rfl ho hp st) G
theorem o_ifnonnullN (X : Stand p l e R s m args below meth c T locs cells slots) (hx : p.tables.exec = Jvm.exec) {o : Int} (hp : pc + 3 = pc') (hd : decode c.code pc = .ok (.ifnonnull o, 3)) (G : OG p e below Φ Q (T.setTop (mkF m pc' L S))) : OG p e below Φ Q (T.setTop (mkF m pc L (.null :: S))) := by
  subst hp; exact og_of (fun _ st => XS.ifnonnullNo X.here hx rfl hd rfl st) G
theorem o_acmpY (X : Stand p l e R s m args below meth c T locs cells slots) (hx : p.tables.exec = Jvm.exec) {cd : ClassFile.ACond} {a b : Addr} {o : Int} (hd : decode c.code pc = .ok (.if_acmp cd o, 3)) (hc : if_acmp.holds cd (some a) (some b) = true) (ho : 0 ≤ (pc : Int) + o) (hp : ((pc : Int) + o).toNat = pc') (G : OG p e below Φ Q (T.setTop (mkF m pc' L S))) : OG p e below Φ Q (T.setTop (mkF m pc L (.ref b :: .ref a :: S))) := og_of (fun _ st => XS.acmpYes X.here hx rfl rfl hd rfl hc ho hp st) G
theorem o_acmpN (X : Stand p l e R s m args below meth c T locs cells slots) (hx : p.tables.exec = Jvm.exec) {cd : ClassFile.ACond} {a b : Addr} {o : Int} (hp : pc + 3 = pc') (hd : decode c.code pc = .ok (.if_acmp cd o, 3)) (hc : if_acmp.holds cd (some a) (some b) = false) (G : OG p e below Φ Q (T.setTop (mkF m pc' L S))) : OG p e below Φ Q (T.setTop (mkF m pc L (.ref b :: .ref a :: S))) := by
  subst hp; exact og_of (fun _ st => XS.acmpNo X.here hx rfl hd rfl hc st) G
theorem o_ldcI (X : Stand p l e R s m args below meth c T locs cells slots) (hx : p.tables.exec = Jvm.exec) {Z : State} {a0 : Array Value} {own : String} {i : Nat} {v : Int32} (hp : pc + 2 = pc') (hd : decode c.code pc = .ok (.ldc i, 2)) (hZ : Z.Warmed39 s.vm) (hown : s.vm.findClass own = some m.cls) (w : (Cond.constant own i v).before a0 Z = true) (G : OG p e below Φ Q (T.setTop (mkF m pc' L (.int v :: S)))) : OG p e below Φ Q (T.setTop (mkF m pc L S)) := by
  subst hp; exact og_of (X.ldcInt hx hown (mvT hZ w) (g := mkF m pc L S) rfl hd) G
theorem o_ldcwI (X : Stand p l e R s m args below meth c T locs cells slots) (hx : p.tables.exec = Jvm.exec) {Z : State} {a0 : Array Value} {own : String} {i : Nat} {v : Int32} (hp : pc + 3 = pc') (hd : decode c.code pc = .ok (.ldc_w i, 3)) (hZ : Z.Warmed39 s.vm) (hown : s.vm.findClass own = some m.cls) (w : (Cond.constant own i v).before a0 Z = true) (G : OG p e below Φ Q (T.setTop (mkF m pc' L (.int v :: S)))) : OG p e below Φ Q (T.setTop (mkF m pc L S)) := by
  subst hp; exact og_of (X.ldcwInt hx hown (mvT hZ w) (g := mkF m pc L S) rfl hd) G
theorem o_ldc2L (X : Stand p l e R s m args below meth c T locs cells slots) (hx : p.tables.exec = Jvm.exec) {Z : State} {a0 : Array Value} {own : String} {i : Nat} {v : Int64} (hp : pc + 3 = pc') (hd : decode c.code pc = .ok (.ldc2_w i, 3)) (hZ : Z.Warmed39 s.vm) (hown : s.vm.findClass own = some m.cls) (w : (Cond.constantLong own i v).before a0 Z = true) (G : OG p e below Φ Q (T.setTop (mkF m pc' L (.long v :: S)))) : OG p e below Φ Q (T.setTop (mkF m pc L S)) := by
  subst hp; exact og_of (X.ldc2Long hx hown (mvT hZ w) (g := mkF m pc L S) rfl hd) G
theorem own_mvM {Z : State} {a0 : Array Value} {own host : String} {y : MethodName} {index : Nat} (hZ : Z.Warmed39 s.vm) (w : (Cond.methodLinkNest own index y host).before a0 Z = true) : (Cond.methodLinkNest own index y host).before args s = true := (Cond.methodLinkNest_wide hZ w :)
theorem own_catI (v : Int32) : (Value.int v).category = 1 := rfl
theorem own_catL (v : Int64) : (Value.long v).category = 2 := rfl
theorem own_catR (a : Addr) : (Value.ref a).category = 1 := rfl
theorem own_cat {x : Value} (h : x.isRef = true) : x.category = 1 := by cases x <;> simp_all [Value.isRef, Value.category]
theorem own_narR {x : Value} (h : x.isRef = true) (t : FieldType) : narrow t x = x := by rcases ref_cases h with rfl | ⟨a, rfl⟩ <;> cases t <;> rfl
theorem own_fitR {x : Value} {C : String} (h : x.isRef = true) : fits (.object C) x = true := by rcases ref_cases h with rfl | ⟨a, rfl⟩ <;> rfl
theorem own_selp {Z : State} {a0 : Array Value} {y : MethodName} {q : Nat} (hZ : Z.Warmed39 s.vm) (wi : (Cond.instantiable y.cls q).before a0 Z = true) (hp : (Cond.privateMethod y).before a0 Z = true) (hi : (Cond.instanceMethod y).before a0 Z = true) (hy : y.cls ≠ "java/lang/invoke/MethodHandle" ∧ y.cls ≠ "java/lang/invoke/VarHandle") : (Cond.selects y.cls y y).before args s = true := by
  have wi' : (Cond.instantiable y.cls q).before args s = true := mv hZ wi
  obtain ⟨cc, kk, h1, h2, -, h4, -⟩ := Cond.instantiable_spec wi'
  have hni : kk.isInterface = false := by simp only [Bool.or_eq_false_iff] at h4; exact h4.1
  exact selects_self_of_private h1 h2 hni (Cond.privateMethod_at (mvP hZ hp (args := args))) (mv hZ hi) hy
theorem own_staK {Z : State} {h h' : Heap} {C nn d : String} {v : Value} (F : Sta Z h C nn d v) (K : Keep h h' []) : Sta Z h' C nn d v := by
  obtain ⟨cf, i, k, f, st, cell, h1, h2, h3, h4, h5, r⟩ := F
  exact ⟨cf, i, k, f, st, cell, h1, h2, h3, h4, K.2.1 _ _ h5 (fun q => nomatch q), r⟩
end Own
end Jvm.RoadKit
namespace Jvm.Pilot.@@N@@
open Jvm Jvm.ClassFile Sem Op Lib Jvm.Free Jvm.Stand Jvm.LawKit Jvm.RoadKit Bundle Jvm.Pilot.@@N@@.Jvm.D
theorem own_d5_0 : decode jdk_29_method_66_code 0 = .ok (.lload_n 0, 1) := by decide +kernel
theorem own_d5_1 : decode jdk_29_method_66_code 1 = .ok (.lload_n 2, 1) := by decide +kernel
theorem own_d5_2 : decode jdk_29_method_66_code 2 = .ok (.lcmp, 1) := by decide +kernel
theorem own_d5_3 : decode jdk_29_method_66_code 3 = .ok (.ifCond .lt 7, 3) := by decide +kernel
theorem own_d5_6 : decode jdk_29_method_66_code 6 = .ok (.lload_n 0, 1) := by decide +kernel
theorem own_d5_7 : decode jdk_29_method_66_code 7 = .ok (.goto 4, 3) := by decide +kernel
theorem own_d5_10 : decode jdk_29_method_66_code 10 = .ok (.lload_n 2, 1) := by decide +kernel
theorem own_d5_11 : decode jdk_29_method_66_code 11 = .ok (.lreturn, 1) := by decide +kernel
def own_f5 (q0 : Int64) (q1 : Int64) : Int64 := (if q0 < q1 then q1 else q0)
theorem own_ef5 (m : MethodId) (q0 : Int64) (q1 : Int64) : entryFrame m #[(.long q0), (.long q1)] 4 = mkF m 0 #[.val (.long q0), .second, .val (.long q1), .second] [] := by first | (simp [entryFrame, mkF, argsToLocals, Value.category]; done) | rfl
def own_Q5 (Z : State) (q0 : Int64) (q1 : Int64) (h0 : Heap) (n0 : Nat) (v : Option Value) (h : Heap) (L : List Loc) : Prop := v = some (.long (own_f5 q0 q1)) ∧ Fr n0 L ∧ h = h0
set_option maxRecDepth 65536 in
set_option maxHeartbeats 40000000 in
theorem own_rm5 (l : Launch) (Z : State) (aA : Array Value) (hw : ∀ d ∈ tables_1, d.before aA Z = true) (ws : List Jvm.Cond) (q0 : Int64) (q1 : Int64) (h0 : Heap) (n0 : Nat) (Z0 : n0 ≤ h0.size) :
    MetFree l (⟨"java/lang/Math", "max", "(JJ)J"⟩ : MethodName) (head1 (Jvm.Cond.code (⟨"java/lang/Math", "max", "(JJ)J"⟩ : MethodName) jdk_29_method_66_code 4 (some .long) :: ws) ({ frames := 0, cells := 0, slots := 0, locals := 0 } : Room)) (fun a U => a = #[(.long q0), (.long q1)] ∧ Z.Warmed39 U.vm ∧ U.heap = h0) (fun _ _ _ _ _ => True) (fun _ U o U' => ∃ v L, o = .returned v ∧ own_Q5 Z q0 q1 h0 n0 v U'.heap L ∧ FrameEnd U o U' L ({ frames := 0, cells := 0, slots := 0, locals := 0 } : Room).cells ({ frames := 0, cells := 0, slots := 0, locals := 0 } : Room).slots) := by
  refine MetFree.of_bodySF (Jvm.Free.JP.mathPlain rfl (by decide +kernel)) hisR ?_
  intro p e s m args below meth c s₁ Bd hml0 hP hK
  obtain ⟨rfl, hZ, hh⟩ := hP
  have hx := Bd.exec
  have hby := Bd.bytes
  have hlk : meth.locks = false := Bd.notSynchronized
  have hml : c.maxLocals = 4 := hml0
  have hown : s.vm.findClass "java/lang/Math" = some m.cls := findClass_of_methodNamed Bd.named
  have hnm := (name_of_methodNamed Bd.named Bd.method).1
  have X0 : Stand p l e ({ frames := 0, cells := 0, slots := 0, locals := 0 } : Room) s m #[(.long q0), (.long q1)] below meth c s₁ [] 0 0 := Stand.of_body Bd
  have e0 : s₁.heap = h0 := by rw [← hh, Bd.state]; rfl
  have N0 := Fr.nil n0
  show OG p e below (FE s ({ frames := 0, cells := 0, slots := 0, locals := 0 } : Room).cells ({ frames := 0, cells := 0, slots := 0, locals := 0 } : Room).slots) (own_Q5 Z q0 q1 h0 n0) (s₁.setTop (entryFrame m #[(.long q0), (.long q1)] 4))
  refine og_of (fun _ k => castTop (own_ef5 m q0 q1) k) ?_
  refine o_lloadN X0 hx rfl (hb hby own_d5_0) rfl ?_
  refine o_lloadN X0 hx rfl (hb hby own_d5_1) rfl ?_
  refine o_lcmp X0 hx rfl (hb hby own_d5_2) ?_
  by_cases hc1 : q0 < q1
  · skip
    refine o_ifY (pc' := 10) X0 hx (hb hby own_d5_3) (lcY_lt hc1).1 (by decide) (by decide) ?_
    refine o_lloadN X0 hx rfl (hb hby own_d5_10) rfl ?_
    exact o_retL X0 hx Bd.returns (own_lv X0 hlk (by decide) (by decide)) (hb hby own_d5_11) ⟨(by rw [own_f5, if_pos hc1]), N0, e0⟩
  · skip
    refine o_ifN (pc' := 6) X0 hx rfl (hb hby own_d5_3) (lcN_lt hc1).1 ?_
    refine o_lloadN X0 hx rfl (hb hby own_d5_6) rfl ?_
    refine o_goto (pc' := 11) X0 hx (hb hby own_d5_7) (by decide) (by decide) ?_
    exact o_retL X0 hx Bd.returns (own_lv X0 hlk (by decide) (by decide)) (hb hby own_d5_11) ⟨(by rw [own_f5, if_neg hc1]), N0, e0⟩
theorem own_d17_0 : decode jdk_29_method_69_code 0 = .ok (.iload_n 0, 1) := by decide +kernel
theorem own_d17_1 : decode jdk_29_method_69_code 1 = .ok (.iload_n 1, 1) := by decide +kernel
theorem own_d17_2 : decode jdk_29_method_69_code 2 = .ok (.if_icmp .gt 7, 3) := by decide +kernel
theorem own_d17_9 : decode jdk_29_method_69_code 9 = .ok (.iload_n 1, 1) := by decide +kernel
theorem own_d17_10 : decode jdk_29_method_69_code 10 = .ok (.ireturn, 1) := by decide +kernel
theorem own_efmn3 (m : MethodId)  : entryFrame m #[(.int (12 : Int32)), (.int (3 : Int32))] 2 = mkF m 0 #[.val (.int (12 : Int32)), .val (.int (3 : Int32))] [] := by first | (simp [entryFrame, mkF, argsToLocals, Value.category]; done) | rfl
def own_Qmn3 (Z : State)  (h0 : Heap) (n0 : Nat) (v : Option Value) (h : Heap) (L : List Loc) : Prop := v = some (.int (3 : Int32)) ∧ Fr n0 L ∧ h = h0
set_option maxRecDepth 65536 in
set_option maxHeartbeats 40000000 in
theorem own_rmmn3 (l : Launch) (Z : State) (aA : Array Value) (hw : ∀ d ∈ tables_1, d.before aA Z = true) (ws : List Jvm.Cond)  (h0 : Heap) (n0 : Nat) (Z0 : n0 ≤ h0.size) :
    MetFree l (⟨"java/lang/Math", "min", "(II)I"⟩ : MethodName) (head1 (Jvm.Cond.code (⟨"java/lang/Math", "min", "(II)I"⟩ : MethodName) jdk_29_method_69_code 2 (some .int) :: ws) ({ frames := 0, cells := 0, slots := 0, locals := 0 } : Room)) (fun a U => a = #[(.int (12 : Int32)), (.int (3 : Int32))] ∧ Z.Warmed39 U.vm ∧ U.heap = h0) (fun _ _ _ _ _ => True) (fun _ U o U' => ∃ v L, o = .returned v ∧ own_Qmn3 Z  h0 n0 v U'.heap L ∧ FrameEnd U o U' L ({ frames := 0, cells := 0, slots := 0, locals := 0 } : Room).cells ({ frames := 0, cells := 0, slots := 0, locals := 0 } : Room).slots) := by
  refine MetFree.of_bodySF (Jvm.Free.JP.mathPlain rfl (by decide +kernel)) hisR ?_
  intro p e s m args below meth c s₁ Bd hml0 hP hK
  obtain ⟨rfl, hZ, hh⟩ := hP
  have hx := Bd.exec
  have hby := Bd.bytes
  have hlk : meth.locks = false := Bd.notSynchronized
  have hml : c.maxLocals = 2 := hml0
  have hown : s.vm.findClass "java/lang/Math" = some m.cls := findClass_of_methodNamed Bd.named
  have hnm := (name_of_methodNamed Bd.named Bd.method).1
  have X0 : Stand p l e ({ frames := 0, cells := 0, slots := 0, locals := 0 } : Room) s m #[(.int (12 : Int32)), (.int (3 : Int32))] below meth c s₁ [] 0 0 := Stand.of_body Bd
  have e0 : s₁.heap = h0 := by rw [← hh, Bd.state]; rfl
  have N0 := Fr.nil n0
  show OG p e below (FE s ({ frames := 0, cells := 0, slots := 0, locals := 0 } : Room).cells ({ frames := 0, cells := 0, slots := 0, locals := 0 } : Room).slots) (own_Qmn3 Z  h0 n0) (s₁.setTop (entryFrame m #[(.int (12 : Int32)), (.int (3 : Int32))] 2))
  refine og_of (fun _ k => castTop (own_efmn3 m ) k) ?_
  refine o_iloadN X0 hx rfl (hb hby own_d17_0) rfl ?_
  refine o_iloadN X0 hx rfl (hb hby own_d17_1) rfl ?_
  refine o_icmpY (pc' := 9) X0 hx (hb hby own_d17_2) (tlt (by decide : ((3 : Int32) < (12 : Int32)))).2.2.1 (by decide) (by decide) ?_
  refine o_iloadN X0 hx rfl (hb hby own_d17_9) rfl ?_
  exact o_retI X0 hx Bd.returns (own_lv X0 hlk (by decide) (by decide)) (hb hby own_d17_10) ⟨rfl, N0, e0⟩
theorem own_efmn6 (m : MethodId)  : entryFrame m #[(.int (12 : Int32)), (.int (6 : Int32))] 2 = mkF m 0 #[.val (.int (12 : Int32)), .val (.int (6 : Int32))] [] := by first | (simp [entryFrame, mkF, argsToLocals, Value.category]; done) | rfl
def own_Qmn6 (Z : State)  (h0 : Heap) (n0 : Nat) (v : Option Value) (h : Heap) (L : List Loc) : Prop := v = some (.int (6 : Int32)) ∧ Fr n0 L ∧ h = h0
set_option maxRecDepth 65536 in
set_option maxHeartbeats 40000000 in
theorem own_rmmn6 (l : Launch) (Z : State) (aA : Array Value) (hw : ∀ d ∈ tables_1, d.before aA Z = true) (ws : List Jvm.Cond)  (h0 : Heap) (n0 : Nat) (Z0 : n0 ≤ h0.size) :
    MetFree l (⟨"java/lang/Math", "min", "(II)I"⟩ : MethodName) (head1 (Jvm.Cond.code (⟨"java/lang/Math", "min", "(II)I"⟩ : MethodName) jdk_29_method_69_code 2 (some .int) :: ws) ({ frames := 0, cells := 0, slots := 0, locals := 0 } : Room)) (fun a U => a = #[(.int (12 : Int32)), (.int (6 : Int32))] ∧ Z.Warmed39 U.vm ∧ U.heap = h0) (fun _ _ _ _ _ => True) (fun _ U o U' => ∃ v L, o = .returned v ∧ own_Qmn6 Z  h0 n0 v U'.heap L ∧ FrameEnd U o U' L ({ frames := 0, cells := 0, slots := 0, locals := 0 } : Room).cells ({ frames := 0, cells := 0, slots := 0, locals := 0 } : Room).slots) := by
  refine MetFree.of_bodySF (Jvm.Free.JP.mathPlain rfl (by decide +kernel)) hisR ?_
  intro p e s m args below meth c s₁ Bd hml0 hP hK
  obtain ⟨rfl, hZ, hh⟩ := hP
  have hx := Bd.exec
  have hby := Bd.bytes
  have hlk : meth.locks = false := Bd.notSynchronized
  have hml : c.maxLocals = 2 := hml0
  have hown : s.vm.findClass "java/lang/Math" = some m.cls := findClass_of_methodNamed Bd.named
  have hnm := (name_of_methodNamed Bd.named Bd.method).1
  have X0 : Stand p l e ({ frames := 0, cells := 0, slots := 0, locals := 0 } : Room) s m #[(.int (12 : Int32)), (.int (6 : Int32))] below meth c s₁ [] 0 0 := Stand.of_body Bd
  have e0 : s₁.heap = h0 := by rw [← hh, Bd.state]; rfl
  have N0 := Fr.nil n0
  show OG p e below (FE s ({ frames := 0, cells := 0, slots := 0, locals := 0 } : Room).cells ({ frames := 0, cells := 0, slots := 0, locals := 0 } : Room).slots) (own_Qmn6 Z  h0 n0) (s₁.setTop (entryFrame m #[(.int (12 : Int32)), (.int (6 : Int32))] 2))
  refine og_of (fun _ k => castTop (own_efmn6 m ) k) ?_
  refine o_iloadN X0 hx rfl (hb hby own_d17_0) rfl ?_
  refine o_iloadN X0 hx rfl (hb hby own_d17_1) rfl ?_
  refine o_icmpY (pc' := 9) X0 hx (hb hby own_d17_2) (tlt (by decide : ((6 : Int32) < (12 : Int32)))).2.2.1 (by decide) (by decide) ?_
  refine o_iloadN X0 hx rfl (hb hby own_d17_9) rfl ?_
  exact o_retI X0 hx Bd.returns (own_lv X0 hlk (by decide) (by decide)) (hb hby own_d17_10) ⟨rfl, N0, e0⟩
theorem own_d3_0 : decode prog_113_method_1_code 0 = .ok (.aload_n 0, 1) := by decide +kernel
theorem own_d3_1 : decode prog_113_method_1_code 1 = .ok (.invokespecial 3, 3) := by decide +kernel
theorem own_d3_4 : decode prog_113_method_1_code 4 = .ok (.aload_n 0, 1) := by decide +kernel
theorem own_d3_5 : decode prog_113_method_1_code 5 = .ok (.iconst 3, 1) := by decide +kernel
theorem own_d3_6 : decode prog_113_method_1_code 6 = .ok (.iload_n 1, 1) := by decide +kernel
theorem own_d3_7 : decode prog_113_method_1_code 7 = .ok (.imul, 1) := by decide +kernel
theorem own_d3_8 : decode prog_113_method_1_code 8 = .ok (.newarray .int, 2) := by decide +kernel
theorem own_d3_10 : decode prog_113_method_1_code 10 = .ok (.putfield 9, 3) := by decide +kernel
theorem own_d3_13 : decode prog_113_method_1_code 13 = .ok (.return_, 1) := by decide +kernel
theorem own_ef3 (m : MethodId) (a0 : Addr) : entryFrame m #[(.ref a0), (.int (4 : Int32))] 2 = mkF m 0 #[.val (.ref a0), .val (.int (4 : Int32))] [] := by first | (simp [entryFrame, mkF, argsToLocals, Value.category]; done) | rfl
def own_Q3 (Z : State) (a0 : Addr) (h0 : Heap) (n0 : Nat) (v : Option Value) (h : Heap) (L : List Loc) : Prop := ∃ (ma : Addr) (k_ma : ClassId), v = none ∧ Fr n0 L ∧ Keep h0 h [a0] ∧ h0.size ≤ ma ∧ Fld Z h a0 "tidemark/log/RecordMarks$LaterMarks" "marks" "[I" (.ref ma) ∧ Fld Z h a0 "tidemark/log/RecordMarks$LaterMarks" "count" "I" (.int (0 : Int32)) ∧ Arv Z h ma k_ma .int (12 : Int32) [(.int (0 : Int32)), (.int (0 : Int32)), (.int (0 : Int32)), (.int (0 : Int32)), (.int (0 : Int32)), (.int (0 : Int32)), (.int (0 : Int32)), (.int (0 : Int32))] (.int (0 : Int32))
theorem own_pn22 : plainName "tidemark/log/RecordMarks$LaterMarks" = true := by first | (simp [plainName, overriddenIn]; done) | decide +kernel
set_option maxRecDepth 65536 in
set_option maxHeartbeats 40000000 in
theorem own_rm3 (l : Launch) (Z : State) (aA : Array Value) (hw : ∀ d ∈ tables_1, d.before aA Z = true) (ws : List Jvm.Cond) (a0 : Addr) (h0 : Heap) (n0 : Nat) (Z0 : n0 ≤ h0.size) (pre0 : Exa Z h0 a0 "tidemark/log/RecordMarks$LaterMarks") (pre1 : n0 ≤ a0) (pre2 : Fld Z h0 a0 "tidemark/log/RecordMarks$LaterMarks" "marks" "[I" .null) (pre3 : Fld Z h0 a0 "tidemark/log/RecordMarks$LaterMarks" "count" "I" (.int (0 : Int32))) :
    MetFree l (⟨"tidemark/log/RecordMarks$LaterMarks", "<init>", "(I)V"⟩ : MethodName) (head1 (Jvm.Cond.code (⟨"tidemark/log/RecordMarks$LaterMarks", "<init>", "(I)V"⟩ : MethodName) prog_113_method_1_code 2 none :: ws) ({ frames := 1, cells := 1, slots := 12, locals := 12 } : Room)) (fun a U => a = #[(.ref a0), (.int (4 : Int32))] ∧ Z.Warmed39 U.vm ∧ U.heap = h0) (fun _ _ _ _ _ => True) (fun _ U o U' => ∃ v L, o = .returned v ∧ own_Q3 Z a0 h0 n0 v U'.heap L ∧ FrameEnd U o U' L ({ frames := 1, cells := 1, slots := 12, locals := 12 } : Room).cells ({ frames := 1, cells := 1, slots := 12, locals := 12 } : Room).slots) := by
  refine MetFree.of_bodySF (plainFor_of_name own_pn22) hisR ?_
  intro p e s m args below meth c s₁ Bd hml0 hP hK
  obtain ⟨rfl, hZ, hh⟩ := hP
  have hx := Bd.exec
  have hby := Bd.bytes
  have hlk : meth.locks = false := Bd.notSynchronized
  have hml : c.maxLocals = 2 := hml0
  have hown : s.vm.findClass "tidemark/log/RecordMarks$LaterMarks" = some m.cls := findClass_of_methodNamed Bd.named
  have hnm := (name_of_methodNamed Bd.named Bd.method).1
  have X0 : Stand p l e ({ frames := 1, cells := 1, slots := 12, locals := 12 } : Room) s m #[(.ref a0), (.int (4 : Int32))] below meth c s₁ [] 0 0 := Stand.of_body Bd
  have e0 : s₁.heap = h0 := by rw [← hh, Bd.state]; rfl
  have N0 := Fr.nil n0
  show OG p e below (FE s ({ frames := 1, cells := 1, slots := 12, locals := 12 } : Room).cells ({ frames := 1, cells := 1, slots := 12, locals := 12 } : Room).slots) (own_Q3 Z a0 h0 n0) (s₁.setTop (entryFrame m #[(.ref a0), (.int (4 : Int32))] 2))
  refine og_of (fun _ k => castTop (own_ef3 m a0) k) ?_
  refine o_aloadN X0 hx rfl (hb hby own_d3_0) rfl rfl ?_
  obtain ⟨T1, X1, e1, st1⟩ := initO X0 hx hZ hown (hw _ (List.mem_of_getElem? (i := 16) rfl)) (hw _ (List.mem_of_getElem? (i := 8) rfl)) (hw _ (List.mem_of_getElem? (i := 9) rfl)) e0 (g := (mkF m 1 #[.val (.ref a0), .val (.int (4 : Int32))] [(.ref a0)])) rfl (by rw [hml]; rfl) rfl (hb hby own_d3_1) (by decide) (W := 0) (by show 2 * 0 + _ ≤ _; exact Nat.le_of_eq rfl) (by decide)
  refine og_of st1 ?_
  show OG p e below _ _ (T1.setTop (mkF m 4 #[.val (.ref a0), .val (.int (4 : Int32))] []))
  refine o_aloadN X1 hx rfl (hb hby own_d3_4) rfl rfl ?_
  refine o_iconst (z := (3 : Int32)) X1 hx rfl (hb hby own_d3_5) (by decide) ?_
  refine o_iloadN X1 hx rfl (hb hby own_d3_6) rfl ?_
  refine o_imul (z := (12 : Int32)) X1 hx rfl (hb hby own_d3_7) (by decide) ?_
  obtain ⟨T2, h2, k_b2, X2, e2, E2, A2, st2⟩ := newP X1 hx hZ (hw _ (List.mem_of_getElem? (i := 17) rfl)) e1 (g := (mkF m 8 #[.val (.ref a0), .val (.int (4 : Int32))] [(.int (12 : Int32)), (.ref a0)])) rfl (hb hby own_d3_8) rfl (by decide) (cap := 12) (by decide) (by decide) (by decide) (by decide)
  obtain ⟨b2, g2⟩ : ∃ z, z = h0.size := ⟨_, rfl⟩
  rw [← g2] at A2 st2
  have ne3 : a0 ≠ b2 := Nat.ne_of_lt (Nat.lt_of_lt_of_le pre0.lt (Nat.le_of_eq g2.symm))
  have gn2 : n0 ≤ b2 := Nat.le_trans Z0 (Nat.le_of_eq g2.symm)
  have sz2 : h0.size ≤ b2 := Nat.le_trans (Keep.refl h0 [a0]).1 (Nat.le_of_eq g2.symm)
  have Kp4 : Keep h0 h2 [a0] := (Keep.refl h0 [a0]).ext E2
  have V2 : Arv Z h2 b2 k_b2 .int (12 : Int32) [(.int (0 : Int32)), (.int (0 : Int32)), (.int (0 : Int32)), (.int (0 : Int32)), (.int (0 : Int32)), (.int (0 : Int32)), (.int (0 : Int32)), (.int (0 : Int32))] (.int (0 : Int32)) := (Arv.new A2 (by decide)).pad (pad_rep [] (.int (0 : Int32)) 8)
  refine og_of st2 ?_
  show OG p e below _ _ (T2.setTop (mkF m 10 #[.val (.ref a0), .val (.int (4 : Int32))] [(.ref b2), (.ref a0)]))
  have Fc5 : Exa Z h2 a0 "tidemark/log/RecordMarks$LaterMarks" := (Exa.ext E2 pre0)
  have Fc6 : Fld Z h2 a0 "tidemark/log/RecordMarks$LaterMarks" "marks" "[I" .null := (Fld.ext E2 pre2)
  obtain ⟨T7, h7, X7, e7, W7, st7⟩ := putF X2 hx hZ hown (host := "") (Or.inl (hw _ (List.mem_of_getElem? (i := 18) rfl))) Via.refl e2 Fc6 Fc5 (Or.inl (hw _ (List.mem_of_getElem? (i := 19) rfl))) (hw _ (List.mem_of_getElem? (i := 11) rfl)) (ty := (.array .int)) (by decide) rfl rfl (g := (mkF m 10 #[.val (.ref a0), .val (.int (4 : Int32))] [(.ref b2), (.ref a0)])) rfl rfl (hb hby own_d3_10)
  have Fw7 := Fc6.same W7
  have N7 := Fr.snoc X7 N0 pre1
  have Kp8 : Keep h0 h7 [a0] := Kp4.wr W7 (Or.inl (List.mem_of_getElem? (i := 0) rfl))
  refine og_of st7 ?_
  show OG p e below _ _ (T7.setTop (mkF m 13 #[.val (.ref a0), .val (.int (4 : Int32))] []))
  have Fc9 : Fld Z h7 a0 "tidemark/log/RecordMarks$LaterMarks" "count" "I" (.int (0 : Int32)) := (Fld.other W7 (Fld.ext E2 pre3) (Or.inr (slot_ne (Or.inl (hw _ (List.mem_of_getElem? (i := 70) rfl))) (Or.inl (hw _ (List.mem_of_getElem? (i := 19) rfl))) (by decide) (t := .int) (t' := (.array .int)) (by decide) (by decide))))
  have Fc10 : Arv Z h7 b2 k_b2 .int (12 : Int32) [(.int (0 : Int32)), (.int (0 : Int32)), (.int (0 : Int32)), (.int (0 : Int32)), (.int (0 : Int32)), (.int (0 : Int32)), (.int (0 : Int32)), (.int (0 : Int32))] (.int (0 : Int32)) := (V2.other W7 (Ne.symm ne3))
  exact o_ret0 X7 hx Bd.returns (own_lv X7 hlk (by decide) (by decide)) (hb hby own_d3_13) ⟨b2, k_b2, rfl, N7, (by rw [e7]; exact Kp8), sz2, (by rw [e7]; exact Fw7), (by rw [e7]; exact Fc9), (by rw [e7]; exact Fc10)⟩
theorem own_d15_0 : decode prog_113_method_2_code 0 = .ok (.iconst 3, 1) := by decide +kernel
theorem own_d15_1 : decode prog_113_method_2_code 1 = .ok (.aload_n 0, 1) := by decide +kernel
theorem own_d15_2 : decode prog_113_method_2_code 2 = .ok (.getfield 15, 3) := by decide +kernel
theorem own_d15_5 : decode prog_113_method_2_code 5 = .ok (.imul, 1) := by decide +kernel
theorem own_d15_6 : decode prog_113_method_2_code 6 = .ok (.istore 4, 2) := by decide +kernel
theorem own_d15_8 : decode prog_113_method_2_code 8 = .ok (.iload 4, 2) := by decide +kernel
theorem own_d15_10 : decode prog_113_method_2_code 10 = .ok (.aload_n 0, 1) := by decide +kernel
theorem own_d15_11 : decode prog_113_method_2_code 11 = .ok (.getfield 9, 3) := by decide +kernel
theorem own_d15_14 : decode prog_113_method_2_code 14 = .ok (.arraylength, 1) := by decide +kernel
theorem own_d15_15 : decode prog_113_method_2_code 15 = .ok (.if_icmp .ne 25, 3) := by decide +kernel
theorem own_d15_40 : decode prog_113_method_2_code 40 = .ok (.aload_n 0, 1) := by decide +kernel
theorem own_d15_41 : decode prog_113_method_2_code 41 = .ok (.getfield 9, 3) := by decide +kernel
theorem own_d15_44 : decode prog_113_method_2_code 44 = .ok (.iload 4, 2) := by decide +kernel
theorem own_d15_46 : decode prog_113_method_2_code 46 = .ok (.iload_n 1, 1) := by decide +kernel
theorem own_d15_47 : decode prog_113_method_2_code 47 = .ok (.iastore, 1) := by decide +kernel
theorem own_d15_48 : decode prog_113_method_2_code 48 = .ok (.aload_n 0, 1) := by decide +kernel
theorem own_d15_49 : decode prog_113_method_2_code 49 = .ok (.getfield 9, 3) := by decide +kernel
theorem own_d15_52 : decode prog_113_method_2_code 52 = .ok (.iload 4, 2) := by decide +kernel
theorem own_d15_54 : decode prog_113_method_2_code 54 = .ok (.iconst 1, 1) := by decide +kernel
theorem own_d15_55 : decode prog_113_method_2_code 55 = .ok (.iadd, 1) := by decide +kernel
theorem own_d15_56 : decode prog_113_method_2_code 56 = .ok (.lload_n 2, 1) := by decide +kernel
theorem own_d15_57 : decode prog_113_method_2_code 57 = .ok (.bipush 32, 2) := by decide +kernel
theorem own_d15_59 : decode prog_113_method_2_code 59 = .ok (.lushr, 1) := by decide +kernel
theorem own_d15_60 : decode prog_113_method_2_code 60 = .ok (.l2i, 1) := by decide +kernel
theorem own_d15_61 : decode prog_113_method_2_code 61 = .ok (.iastore, 1) := by decide +kernel
theorem own_d15_62 : decode prog_113_method_2_code 62 = .ok (.aload_n 0, 1) := by decide +kernel
theorem own_d15_63 : decode prog_113_method_2_code 63 = .ok (.getfield 9, 3) := by decide +kernel
theorem own_d15_66 : decode prog_113_method_2_code 66 = .ok (.iload 4, 2) := by decide +kernel
theorem own_d15_68 : decode prog_113_method_2_code 68 = .ok (.iconst 2, 1) := by decide +kernel
theorem own_d15_69 : decode prog_113_method_2_code 69 = .ok (.iadd, 1) := by decide +kernel
theorem own_d15_70 : decode prog_113_method_2_code 70 = .ok (.lload_n 2, 1) := by decide +kernel
theorem own_d15_71 : decode prog_113_method_2_code 71 = .ok (.l2i, 1) := by decide +kernel
theorem own_d15_72 : decode prog_113_method_2_code 72 = .ok (.iastore, 1) := by decide +kernel
theorem own_d15_73 : decode prog_113_method_2_code 73 = .ok (.aload_n 0, 1) := by decide +kernel
theorem own_d15_74 : decode prog_113_method_2_code 74 = .ok (.dup, 1) := by decide +kernel
theorem own_d15_75 : decode prog_113_method_2_code 75 = .ok (.getfield 15, 3) := by decide +kernel
theorem own_d15_78 : decode prog_113_method_2_code 78 = .ok (.iconst 1, 1) := by decide +kernel
theorem own_d15_79 : decode prog_113_method_2_code 79 = .ok (.iadd, 1) := by decide +kernel
theorem own_d15_80 : decode prog_113_method_2_code 80 = .ok (.putfield 15, 3) := by decide +kernel
theorem own_d15_83 : decode prog_113_method_2_code 83 = .ok (.return_, 1) := by decide +kernel
theorem own_efla0 (m : MethodId) (a0 : Addr) (p1 : Int32) (q2 : Int64) : entryFrame m #[(.ref a0), (.int p1), (.long q2)] 5 = mkF m 0 #[.val (.ref a0), .val (.int p1), .val (.long q2), .second, .unset] [] := by first | (simp [entryFrame, mkF, argsToLocals, Value.category]; done) | rfl
def own_Qla0 (Z : State) (a0 : Addr) (p1 : Int32) (q2 : Int64) (ma : Addr) (k_ma : ClassId) (m0 : Int32) (m1 : Int32) (m2 : Int32) (m3 : Int32) (m4 : Int32) (m5 : Int32) (m6 : Int32) (m7 : Int32) (h0 : Heap) (n0 : Nat) (v : Option Value) (h : Heap) (L : List Loc) : Prop := v = none ∧ Fr n0 L ∧ Keep h0 h [a0, ma] ∧ Fld Z h a0 "tidemark/log/RecordMarks$LaterMarks" "count" "I" (.int (1 : Int32)) ∧ Fld Z h a0 "tidemark/log/RecordMarks$LaterMarks" "marks" "[I" (.ref ma) ∧ Arv Z h ma k_ma .int (12 : Int32) [(.int p1), (.int (((q2.toUInt64 >>> ((32 : Int32) &&& 0x3f).toInt64.toUInt64).toInt64).toInt32)), (.int (q2.toInt32)), (.int m3), (.int m4), (.int m5), (.int m6), (.int m7)] (.int (0 : Int32))
set_option maxRecDepth 65536 in
set_option maxHeartbeats 40000000 in
theorem own_rmla0 (l : Launch) (Z : State) (aA : Array Value) (hw : ∀ d ∈ tables_1, d.before aA Z = true) (ws : List Jvm.Cond) (a0 : Addr) (p1 : Int32) (q2 : Int64) (ma : Addr) (k_ma : ClassId) (m0 : Int32) (m1 : Int32) (m2 : Int32) (m3 : Int32) (m4 : Int32) (m5 : Int32) (m6 : Int32) (m7 : Int32) (h0 : Heap) (n0 : Nat) (Z0 : n0 ≤ h0.size) (pre0 : Exa Z h0 a0 "tidemark/log/RecordMarks$LaterMarks") (pre1 : n0 ≤ a0) (pre2 : Fld Z h0 a0 "tidemark/log/RecordMarks$LaterMarks" "count" "I" (.int (0 : Int32))) (pre3 : Fld Z h0 a0 "tidemark/log/RecordMarks$LaterMarks" "marks" "[I" (.ref ma)) (pre4 : Arv Z h0 ma k_ma .int (12 : Int32) [(.int m0), (.int m1), (.int m2), (.int m3), (.int m4), (.int m5), (.int m6), (.int m7)] (.int (0 : Int32))) (pre5 : n0 ≤ ma) (pre6 : a0 ≠ ma) :
    MetFree l (⟨"tidemark/log/RecordMarks$LaterMarks", "add", "(IJ)V"⟩ : MethodName) (head1 (Jvm.Cond.code (⟨"tidemark/log/RecordMarks$LaterMarks", "add", "(IJ)V"⟩ : MethodName) prog_113_method_2_code 5 none :: ws) ({ frames := 0, cells := 0, slots := 0, locals := 0 } : Room)) (fun a U => a = #[(.ref a0), (.int p1), (.long q2)] ∧ Z.Warmed39 U.vm ∧ U.heap = h0) (fun _ _ _ _ _ => True) (fun _ U o U' => ∃ v L, o = .returned v ∧ own_Qla0 Z a0 p1 q2 ma k_ma m0 m1 m2 m3 m4 m5 m6 m7 h0 n0 v U'.heap L ∧ FrameEnd U o U' L ({ frames := 0, cells := 0, slots := 0, locals := 0 } : Room).cells ({ frames := 0, cells := 0, slots := 0, locals := 0 } : Room).slots) := by
  refine MetFree.of_bodySF (plainFor_of_name own_pn22) hisR ?_
  intro p e s m args below meth c s₁ Bd hml0 hP hK
  obtain ⟨rfl, hZ, hh⟩ := hP
  have hx := Bd.exec
  have hby := Bd.bytes
  have hlk : meth.locks = false := Bd.notSynchronized
  have hml : c.maxLocals = 5 := hml0
  have hown : s.vm.findClass "tidemark/log/RecordMarks$LaterMarks" = some m.cls := findClass_of_methodNamed Bd.named
  have hnm := (name_of_methodNamed Bd.named Bd.method).1
  have X0 : Stand p l e ({ frames := 0, cells := 0, slots := 0, locals := 0 } : Room) s m #[(.ref a0), (.int p1), (.long q2)] below meth c s₁ [] 0 0 := Stand.of_body Bd
  have e0 : s₁.heap = h0 := by rw [← hh, Bd.state]; rfl
  have N0 := Fr.nil n0
  show OG p e below (FE s ({ frames := 0, cells := 0, slots := 0, locals := 0 } : Room).cells ({ frames := 0, cells := 0, slots := 0, locals := 0 } : Room).slots) (own_Qla0 Z a0 p1 q2 ma k_ma m0 m1 m2 m3 m4 m5 m6 m7 h0 n0) (s₁.setTop (entryFrame m #[(.ref a0), (.int p1), (.long q2)] 5))
  refine og_of (fun _ k => castTop (own_efla0 m a0 p1 q2) k) ?_
  refine o_iconst (z := (3 : Int32)) X0 hx rfl (hb hby own_d15_0) (by decide) ?_
  refine o_aloadN X0 hx rfl (hb hby own_d15_1) rfl rfl ?_
  obtain ⟨T1, X1, e1, st1⟩ := getF X0 hx hZ hown (host := "") (Or.inl (hw _ (List.mem_of_getElem? (i := 69) rfl))) Via.refl e0 pre2 (g := (mkF m 2 #[.val (.ref a0), .val (.int p1), .val (.long q2), .second, .unset] [(.ref a0), (.int (3 : Int32))])) rfl rfl (hb hby own_d15_2)
  refine og_of st1 ?_
  show OG p e below _ _ (T1.setTop (mkF m 5 #[.val (.ref a0), .val (.int p1), .val (.long q2), .second, .unset] [(.int (0 : Int32)), (.int (3 : Int32))]))
  refine o_imul (z := (0 : Int32)) X1 hx rfl (hb hby own_d15_5) (by decide) ?_
  refine o_istore X1 hx rfl (hb hby own_d15_6) (L' := #[.val (.ref a0), .val (.int p1), .val (.long q2), .second, .val (.int (0 : Int32))]) rfl ?_
  refine o_iload X1 hx rfl (hb hby own_d15_8) rfl ?_
  refine o_aloadN X1 hx rfl (hb hby own_d15_10) rfl rfl ?_
  obtain ⟨T2, X2, e2, st2⟩ := getF X1 hx hZ hown (host := "") (Or.inl (hw _ (List.mem_of_getElem? (i := 18) rfl))) Via.refl e1 pre3 (g := (mkF m 11 #[.val (.ref a0), .val (.int p1), .val (.long q2), .second, .val (.int (0 : Int32))] [(.ref a0), (.int (0 : Int32))])) rfl rfl (hb hby own_d15_11)
  refine og_of st2 ?_
  show OG p e below _ _ (T2.setTop (mkF m 14 #[.val (.ref a0), .val (.int p1), .val (.long q2), .second, .val (.int (0 : Int32))] [(.ref ma), (.int (0 : Int32))]))
  obtain ⟨clv3, Arv3, qv3, Sv3, Nv3, Hv3, Gv3⟩ := id pre4
  have hlv3 := X2.arraylength hx (by rw [e2]; exact Arv3.1) (State.isArrayOf_alike hZ.alike Arv3.2.1) (g := (mkF m 14 #[.val (.ref a0), .val (.int p1), .val (.long q2), .second, .val (.int (0 : Int32))] [(.ref ma), (.int (0 : Int32))])) rfl rfl (hb hby own_d15_14)
  rw [len_of Sv3 Nv3] at hlv3
  refine og_of hlv3 ?_
  show OG p e below _ _ (T2.setTop (mkF m 15 #[.val (.ref a0), .val (.int p1), .val (.long q2), .second, .val (.int (0 : Int32))] [(.int (12 : Int32)), (.int (0 : Int32))]))
  refine o_icmpY (pc' := 40) X2 hx (hb hby own_d15_15) (feq (by decide : ¬ ((0 : Int32) = (12 : Int32)))).2 (by decide) (by decide) ?_
  refine o_aloadN X2 hx rfl (hb hby own_d15_40) rfl rfl ?_
  obtain ⟨T4, X4, e4, st4⟩ := getF X2 hx hZ hown (host := "") (Or.inl (hw _ (List.mem_of_getElem? (i := 18) rfl))) Via.refl e2 pre3 (g := (mkF m 41 #[.val (.ref a0), .val (.int p1), .val (.long q2), .second, .val (.int (0 : Int32))] [(.ref a0)])) rfl rfl (hb hby own_d15_41)
  refine og_of st4 ?_
  show OG p e below _ _ (T4.setTop (mkF m 44 #[.val (.ref a0), .val (.int p1), .val (.long q2), .second, .val (.int (0 : Int32))] [(.ref ma)]))
  refine o_iload X4 hx rfl (hb hby own_d15_44) rfl ?_
  refine o_iloadN X4 hx rfl (hb hby own_d15_46) rfl ?_
  obtain ⟨clv5, Arv5, qv5, Sv5, Nv5, Hv5, Gv5⟩ := id pre4
  have hin6 : ¬ ((0 : Int32) < 0 ∨ clv5.slots.size ≤ ((0 : Int32)).toNatClampNeg) := inb_of Sv5 ⟨by decide, by decide⟩
  obtain ⟨T6, h6, X6, e6, W6, st6⟩ := stI X4 hx hZ e4 Arv5 (j := (0 : Int32)) hin6 (g := (mkF m 47 #[.val (.ref a0), .val (.int p1), .val (.long q2), .second, .val (.int (0 : Int32))] [(.int p1), (.int (0 : Int32)), (.ref ma)])) rfl rfl (hb hby own_d15_47)
  have V6 : Arv Z h6 ma k_ma .int (12 : Int32) [(.int p1), (.int m1), (.int m2), (.int m3), (.int m4), (.int m5), (.int m6), (.int m7)] (.int (0 : Int32)) := Arv.set Arv5 qv5 Sv5 Nv5 Hv5 Gv5 rfl W6 0 rfl (Nat.le_of_ble_eq_true rfl)
  have N6 := Fr.snoc X6 N0 pre5
  have Kp7 : Keep h0 h6 [a0, ma] := (Keep.refl h0 [a0, ma]).wr W6 (Or.inl (List.mem_of_getElem? (i := 1) rfl))
  refine og_of st6 ?_
  show OG p e below _ _ (T6.setTop (mkF m 48 #[.val (.ref a0), .val (.int p1), .val (.long q2), .second, .val (.int (0 : Int32))] []))
  refine o_aloadN X6 hx rfl (hb hby own_d15_48) rfl rfl ?_
  have Fc8 : Fld Z h6 a0 "tidemark/log/RecordMarks$LaterMarks" "marks" "[I" (.ref ma) := (Fld.other W6 pre3 (Or.inl pre6))
  obtain ⟨T9, X9, e9, st9⟩ := getF X6 hx hZ hown (host := "") (Or.inl (hw _ (List.mem_of_getElem? (i := 18) rfl))) Via.refl e6 Fc8 (g := (mkF m 49 #[.val (.ref a0), .val (.int p1), .val (.long q2), .second, .val (.int (0 : Int32))] [(.ref a0)])) rfl rfl (hb hby own_d15_49)
  refine og_of st9 ?_
  show OG p e below _ _ (T9.setTop (mkF m 52 #[.val (.ref a0), .val (.int p1), .val (.long q2), .second, .val (.int (0 : Int32))] [(.ref ma)]))
  refine o_iload X9 hx rfl (hb hby own_d15_52) rfl ?_
  refine o_iconst (z := (1 : Int32)) X9 hx rfl (hb hby own_d15_54) (by decide) ?_
  refine o_iadd (z := (1 : Int32)) X9 hx rfl (hb hby own_d15_55) (by decide) ?_
  refine o_lloadN X9 hx rfl (hb hby own_d15_56) rfl ?_
  refine o_bipush (z := (32 : Int32)) X9 hx rfl (hb hby own_d15_57) (by decide) ?_
  refine o_lushr (z := ((q2.toUInt64 >>> ((32 : Int32) &&& 0x3f).toInt64.toUInt64).toInt64)) X9 hx rfl (hb hby own_d15_59) rfl ?_
  refine o_l2i (z := (((q2.toUInt64 >>> ((32 : Int32) &&& 0x3f).toInt64.toUInt64).toInt64).toInt32)) X9 hx rfl (hb hby own_d15_60) rfl ?_
  obtain ⟨clv10, Arv10, qv10, Sv10, Nv10, Hv10, Gv10⟩ := id V6
  have hin11 : ¬ ((1 : Int32) < 0 ∨ clv10.slots.size ≤ ((1 : Int32)).toNatClampNeg) := inb_of Sv10 ⟨by decide, by decide⟩
  obtain ⟨T11, h11, X11, e11, W11, st11⟩ := stI X9 hx hZ e9 Arv10 (j := (1 : Int32)) hin11 (g := (mkF m 61 #[.val (.ref a0), .val (.int p1), .val (.long q2), .second, .val (.int (0 : Int32))] [(.int (((q2.toUInt64 >>> ((32 : Int32) &&& 0x3f).toInt64.toUInt64).toInt64).toInt32)), (.int (1 : Int32)), (.ref ma)])) rfl rfl (hb hby own_d15_61)
  have V11 : Arv Z h11 ma k_ma .int (12 : Int32) [(.int p1), (.int (((q2.toUInt64 >>> ((32 : Int32) &&& 0x3f).toInt64.toUInt64).toInt64).toInt32)), (.int m2), (.int m3), (.int m4), (.int m5), (.int m6), (.int m7)] (.int (0 : Int32)) := Arv.set Arv10 qv10 Sv10 Nv10 Hv10 Gv10 rfl W11 1 rfl (Nat.le_of_ble_eq_true rfl)
  have N11 := Fr.snoc X11 N6 pre5
  have Kp12 : Keep h0 h11 [a0, ma] := Kp7.wr W11 (Or.inl (List.mem_of_getElem? (i := 1) rfl))
  refine og_of st11 ?_
  show OG p e below _ _ (T11.setTop (mkF m 62 #[.val (.ref a0), .val (.int p1), .val (.long q2), .second, .val (.int (0 : Int32))] []))
  refine o_aloadN X11 hx rfl (hb hby own_d15_62) rfl rfl ?_
  have Fc13 : Fld Z h11 a0 "tidemark/log/RecordMarks$LaterMarks" "marks" "[I" (.ref ma) := (Fld.other W11 Fc8 (Or.inl pre6))
  obtain ⟨T14, X14, e14, st14⟩ := getF X11 hx hZ hown (host := "") (Or.inl (hw _ (List.mem_of_getElem? (i := 18) rfl))) Via.refl e11 Fc13 (g := (mkF m 63 #[.val (.ref a0), .val (.int p1), .val (.long q2), .second, .val (.int (0 : Int32))] [(.ref a0)])) rfl rfl (hb hby own_d15_63)
  refine og_of st14 ?_
  show OG p e below _ _ (T14.setTop (mkF m 66 #[.val (.ref a0), .val (.int p1), .val (.long q2), .second, .val (.int (0 : Int32))] [(.ref ma)]))
  refine o_iload X14 hx rfl (hb hby own_d15_66) rfl ?_
  refine o_iconst (z := (2 : Int32)) X14 hx rfl (hb hby own_d15_68) (by decide) ?_
  refine o_iadd (z := (2 : Int32)) X14 hx rfl (hb hby own_d15_69) (by decide) ?_
  refine o_lloadN X14 hx rfl (hb hby own_d15_70) rfl ?_
  refine o_l2i (z := (q2.toInt32)) X14 hx rfl (hb hby own_d15_71) rfl ?_
  obtain ⟨clv15, Arv15, qv15, Sv15, Nv15, Hv15, Gv15⟩ := id V11
  have hin16 : ¬ ((2 : Int32) < 0 ∨ clv15.slots.size ≤ ((2 : Int32)).toNatClampNeg) := inb_of Sv15 ⟨by decide, by decide⟩
  obtain ⟨T16, h16, X16, e16, W16, st16⟩ := stI X14 hx hZ e14 Arv15 (j := (2 : Int32)) hin16 (g := (mkF m 72 #[.val (.ref a0), .val (.int p1), .val (.long q2), .second, .val (.int (0 : Int32))] [(.int (q2.toInt32)), (.int (2 : Int32)), (.ref ma)])) rfl rfl (hb hby own_d15_72)
  have V16 : Arv Z h16 ma k_ma .int (12 : Int32) [(.int p1), (.int (((q2.toUInt64 >>> ((32 : Int32) &&& 0x3f).toInt64.toUInt64).toInt64).toInt32)), (.int (q2.toInt32)), (.int m3), (.int m4), (.int m5), (.int m6), (.int m7)] (.int (0 : Int32)) := Arv.set Arv15 qv15 Sv15 Nv15 Hv15 Gv15 rfl W16 2 rfl (Nat.le_of_ble_eq_true rfl)
  have N16 := Fr.snoc X16 N11 pre5
  have Kp17 : Keep h0 h16 [a0, ma] := Kp12.wr W16 (Or.inl (List.mem_of_getElem? (i := 1) rfl))
  refine og_of st16 ?_
  show OG p e below _ _ (T16.setTop (mkF m 73 #[.val (.ref a0), .val (.int p1), .val (.long q2), .second, .val (.int (0 : Int32))] []))
  refine o_aloadN X16 hx rfl (hb hby own_d15_73) rfl rfl ?_
  refine o_dup X16 hx rfl (hb hby own_d15_74) rfl ?_
  have Fc18 : Fld Z h16 a0 "tidemark/log/RecordMarks$LaterMarks" "count" "I" (.int (0 : Int32)) := (Fld.other W16 (Fld.other W11 (Fld.other W6 pre2 (Or.inl pre6)) (Or.inl pre6)) (Or.inl pre6))
  obtain ⟨T19, X19, e19, st19⟩ := getF X16 hx hZ hown (host := "") (Or.inl (hw _ (List.mem_of_getElem? (i := 69) rfl))) Via.refl e16 Fc18 (g := (mkF m 75 #[.val (.ref a0), .val (.int p1), .val (.long q2), .second, .val (.int (0 : Int32))] [(.ref a0), (.ref a0)])) rfl rfl (hb hby own_d15_75)
  refine og_of st19 ?_
  show OG p e below _ _ (T19.setTop (mkF m 78 #[.val (.ref a0), .val (.int p1), .val (.long q2), .second, .val (.int (0 : Int32))] [(.int (0 : Int32)), (.ref a0)]))
  refine o_iconst (z := (1 : Int32)) X19 hx rfl (hb hby own_d15_78) (by decide) ?_
  refine o_iadd (z := (1 : Int32)) X19 hx rfl (hb hby own_d15_79) (by decide) ?_
  have Fc20 : Exa Z h16 a0 "tidemark/log/RecordMarks$LaterMarks" := (Exa.wr W16 (Exa.wr W11 (Exa.wr W6 pre0)))
  obtain ⟨T21, h21, X21, e21, W21, st21⟩ := putF X19 hx hZ hown (host := "") (Or.inl (hw _ (List.mem_of_getElem? (i := 69) rfl))) Via.refl e19 Fc18 Fc20 (Or.inl (hw _ (List.mem_of_getElem? (i := 70) rfl))) (hw _ (List.mem_of_getElem? (i := 11) rfl)) (ty := .int) (by decide) rfl rfl (g := (mkF m 80 #[.val (.ref a0), .val (.int p1), .val (.long q2), .second, .val (.int (0 : Int32))] [(.int (1 : Int32)), (.ref a0)])) rfl rfl (hb hby own_d15_80)
  have Fw21 := Fc18.same W21
  have N21 := Fr.snoc X21 N16 pre1
  have Kp22 : Keep h0 h21 [a0, ma] := Kp17.wr W21 (Or.inl (List.mem_of_getElem? (i := 0) rfl))
  refine og_of st21 ?_
  show OG p e below _ _ (T21.setTop (mkF m 83 #[.val (.ref a0), .val (.int p1), .val (.long q2), .second, .val (.int (0 : Int32))] []))
  have Fc23 : Fld Z h21 a0 "tidemark/log/RecordMarks$LaterMarks" "marks" "[I" (.ref ma) := (Fld.other W21 (Fld.other W16 Fc13 (Or.inl pre6)) (Or.inr (slot_ne (Or.inl (hw _ (List.mem_of_getElem? (i := 19) rfl))) (Or.inl (hw _ (List.mem_of_getElem? (i := 70) rfl))) (by decide) (t := (.array .int)) (t' := .int) (by decide) (by decide))))
  have Fc24 : Arv Z h21 ma k_ma .int (12 : Int32) [(.int p1), (.int (((q2.toUInt64 >>> ((32 : Int32) &&& 0x3f).toInt64.toUInt64).toInt64).toInt32)), (.int (q2.toInt32)), (.int m3), (.int m4), (.int m5), (.int m6), (.int m7)] (.int (0 : Int32)) := (V16.other W21 (Ne.symm pre6))
  exact o_ret0 X21 hx Bd.returns (own_lv X21 hlk (by decide) (by decide)) (hb hby own_d15_83) ⟨rfl, N21, (by rw [e21]; exact Kp22), (by rw [e21]; exact Fw21), (by rw [e21]; exact Fc23), (by rw [e21]; exact Fc24)⟩
theorem own_efla1 (m : MethodId) (a0 : Addr) (p1 : Int32) (q2 : Int64) : entryFrame m #[(.ref a0), (.int p1), (.long q2)] 5 = mkF m 0 #[.val (.ref a0), .val (.int p1), .val (.long q2), .second, .unset] [] := by first | (simp [entryFrame, mkF, argsToLocals, Value.category]; done) | rfl
def own_Qla1 (Z : State) (a0 : Addr) (p1 : Int32) (q2 : Int64) (ma : Addr) (k_ma : ClassId) (m0 : Int32) (m1 : Int32) (m2 : Int32) (m3 : Int32) (m4 : Int32) (m5 : Int32) (m6 : Int32) (m7 : Int32) (h0 : Heap) (n0 : Nat) (v : Option Value) (h : Heap) (L : List Loc) : Prop := v = none ∧ Fr n0 L ∧ Keep h0 h [a0, ma] ∧ Fld Z h a0 "tidemark/log/RecordMarks$LaterMarks" "count" "I" (.int (2 : Int32)) ∧ Fld Z h a0 "tidemark/log/RecordMarks$LaterMarks" "marks" "[I" (.ref ma) ∧ Arv Z h ma k_ma .int (12 : Int32) [(.int m0), (.int m1), (.int m2), (.int p1), (.int (((q2.toUInt64 >>> ((32 : Int32) &&& 0x3f).toInt64.toUInt64).toInt64).toInt32)), (.int (q2.toInt32)), (.int m6), (.int m7)] (.int (0 : Int32))
set_option maxRecDepth 65536 in
set_option maxHeartbeats 40000000 in
theorem own_rmla1 (l : Launch) (Z : State) (aA : Array Value) (hw : ∀ d ∈ tables_1, d.before aA Z = true) (ws : List Jvm.Cond) (a0 : Addr) (p1 : Int32) (q2 : Int64) (ma : Addr) (k_ma : ClassId) (m0 : Int32) (m1 : Int32) (m2 : Int32) (m3 : Int32) (m4 : Int32) (m5 : Int32) (m6 : Int32) (m7 : Int32) (h0 : Heap) (n0 : Nat) (Z0 : n0 ≤ h0.size) (pre0 : Exa Z h0 a0 "tidemark/log/RecordMarks$LaterMarks") (pre1 : n0 ≤ a0) (pre2 : Fld Z h0 a0 "tidemark/log/RecordMarks$LaterMarks" "count" "I" (.int (1 : Int32))) (pre3 : Fld Z h0 a0 "tidemark/log/RecordMarks$LaterMarks" "marks" "[I" (.ref ma)) (pre4 : Arv Z h0 ma k_ma .int (12 : Int32) [(.int m0), (.int m1), (.int m2), (.int m3), (.int m4), (.int m5), (.int m6), (.int m7)] (.int (0 : Int32))) (pre5 : n0 ≤ ma) (pre6 : a0 ≠ ma) :
    MetFree l (⟨"tidemark/log/RecordMarks$LaterMarks", "add", "(IJ)V"⟩ : MethodName) (head1 (Jvm.Cond.code (⟨"tidemark/log/RecordMarks$LaterMarks", "add", "(IJ)V"⟩ : MethodName) prog_113_method_2_code 5 none :: ws) ({ frames := 0, cells := 0, slots := 0, locals := 0 } : Room)) (fun a U => a = #[(.ref a0), (.int p1), (.long q2)] ∧ Z.Warmed39 U.vm ∧ U.heap = h0) (fun _ _ _ _ _ => True) (fun _ U o U' => ∃ v L, o = .returned v ∧ own_Qla1 Z a0 p1 q2 ma k_ma m0 m1 m2 m3 m4 m5 m6 m7 h0 n0 v U'.heap L ∧ FrameEnd U o U' L ({ frames := 0, cells := 0, slots := 0, locals := 0 } : Room).cells ({ frames := 0, cells := 0, slots := 0, locals := 0 } : Room).slots) := by
  refine MetFree.of_bodySF (plainFor_of_name own_pn22) hisR ?_
  intro p e s m args below meth c s₁ Bd hml0 hP hK
  obtain ⟨rfl, hZ, hh⟩ := hP
  have hx := Bd.exec
  have hby := Bd.bytes
  have hlk : meth.locks = false := Bd.notSynchronized
  have hml : c.maxLocals = 5 := hml0
  have hown : s.vm.findClass "tidemark/log/RecordMarks$LaterMarks" = some m.cls := findClass_of_methodNamed Bd.named
  have hnm := (name_of_methodNamed Bd.named Bd.method).1
  have X0 : Stand p l e ({ frames := 0, cells := 0, slots := 0, locals := 0 } : Room) s m #[(.ref a0), (.int p1), (.long q2)] below meth c s₁ [] 0 0 := Stand.of_body Bd
  have e0 : s₁.heap = h0 := by rw [← hh, Bd.state]; rfl
  have N0 := Fr.nil n0
  show OG p e below (FE s ({ frames := 0, cells := 0, slots := 0, locals := 0 } : Room).cells ({ frames := 0, cells := 0, slots := 0, locals := 0 } : Room).slots) (own_Qla1 Z a0 p1 q2 ma k_ma m0 m1 m2 m3 m4 m5 m6 m7 h0 n0) (s₁.setTop (entryFrame m #[(.ref a0), (.int p1), (.long q2)] 5))
  refine og_of (fun _ k => castTop (own_efla1 m a0 p1 q2) k) ?_
  refine o_iconst (z := (3 : Int32)) X0 hx rfl (hb hby own_d15_0) (by decide) ?_
  refine o_aloadN X0 hx rfl (hb hby own_d15_1) rfl rfl ?_
  obtain ⟨T1, X1, e1, st1⟩ := getF X0 hx hZ hown (host := "") (Or.inl (hw _ (List.mem_of_getElem? (i := 69) rfl))) Via.refl e0 pre2 (g := (mkF m 2 #[.val (.ref a0), .val (.int p1), .val (.long q2), .second, .unset] [(.ref a0), (.int (3 : Int32))])) rfl rfl (hb hby own_d15_2)
  refine og_of st1 ?_
  show OG p e below _ _ (T1.setTop (mkF m 5 #[.val (.ref a0), .val (.int p1), .val (.long q2), .second, .unset] [(.int (1 : Int32)), (.int (3 : Int32))]))
  refine o_imul (z := (3 : Int32)) X1 hx rfl (hb hby own_d15_5) (by decide) ?_
  refine o_istore X1 hx rfl (hb hby own_d15_6) (L' := #[.val (.ref a0), .val (.int p1), .val (.long q2), .second, .val (.int (3 : Int32))]) rfl ?_
  refine o_iload X1 hx rfl (hb hby own_d15_8) rfl ?_
  refine o_aloadN X1 hx rfl (hb hby own_d15_10) rfl rfl ?_
  obtain ⟨T2, X2, e2, st2⟩ := getF X1 hx hZ hown (host := "") (Or.inl (hw _ (List.mem_of_getElem? (i := 18) rfl))) Via.refl e1 pre3 (g := (mkF m 11 #[.val (.ref a0), .val (.int p1), .val (.long q2), .second, .val (.int (3 : Int32))] [(.ref a0), (.int (3 : Int32))])) rfl rfl (hb hby own_d15_11)
  refine og_of st2 ?_
  show OG p e below _ _ (T2.setTop (mkF m 14 #[.val (.ref a0), .val (.int p1), .val (.long q2), .second, .val (.int (3 : Int32))] [(.ref ma), (.int (3 : Int32))]))
  obtain ⟨clv3, Arv3, qv3, Sv3, Nv3, Hv3, Gv3⟩ := id pre4
  have hlv3 := X2.arraylength hx (by rw [e2]; exact Arv3.1) (State.isArrayOf_alike hZ.alike Arv3.2.1) (g := (mkF m 14 #[.val (.ref a0), .val (.int p1), .val (.long q2), .second, .val (.int (3 : Int32))] [(.ref ma), (.int (3 : Int32))])) rfl rfl (hb hby own_d15_14)
  rw [len_of Sv3 Nv3] at hlv3
  refine og_of hlv3 ?_
  show OG p e below _ _ (T2.setTop (mkF m 15 #[.val (.ref a0), .val (.int p1), .val (.long q2), .second, .val (.int (3 : Int32))] [(.int (12 : Int32)), (.int (3 : Int32))]))
  refine o_icmpY (pc' := 40) X2 hx (hb hby own_d15_15) (feq (by decide : ¬ ((3 : Int32) = (12 : Int32)))).2 (by decide) (by decide) ?_
  refine o_aloadN X2 hx rfl (hb hby own_d15_40) rfl rfl ?_
  obtain ⟨T4, X4, e4, st4⟩ := getF X2 hx hZ hown (host := "") (Or.inl (hw _ (List.mem_of_getElem? (i := 18) rfl))) Via.refl e2 pre3 (g := (mkF m 41 #[.val (.ref a0), .val (.int p1), .val (.long q2), .second, .val (.int (3 : Int32))] [(.ref a0)])) rfl rfl (hb hby own_d15_41)
  refine og_of st4 ?_
  show OG p e below _ _ (T4.setTop (mkF m 44 #[.val (.ref a0), .val (.int p1), .val (.long q2), .second, .val (.int (3 : Int32))] [(.ref ma)]))
  refine o_iload X4 hx rfl (hb hby own_d15_44) rfl ?_
  refine o_iloadN X4 hx rfl (hb hby own_d15_46) rfl ?_
  obtain ⟨clv5, Arv5, qv5, Sv5, Nv5, Hv5, Gv5⟩ := id pre4
  have hin6 : ¬ ((3 : Int32) < 0 ∨ clv5.slots.size ≤ ((3 : Int32)).toNatClampNeg) := inb_of Sv5 ⟨by decide, by decide⟩
  obtain ⟨T6, h6, X6, e6, W6, st6⟩ := stI X4 hx hZ e4 Arv5 (j := (3 : Int32)) hin6 (g := (mkF m 47 #[.val (.ref a0), .val (.int p1), .val (.long q2), .second, .val (.int (3 : Int32))] [(.int p1), (.int (3 : Int32)), (.ref ma)])) rfl rfl (hb hby own_d15_47)
  have V6 : Arv Z h6 ma k_ma .int (12 : Int32) [(.int m0), (.int m1), (.int m2), (.int p1), (.int m4), (.int m5), (.int m6), (.int m7)] (.int (0 : Int32)) := Arv.set Arv5 qv5 Sv5 Nv5 Hv5 Gv5 rfl W6 3 rfl (Nat.le_of_ble_eq_true rfl)
  have N6 := Fr.snoc X6 N0 pre5
  have Kp7 : Keep h0 h6 [a0, ma] := (Keep.refl h0 [a0, ma]).wr W6 (Or.inl (List.mem_of_getElem? (i := 1) rfl))
  refine og_of st6 ?_
  show OG p e below _ _ (T6.setTop (mkF m 48 #[.val (.ref a0), .val (.int p1), .val (.long q2), .second, .val (.int (3 : Int32))] []))
  refine o_aloadN X6 hx rfl (hb hby own_d15_48) rfl rfl ?_
  have Fc8 : Fld Z h6 a0 "tidemark/log/RecordMarks$LaterMarks" "marks" "[I" (.ref ma) := (Fld.other W6 pre3 (Or.inl pre6))
  obtain ⟨T9, X9, e9, st9⟩ := getF X6 hx hZ hown (host := "") (Or.inl (hw _ (List.mem_of_getElem? (i := 18) rfl))) Via.refl e6 Fc8 (g := (mkF m 49 #[.val (.ref a0), .val (.int p1), .val (.long q2), .second, .val (.int (3 : Int32))] [(.ref a0)])) rfl rfl (hb hby own_d15_49)
  refine og_of st9 ?_
  show OG p e below _ _ (T9.setTop (mkF m 52 #[.val (.ref a0), .val (.int p1), .val (.long q2), .second, .val (.int (3 : Int32))] [(.ref ma)]))
  refine o_iload X9 hx rfl (hb hby own_d15_52) rfl ?_
  refine o_iconst (z := (1 : Int32)) X9 hx rfl (hb hby own_d15_54) (by decide) ?_
  refine o_iadd (z := (4 : Int32)) X9 hx rfl (hb hby own_d15_55) (by decide) ?_
  refine o_lloadN X9 hx rfl (hb hby own_d15_56) rfl ?_
  refine o_bipush (z := (32 : Int32)) X9 hx rfl (hb hby own_d15_57) (by decide) ?_
  refine o_lushr (z := ((q2.toUInt64 >>> ((32 : Int32) &&& 0x3f).toInt64.toUInt64).toInt64)) X9 hx rfl (hb hby own_d15_59) rfl ?_
  refine o_l2i (z := (((q2.toUInt64 >>> ((32 : Int32) &&& 0x3f).toInt64.toUInt64).toInt64).toInt32)) X9 hx rfl (hb hby own_d15_60) rfl ?_
  obtain ⟨clv10, Arv10, qv10, Sv10, Nv10, Hv10, Gv10⟩ := id V6
  have hin11 : ¬ ((4 : Int32) < 0 ∨ clv10.slots.size ≤ ((4 : Int32)).toNatClampNeg) := inb_of Sv10 ⟨by decide, by decide⟩
  obtain ⟨T11, h11, X11, e11, W11, st11⟩ := stI X9 hx hZ e9 Arv10 (j := (4 : Int32)) hin11 (g := (mkF m 61 #[.val (.ref a0), .val (.int p1), .val (.long q2), .second, .val (.int (3 : Int32))] [(.int (((q2.toUInt64 >>> ((32 : Int32) &&& 0x3f).toInt64.toUInt64).toInt64).toInt32)), (.int (4 : Int32)), (.ref ma)])) rfl rfl (hb hby own_d15_61)
  have V11 : Arv Z h11 ma k_ma .int (12 : Int32) [(.int m0), (.int m1), (.int m2), (.int p1), (.int (((q2.toUInt64 >>> ((32 : Int32) &&& 0x3f).toInt64.toUInt64).toInt64).toInt32)), (.int m5), (.int m6), (.int m7)] (.int (0 : Int32)) := Arv.set Arv10 qv10 Sv10 Nv10 Hv10 Gv10 rfl W11 4 rfl (Nat.le_of_ble_eq_true rfl)
  have N11 := Fr.snoc X11 N6 pre5
  have Kp12 : Keep h0 h11 [a0, ma] := Kp7.wr W11 (Or.inl (List.mem_of_getElem? (i := 1) rfl))
  refine og_of st11 ?_
  show OG p e below _ _ (T11.setTop (mkF m 62 #[.val (.ref a0), .val (.int p1), .val (.long q2), .second, .val (.int (3 : Int32))] []))
  refine o_aloadN X11 hx rfl (hb hby own_d15_62) rfl rfl ?_
  have Fc13 : Fld Z h11 a0 "tidemark/log/RecordMarks$LaterMarks" "marks" "[I" (.ref ma) := (Fld.other W11 Fc8 (Or.inl pre6))
  obtain ⟨T14, X14, e14, st14⟩ := getF X11 hx hZ hown (host := "") (Or.inl (hw _ (List.mem_of_getElem? (i := 18) rfl))) Via.refl e11 Fc13 (g := (mkF m 63 #[.val (.ref a0), .val (.int p1), .val (.long q2), .second, .val (.int (3 : Int32))] [(.ref a0)])) rfl rfl (hb hby own_d15_63)
  refine og_of st14 ?_
  show OG p e below _ _ (T14.setTop (mkF m 66 #[.val (.ref a0), .val (.int p1), .val (.long q2), .second, .val (.int (3 : Int32))] [(.ref ma)]))
  refine o_iload X14 hx rfl (hb hby own_d15_66) rfl ?_
  refine o_iconst (z := (2 : Int32)) X14 hx rfl (hb hby own_d15_68) (by decide) ?_
  refine o_iadd (z := (5 : Int32)) X14 hx rfl (hb hby own_d15_69) (by decide) ?_
  refine o_lloadN X14 hx rfl (hb hby own_d15_70) rfl ?_
  refine o_l2i (z := (q2.toInt32)) X14 hx rfl (hb hby own_d15_71) rfl ?_
  obtain ⟨clv15, Arv15, qv15, Sv15, Nv15, Hv15, Gv15⟩ := id V11
  have hin16 : ¬ ((5 : Int32) < 0 ∨ clv15.slots.size ≤ ((5 : Int32)).toNatClampNeg) := inb_of Sv15 ⟨by decide, by decide⟩
  obtain ⟨T16, h16, X16, e16, W16, st16⟩ := stI X14 hx hZ e14 Arv15 (j := (5 : Int32)) hin16 (g := (mkF m 72 #[.val (.ref a0), .val (.int p1), .val (.long q2), .second, .val (.int (3 : Int32))] [(.int (q2.toInt32)), (.int (5 : Int32)), (.ref ma)])) rfl rfl (hb hby own_d15_72)
  have V16 : Arv Z h16 ma k_ma .int (12 : Int32) [(.int m0), (.int m1), (.int m2), (.int p1), (.int (((q2.toUInt64 >>> ((32 : Int32) &&& 0x3f).toInt64.toUInt64).toInt64).toInt32)), (.int (q2.toInt32)), (.int m6), (.int m7)] (.int (0 : Int32)) := Arv.set Arv15 qv15 Sv15 Nv15 Hv15 Gv15 rfl W16 5 rfl (Nat.le_of_ble_eq_true rfl)
  have N16 := Fr.snoc X16 N11 pre5
  have Kp17 : Keep h0 h16 [a0, ma] := Kp12.wr W16 (Or.inl (List.mem_of_getElem? (i := 1) rfl))
  refine og_of st16 ?_
  show OG p e below _ _ (T16.setTop (mkF m 73 #[.val (.ref a0), .val (.int p1), .val (.long q2), .second, .val (.int (3 : Int32))] []))
  refine o_aloadN X16 hx rfl (hb hby own_d15_73) rfl rfl ?_
  refine o_dup X16 hx rfl (hb hby own_d15_74) rfl ?_
  have Fc18 : Fld Z h16 a0 "tidemark/log/RecordMarks$LaterMarks" "count" "I" (.int (1 : Int32)) := (Fld.other W16 (Fld.other W11 (Fld.other W6 pre2 (Or.inl pre6)) (Or.inl pre6)) (Or.inl pre6))
  obtain ⟨T19, X19, e19, st19⟩ := getF X16 hx hZ hown (host := "") (Or.inl (hw _ (List.mem_of_getElem? (i := 69) rfl))) Via.refl e16 Fc18 (g := (mkF m 75 #[.val (.ref a0), .val (.int p1), .val (.long q2), .second, .val (.int (3 : Int32))] [(.ref a0), (.ref a0)])) rfl rfl (hb hby own_d15_75)
  refine og_of st19 ?_
  show OG p e below _ _ (T19.setTop (mkF m 78 #[.val (.ref a0), .val (.int p1), .val (.long q2), .second, .val (.int (3 : Int32))] [(.int (1 : Int32)), (.ref a0)]))
  refine o_iconst (z := (1 : Int32)) X19 hx rfl (hb hby own_d15_78) (by decide) ?_
  refine o_iadd (z := (2 : Int32)) X19 hx rfl (hb hby own_d15_79) (by decide) ?_
  have Fc20 : Exa Z h16 a0 "tidemark/log/RecordMarks$LaterMarks" := (Exa.wr W16 (Exa.wr W11 (Exa.wr W6 pre0)))
  obtain ⟨T21, h21, X21, e21, W21, st21⟩ := putF X19 hx hZ hown (host := "") (Or.inl (hw _ (List.mem_of_getElem? (i := 69) rfl))) Via.refl e19 Fc18 Fc20 (Or.inl (hw _ (List.mem_of_getElem? (i := 70) rfl))) (hw _ (List.mem_of_getElem? (i := 11) rfl)) (ty := .int) (by decide) rfl rfl (g := (mkF m 80 #[.val (.ref a0), .val (.int p1), .val (.long q2), .second, .val (.int (3 : Int32))] [(.int (2 : Int32)), (.ref a0)])) rfl rfl (hb hby own_d15_80)
  have Fw21 := Fc18.same W21
  have N21 := Fr.snoc X21 N16 pre1
  have Kp22 : Keep h0 h21 [a0, ma] := Kp17.wr W21 (Or.inl (List.mem_of_getElem? (i := 0) rfl))
  refine og_of st21 ?_
  show OG p e below _ _ (T21.setTop (mkF m 83 #[.val (.ref a0), .val (.int p1), .val (.long q2), .second, .val (.int (3 : Int32))] []))
  have Fc23 : Fld Z h21 a0 "tidemark/log/RecordMarks$LaterMarks" "marks" "[I" (.ref ma) := (Fld.other W21 (Fld.other W16 Fc13 (Or.inl pre6)) (Or.inr (slot_ne (Or.inl (hw _ (List.mem_of_getElem? (i := 19) rfl))) (Or.inl (hw _ (List.mem_of_getElem? (i := 70) rfl))) (by decide) (t := (.array .int)) (t' := .int) (by decide) (by decide))))
  have Fc24 : Arv Z h21 ma k_ma .int (12 : Int32) [(.int m0), (.int m1), (.int m2), (.int p1), (.int (((q2.toUInt64 >>> ((32 : Int32) &&& 0x3f).toInt64.toUInt64).toInt64).toInt32)), (.int (q2.toInt32)), (.int m6), (.int m7)] (.int (0 : Int32)) := (V16.other W21 (Ne.symm pre6))
  exact o_ret0 X21 hx Bd.returns (own_lv X21 hlk (by decide) (by decide)) (hb hby own_d15_83) ⟨rfl, N21, (by rw [e21]; exact Kp22), (by rw [e21]; exact Fw21), (by rw [e21]; exact Fc23), (by rw [e21]; exact Fc24)⟩
theorem own_pd0 : parseMethodDescriptor "(II)I" = some ⟨[.int, .int], some .int⟩ := by decide +kernel
theorem own_d16_0 : decode jdk_65_method_123_code 0 = .ok (.iload_n 1, 1) := by decide +kernel
theorem own_d16_1 : decode jdk_65_method_123_code 1 = .ok (.aload_n 0, 1) := by decide +kernel
theorem own_d16_2 : decode jdk_65_method_123_code 2 = .ok (.arraylength, 1) := by decide +kernel
theorem own_d16_3 : decode jdk_65_method_123_code 3 = .ok (.if_icmp .ne 11, 3) := by decide +kernel
theorem own_d16_14 : decode jdk_65_method_123_code 14 = .ok (.iload_n 1, 1) := by decide +kernel
theorem own_d16_15 : decode jdk_65_method_123_code 15 = .ok (.newarray .int, 2) := by decide +kernel
theorem own_d16_17 : decode jdk_65_method_123_code 17 = .ok (.astore_n 2, 1) := by decide +kernel
theorem own_d16_18 : decode jdk_65_method_123_code 18 = .ok (.aload_n 0, 1) := by decide +kernel
theorem own_d16_19 : decode jdk_65_method_123_code 19 = .ok (.iconst 0, 1) := by decide +kernel
theorem own_d16_20 : decode jdk_65_method_123_code 20 = .ok (.aload_n 2, 1) := by decide +kernel
theorem own_d16_21 : decode jdk_65_method_123_code 21 = .ok (.iconst 0, 1) := by decide +kernel
theorem own_d16_22 : decode jdk_65_method_123_code 22 = .ok (.aload_n 0, 1) := by decide +kernel
theorem own_d16_23 : decode jdk_65_method_123_code 23 = .ok (.arraylength, 1) := by decide +kernel
theorem own_d16_24 : decode jdk_65_method_123_code 24 = .ok (.iload_n 1, 1) := by decide +kernel
theorem own_d16_25 : decode jdk_65_method_123_code 25 = .ok (.invokestatic 304, 3) := by decide +kernel
theorem own_d16_28 : decode jdk_65_method_123_code 28 = .ok (.invokestatic 150, 3) := by decide +kernel
theorem own_d16_31 : decode jdk_65_method_123_code 31 = .ok (.aload_n 2, 1) := by decide +kernel
theorem own_d16_32 : decode jdk_65_method_123_code 32 = .ok (.areturn, 1) := by decide +kernel
theorem own_efco3 (m : MethodId) (a0 : Addr) : entryFrame m #[(.ref a0), (.int (3 : Int32))] 3 = mkF m 0 #[.val (.ref a0), .val (.int (3 : Int32)), .unset] [] := by first | (simp [entryFrame, mkF, argsToLocals, Value.category]; done) | rfl
def own_Qco3 (Z : State) (a0 : Addr) (k_a0 : ClassId) (m0 : Int32) (m1 : Int32) (m2 : Int32) (m3 : Int32) (m4 : Int32) (m5 : Int32) (m6 : Int32) (m7 : Int32) (h0 : Heap) (n0 : Nat) (v : Option Value) (h : Heap) (L : List Loc) : Prop := ∃ (b : Addr), v = some (.ref b) ∧ Fr n0 L ∧ Keep h0 h [] ∧ h0.size ≤ b
theorem own_pn81 : plainName "java/util/Arrays" = true := by first | (simp [plainName, overriddenIn]; done) | decide +kernel
set_option maxRecDepth 65536 in
set_option maxHeartbeats 40000000 in
theorem own_rmco3 (l : Launch) (Z : State) (aA : Array Value) (hw : ∀ d ∈ tables_1, d.before aA Z = true) (ws : List Jvm.Cond) (a0 : Addr) (k_a0 : ClassId) (m0 : Int32) (m1 : Int32) (m2 : Int32) (m3 : Int32) (m4 : Int32) (m5 : Int32) (m6 : Int32) (m7 : Int32) (h0 : Heap) (n0 : Nat) (Z0 : n0 ≤ h0.size) (pre0 : Arv Z h0 a0 k_a0 .int (12 : Int32) [(.int m0), (.int m1), (.int m2), (.int m3), (.int m4), (.int m5), (.int m6), (.int m7)] (.int (0 : Int32))) :
    MetFree l (⟨"java/util/Arrays", "copyOf", "([II)[I"⟩ : MethodName) (head1 (Jvm.Cond.code (⟨"java/util/Arrays", "copyOf", "([II)[I"⟩ : MethodName) jdk_65_method_123_code 3 (some (.array .int)) :: ws) ({ frames := 1, cells := 1, slots := 3, locals := 40 } : Room)) (fun a U => a = #[(.ref a0), (.int (3 : Int32))] ∧ Z.Warmed39 U.vm ∧ U.heap = h0) (fun _ _ _ _ _ => True) (fun _ U o U' => ∃ v L, o = .returned v ∧ own_Qco3 Z a0 k_a0 m0 m1 m2 m3 m4 m5 m6 m7 h0 n0 v U'.heap L ∧ FrameEnd U o U' L ({ frames := 1, cells := 1, slots := 3, locals := 40 } : Room).cells ({ frames := 1, cells := 1, slots := 3, locals := 40 } : Room).slots) := by
  refine MetFree.of_bodySF (plainFor_of_name own_pn81) hisR ?_
  intro p e s m args below meth c s₁ Bd hml0 hP hK
  obtain ⟨rfl, hZ, hh⟩ := hP
  have hx := Bd.exec
  have hby := Bd.bytes
  have hlk : meth.locks = false := Bd.notSynchronized
  have hml : c.maxLocals = 3 := hml0
  have hown : s.vm.findClass "java/util/Arrays" = some m.cls := findClass_of_methodNamed Bd.named
  have hnm := (name_of_methodNamed Bd.named Bd.method).1
  have X0 : Stand p l e ({ frames := 1, cells := 1, slots := 3, locals := 40 } : Room) s m #[(.ref a0), (.int (3 : Int32))] below meth c s₁ [] 0 0 := Stand.of_body Bd
  have e0 : s₁.heap = h0 := by rw [← hh, Bd.state]; rfl
  have N0 := Fr.nil n0
  show OG p e below (FE s ({ frames := 1, cells := 1, slots := 3, locals := 40 } : Room).cells ({ frames := 1, cells := 1, slots := 3, locals := 40 } : Room).slots) (own_Qco3 Z a0 k_a0 m0 m1 m2 m3 m4 m5 m6 m7 h0 n0) (s₁.setTop (entryFrame m #[(.ref a0), (.int (3 : Int32))] 3))
  refine og_of (fun _ k => castTop (own_efco3 m a0) k) ?_
  refine o_iloadN X0 hx rfl (hb hby own_d16_0) rfl ?_
  refine o_aloadN X0 hx rfl (hb hby own_d16_1) rfl rfl ?_
  obtain ⟨clv1, Arv1, qv1, Sv1, Nv1, Hv1, Gv1⟩ := id pre0
  have hlv1 := X0.arraylength hx (by rw [e0]; exact Arv1.1) (State.isArrayOf_alike hZ.alike Arv1.2.1) (g := (mkF m 2 #[.val (.ref a0), .val (.int (3 : Int32)), .unset] [(.ref a0), (.int (3 : Int32))])) rfl rfl (hb hby own_d16_2)
  rw [len_of Sv1 Nv1] at hlv1
  refine og_of hlv1 ?_
  show OG p e below _ _ (s₁.setTop (mkF m 3 #[.val (.ref a0), .val (.int (3 : Int32)), .unset] [(.int (12 : Int32)), (.int (3 : Int32))]))
  refine o_icmpY (pc' := 14) X0 hx (hb hby own_d16_3) (feq (by decide : ¬ ((3 : Int32) = (12 : Int32)))).2 (by decide) (by decide) ?_
  refine o_iloadN X0 hx rfl (hb hby own_d16_14) rfl ?_
  obtain ⟨T2, h2, k_b2, X2, e2, E2, A2, st2⟩ := newP X0 hx hZ (hw _ (List.mem_of_getElem? (i := 17) rfl)) e0 (g := (mkF m 15 #[.val (.ref a0), .val (.int (3 : Int32)), .unset] [(.int (3 : Int32))])) rfl (hb hby own_d16_15) rfl (by decide) (cap := 3) (by decide) (by decide) (by decide) (by decide)
  obtain ⟨b2, g2⟩ : ∃ z, z = h0.size := ⟨_, rfl⟩
  rw [← g2] at A2 st2
  have ne3 : a0 ≠ b2 := Nat.ne_of_lt (Nat.lt_of_lt_of_le pre0.lt (Nat.le_of_eq g2.symm))
  have gn2 : n0 ≤ b2 := Nat.le_trans Z0 (Nat.le_of_eq g2.symm)
  have sz2 : h0.size ≤ b2 := Nat.le_trans (Keep.refl h0 []).1 (Nat.le_of_eq g2.symm)
  have Kp4 : Keep h0 h2 [] := (Keep.refl h0 []).ext E2
  have V2 : Arv Z h2 b2 k_b2 .int (3 : Int32) [(.int (0 : Int32)), (.int (0 : Int32)), (.int (0 : Int32))] (.int (0 : Int32)) := (Arv.new A2 (by decide)).pad (pad_rep [] (.int (0 : Int32)) 3)
  refine og_of st2 ?_
  show OG p e below _ _ (T2.setTop (mkF m 17 #[.val (.ref a0), .val (.int (3 : Int32)), .unset] [(.ref b2)]))
  refine o_astoreN X2 hx rfl (hb hby own_d16_17) rfl (L' := #[.val (.ref a0), .val (.int (3 : Int32)), .val (.ref b2)]) rfl ?_
  refine o_aloadN X2 hx rfl (hb hby own_d16_18) rfl rfl ?_
  refine o_iconst (z := (0 : Int32)) X2 hx rfl (hb hby own_d16_19) (by decide) ?_
  refine o_aloadN X2 hx rfl (hb hby own_d16_20) rfl rfl ?_
  refine o_iconst (z := (0 : Int32)) X2 hx rfl (hb hby own_d16_21) (by decide) ?_
  refine o_aloadN X2 hx rfl (hb hby own_d16_22) rfl rfl ?_
  have Fc5 : Arv Z h2 a0 k_a0 .int (12 : Int32) [(.int m0), (.int m1), (.int m2), (.int m3), (.int m4), (.int m5), (.int m6), (.int m7)] (.int (0 : Int32)) := (pre0.ext E2)
  obtain ⟨clv6, Arv6, qv6, Sv6, Nv6, Hv6, Gv6⟩ := id Fc5
  have hlv6 := X2.arraylength hx (by rw [e2]; exact Arv6.1) (State.isArrayOf_alike hZ.alike Arv6.2.1) (g := (mkF m 23 #[.val (.ref a0), .val (.int (3 : Int32)), .val (.ref b2)] [(.ref a0), (.int (0 : Int32)), (.ref b2), (.int (0 : Int32)), (.ref a0)])) rfl rfl (hb hby own_d16_23)
  rw [len_of Sv6 Nv6] at hlv6
  refine og_of hlv6 ?_
  show OG p e below _ _ (T2.setTop (mkF m 24 #[.val (.ref a0), .val (.int (3 : Int32)), .val (.ref b2)] [(.int (12 : Int32)), (.int (0 : Int32)), (.ref b2), (.int (0 : Int32)), (.ref a0)]))
  refine o_iloadN X2 hx rfl (hb hby own_d16_24) rfl ?_
  obtain ⟨_, _, ⟨T7, L7, k7, n7⟩, -, X7, ⟨Lc7, hQ7, l7, y7, z7⟩, st7⟩ := Jvm.LawKit.callS X2 hx (y := (⟨"java/lang/Math", "min", "(II)I"⟩ : MethodName)) hown (mvT hZ (hw _ (List.mem_of_getElem? (i := 122) rfl))) (mvT hZ (hw _ (List.mem_of_getElem? (i := 123) rfl))) (mvT hZ (hw _ (List.mem_of_getElem? (i := 42) rfl))) (mvT hZ (hw _ (List.mem_of_getElem? (i := 124) rfl))) (by decide) (backOf (W := 4) (own_rmmn3 l Z aA hw []  h2 n0 (Nat.le_trans Z0 E2.1)) hZ (hw _ (List.mem_of_getElem? (i := 124) rfl)) (hw _ (List.mem_of_getElem? (i := 42) rfl)) (by decide) (by decide)) (g := (mkF m 25 #[.val (.ref a0), .val (.int (3 : Int32)), .val (.ref b2)] [(.int (3 : Int32)), (.int (12 : Int32)), (.int (0 : Int32)), (.ref b2), (.int (0 : Int32)), (.ref a0)])) rfl (by rw [hml]; rfl) (argsL := [(.int (12 : Int32)), (.int (3 : Int32))]) (rest := [(.int (0 : Int32)), (.ref b2), (.int (0 : Int32)), (.ref a0)]) (lenOf own_pd0 rfl) rfl (by show 2 * 0 + _ ≤ _; exact Nat.le_of_eq rfl) (hb hby own_d16_25) (fun _ _ => ⟨rfl, e2, Nat.le_of_ble_eq_true rfl, Nat.le_of_ble_eq_true rfl⟩)
  dsimp only [Pt.U, Pt.locs, Pt.cells, Pt.slots] at X7 l7 y7 z7 st7 hQ7
  subst l7 y7 z7
  obtain ⟨rfl, N7q, ee7⟩ := hQ7
  have N8 := Fr.app N0 N7q
  refine og_of st7 ?_
  show OG p e below _ _ (T7.setTop (mkF m 28 #[.val (.ref a0), .val (.int (3 : Int32)), .val (.ref b2)] [(.int (3 : Int32)), (.int (0 : Int32)), (.ref b2), (.int (0 : Int32)), (.ref a0)]))
  obtain ⟨T9, h9, L9, X9, e9, N9, K9, V9, st9⟩ := cpA X7 hx hZ hown (hw _ (List.mem_of_getElem? (i := 125) rfl)) (hw _ (List.mem_of_getElem? (i := 128) rfl)) (hw _ (List.mem_of_getElem? (i := 126) rfl)) (hw _ (List.mem_of_getElem? (i := 127) rfl)) ee7 Fc5 V2 (Or.inl ⟨rfl, rfl⟩) (by decide) (by decide) (by decide) (by decide) (by decide) rfl (by decide) N8 gn2 (g := (mkF m 28 #[.val (.ref a0), .val (.int (3 : Int32)), .val (.ref b2)] [(.int (3 : Int32)), (.int (0 : Int32)), (.ref b2), (.int (0 : Int32)), (.ref a0)])) rfl (by rw [hml]; rfl) rfl (hb hby own_d16_28) (by decide) (W := 0) (by show 2 * 0 + _ ≤ _; exact Nat.le_of_eq rfl) (by decide)
  have Kp10 : Keep h0 h9 [] := Kp4.trans K9 (allS (Or.inr sz2) all0)
  refine og_of st9 ?_
  show OG p e below _ _ (T9.setTop (mkF m 31 #[.val (.ref a0), .val (.int (3 : Int32)), .val (.ref b2)] []))
  refine o_aloadN X9 hx rfl (hb hby own_d16_31) rfl rfl ?_
  exact o_retA X9 hx Bd.returns rfl (own_lv X9 hlk (by decide) (by decide)) (hb hby own_d16_32) rfl rfl ⟨b2, rfl, N9, (by rw [e9]; exact Kp10), sz2⟩
theorem own_efco6 (m : MethodId) (a0 : Addr) : entryFrame m #[(.ref a0), (.int (6 : Int32))] 3 = mkF m 0 #[.val (.ref a0), .val (.int (6 : Int32)), .unset] [] := by first | (simp [entryFrame, mkF, argsToLocals, Value.category]; done) | rfl
def own_Qco6 (Z : State) (a0 : Addr) (k_a0 : ClassId) (m0 : Int32) (m1 : Int32) (m2 : Int32) (m3 : Int32) (m4 : Int32) (m5 : Int32) (m6 : Int32) (m7 : Int32) (h0 : Heap) (n0 : Nat) (v : Option Value) (h : Heap) (L : List Loc) : Prop := ∃ (b : Addr), v = some (.ref b) ∧ Fr n0 L ∧ Keep h0 h [] ∧ h0.size ≤ b
set_option maxRecDepth 65536 in
set_option maxHeartbeats 40000000 in
theorem own_rmco6 (l : Launch) (Z : State) (aA : Array Value) (hw : ∀ d ∈ tables_1, d.before aA Z = true) (ws : List Jvm.Cond) (a0 : Addr) (k_a0 : ClassId) (m0 : Int32) (m1 : Int32) (m2 : Int32) (m3 : Int32) (m4 : Int32) (m5 : Int32) (m6 : Int32) (m7 : Int32) (h0 : Heap) (n0 : Nat) (Z0 : n0 ≤ h0.size) (pre0 : Arv Z h0 a0 k_a0 .int (12 : Int32) [(.int m0), (.int m1), (.int m2), (.int m3), (.int m4), (.int m5), (.int m6), (.int m7)] (.int (0 : Int32))) :
    MetFree l (⟨"java/util/Arrays", "copyOf", "([II)[I"⟩ : MethodName) (head1 (Jvm.Cond.code (⟨"java/util/Arrays", "copyOf", "([II)[I"⟩ : MethodName) jdk_65_method_123_code 3 (some (.array .int)) :: ws) ({ frames := 1, cells := 1, slots := 6, locals := 40 } : Room)) (fun a U => a = #[(.ref a0), (.int (6 : Int32))] ∧ Z.Warmed39 U.vm ∧ U.heap = h0) (fun _ _ _ _ _ => True) (fun _ U o U' => ∃ v L, o = .returned v ∧ own_Qco6 Z a0 k_a0 m0 m1 m2 m3 m4 m5 m6 m7 h0 n0 v U'.heap L ∧ FrameEnd U o U' L ({ frames := 1, cells := 1, slots := 6, locals := 40 } : Room).cells ({ frames := 1, cells := 1, slots := 6, locals := 40 } : Room).slots) := by
  refine MetFree.of_bodySF (plainFor_of_name own_pn81) hisR ?_
  intro p e s m args below meth c s₁ Bd hml0 hP hK
  obtain ⟨rfl, hZ, hh⟩ := hP
  have hx := Bd.exec
  have hby := Bd.bytes
  have hlk : meth.locks = false := Bd.notSynchronized
  have hml : c.maxLocals = 3 := hml0
  have hown : s.vm.findClass "java/util/Arrays" = some m.cls := findClass_of_methodNamed Bd.named
  have hnm := (name_of_methodNamed Bd.named Bd.method).1
  have X0 : Stand p l e ({ frames := 1, cells := 1, slots := 6, locals := 40 } : Room) s m #[(.ref a0), (.int (6 : Int32))] below meth c s₁ [] 0 0 := Stand.of_body Bd
  have e0 : s₁.heap = h0 := by rw [← hh, Bd.state]; rfl
  have N0 := Fr.nil n0
  show OG p e below (FE s ({ frames := 1, cells := 1, slots := 6, locals := 40 } : Room).cells ({ frames := 1, cells := 1, slots := 6, locals := 40 } : Room).slots) (own_Qco6 Z a0 k_a0 m0 m1 m2 m3 m4 m5 m6 m7 h0 n0) (s₁.setTop (entryFrame m #[(.ref a0), (.int (6 : Int32))] 3))
  refine og_of (fun _ k => castTop (own_efco6 m a0) k) ?_
  refine o_iloadN X0 hx rfl (hb hby own_d16_0) rfl ?_
  refine o_aloadN X0 hx rfl (hb hby own_d16_1) rfl rfl ?_
  obtain ⟨clv1, Arv1, qv1, Sv1, Nv1, Hv1, Gv1⟩ := id pre0
  have hlv1 := X0.arraylength hx (by rw [e0]; exact Arv1.1) (State.isArrayOf_alike hZ.alike Arv1.2.1) (g := (mkF m 2 #[.val (.ref a0), .val (.int (6 : Int32)), .unset] [(.ref a0), (.int (6 : Int32))])) rfl rfl (hb hby own_d16_2)
  rw [len_of Sv1 Nv1] at hlv1
  refine og_of hlv1 ?_
  show OG p e below _ _ (s₁.setTop (mkF m 3 #[.val (.ref a0), .val (.int (6 : Int32)), .unset] [(.int (12 : Int32)), (.int (6 : Int32))]))
  refine o_icmpY (pc' := 14) X0 hx (hb hby own_d16_3) (feq (by decide : ¬ ((6 : Int32) = (12 : Int32)))).2 (by decide) (by decide) ?_
  refine o_iloadN X0 hx rfl (hb hby own_d16_14) rfl ?_
  obtain ⟨T2, h2, k_b2, X2, e2, E2, A2, st2⟩ := newP X0 hx hZ (hw _ (List.mem_of_getElem? (i := 17) rfl)) e0 (g := (mkF m 15 #[.val (.ref a0), .val (.int (6 : Int32)), .unset] [(.int (6 : Int32))])) rfl (hb hby own_d16_15) rfl (by decide) (cap := 6) (by decide) (by decide) (by decide) (by decide)
  obtain ⟨b2, g2⟩ : ∃ z, z = h0.size := ⟨_, rfl⟩
  rw [← g2] at A2 st2
  have ne3 : a0 ≠ b2 := Nat.ne_of_lt (Nat.lt_of_lt_of_le pre0.lt (Nat.le_of_eq g2.symm))
  have gn2 : n0 ≤ b2 := Nat.le_trans Z0 (Nat.le_of_eq g2.symm)
  have sz2 : h0.size ≤ b2 := Nat.le_trans (Keep.refl h0 []).1 (Nat.le_of_eq g2.symm)
  have Kp4 : Keep h0 h2 [] := (Keep.refl h0 []).ext E2
  have V2 : Arv Z h2 b2 k_b2 .int (6 : Int32) [(.int (0 : Int32)), (.int (0 : Int32)), (.int (0 : Int32)), (.int (0 : Int32)), (.int (0 : Int32)), (.int (0 : Int32))] (.int (0 : Int32)) := (Arv.new A2 (by decide)).pad (pad_rep [] (.int (0 : Int32)) 6)
  refine og_of st2 ?_
  show OG p e below _ _ (T2.setTop (mkF m 17 #[.val (.ref a0), .val (.int (6 : Int32)), .unset] [(.ref b2)]))
  refine o_astoreN X2 hx rfl (hb hby own_d16_17) rfl (L' := #[.val (.ref a0), .val (.int (6 : Int32)), .val (.ref b2)]) rfl ?_
  refine o_aloadN X2 hx rfl (hb hby own_d16_18) rfl rfl ?_
  refine o_iconst (z := (0 : Int32)) X2 hx rfl (hb hby own_d16_19) (by decide) ?_
  refine o_aloadN X2 hx rfl (hb hby own_d16_20) rfl rfl ?_
  refine o_iconst (z := (0 : Int32)) X2 hx rfl (hb hby own_d16_21) (by decide) ?_
  refine o_aloadN X2 hx rfl (hb hby own_d16_22) rfl rfl ?_
  have Fc5 : Arv Z h2 a0 k_a0 .int (12 : Int32) [(.int m0), (.int m1), (.int m2), (.int m3), (.int m4), (.int m5), (.int m6), (.int m7)] (.int (0 : Int32)) := (pre0.ext E2)
  obtain ⟨clv6, Arv6, qv6, Sv6, Nv6, Hv6, Gv6⟩ := id Fc5
  have hlv6 := X2.arraylength hx (by rw [e2]; exact Arv6.1) (State.isArrayOf_alike hZ.alike Arv6.2.1) (g := (mkF m 23 #[.val (.ref a0), .val (.int (6 : Int32)), .val (.ref b2)] [(.ref a0), (.int (0 : Int32)), (.ref b2), (.int (0 : Int32)), (.ref a0)])) rfl rfl (hb hby own_d16_23)
  rw [len_of Sv6 Nv6] at hlv6
  refine og_of hlv6 ?_
  show OG p e below _ _ (T2.setTop (mkF m 24 #[.val (.ref a0), .val (.int (6 : Int32)), .val (.ref b2)] [(.int (12 : Int32)), (.int (0 : Int32)), (.ref b2), (.int (0 : Int32)), (.ref a0)]))
  refine o_iloadN X2 hx rfl (hb hby own_d16_24) rfl ?_
  obtain ⟨_, _, ⟨T7, L7, k7, n7⟩, -, X7, ⟨Lc7, hQ7, l7, y7, z7⟩, st7⟩ := Jvm.LawKit.callS X2 hx (y := (⟨"java/lang/Math", "min", "(II)I"⟩ : MethodName)) hown (mvT hZ (hw _ (List.mem_of_getElem? (i := 122) rfl))) (mvT hZ (hw _ (List.mem_of_getElem? (i := 123) rfl))) (mvT hZ (hw _ (List.mem_of_getElem? (i := 42) rfl))) (mvT hZ (hw _ (List.mem_of_getElem? (i := 124) rfl))) (by decide) (backOf (W := 4) (own_rmmn6 l Z aA hw []  h2 n0 (Nat.le_trans Z0 E2.1)) hZ (hw _ (List.mem_of_getElem? (i := 124) rfl)) (hw _ (List.mem_of_getElem? (i := 42) rfl)) (by decide) (by decide)) (g := (mkF m 25 #[.val (.ref a0), .val (.int (6 : Int32)), .val (.ref b2)] [(.int (6 : Int32)), (.int (12 : Int32)), (.int (0 : Int32)), (.ref b2), (.int (0 : Int32)), (.ref a0)])) rfl (by rw [hml]; rfl) (argsL := [(.int (12 : Int32)), (.int (6 : Int32))]) (rest := [(.int (0 : Int32)), (.ref b2), (.int (0 : Int32)), (.ref a0)]) (lenOf own_pd0 rfl) rfl (by show 2 * 0 + _ ≤ _; exact Nat.le_of_eq rfl) (hb hby own_d16_25) (fun _ _ => ⟨rfl, e2, Nat.le_of_ble_eq_true rfl, Nat.le_of_ble_eq_true rfl⟩)
  dsimp only [Pt.U, Pt.locs, Pt.cells, Pt.slots] at X7 l7 y7 z7 st7 hQ7
  subst l7 y7 z7
  obtain ⟨rfl, N7q, ee7⟩ := hQ7
  have N8 := Fr.app N0 N7q
  refine og_of st7 ?_
  show OG p e below _ _ (T7.setTop (mkF m 28 #[.val (.ref a0), .val (.int (6 : Int32)), .val (.ref b2)] [(.int (6 : Int32)), (.int (0 : Int32)), (.ref b2), (.int (0 : Int32)), (.ref a0)]))
  obtain ⟨T9, h9, L9, X9, e9, N9, K9, V9, st9⟩ := cpA X7 hx hZ hown (hw _ (List.mem_of_getElem? (i := 125) rfl)) (hw _ (List.mem_of_getElem? (i := 128) rfl)) (hw _ (List.mem_of_getElem? (i := 126) rfl)) (hw _ (List.mem_of_getElem? (i := 127) rfl)) ee7 Fc5 V2 (Or.inl ⟨rfl, rfl⟩) (by decide) (by decide) (by decide) (by decide) (by decide) rfl (by decide) N8 gn2 (g := (mkF m 28 #[.val (.ref a0), .val (.int (6 : Int32)), .val (.ref b2)] [(.int (6 : Int32)), (.int (0 : Int32)), (.ref b2), (.int (0 : Int32)), (.ref a0)])) rfl (by rw [hml]; rfl) rfl (hb hby own_d16_28) (by decide) (W := 0) (by show 2 * 0 + _ ≤ _; exact Nat.le_of_eq rfl) (by decide)
  have Kp10 : Keep h0 h9 [] := Kp4.trans K9 (allS (Or.inr sz2) all0)
  refine og_of st9 ?_
  show OG p e below _ _ (T9.setTop (mkF m 31 #[.val (.ref a0), .val (.int (6 : Int32)), .val (.ref b2)] []))
  refine o_aloadN X9 hx rfl (hb hby own_d16_31) rfl rfl ?_
  exact o_retA X9 hx Bd.returns rfl (own_lv X9 hlk (by decide) (by decide)) (hb hby own_d16_32) rfl rfl ⟨b2, rfl, N9, (by rw [e9]; exact Kp10), sz2⟩
theorem own_d8_0 : decode prog_113_method_3_code 0 = .ok (.aload_n 0, 1) := by decide +kernel
theorem own_d8_1 : decode prog_113_method_3_code 1 = .ok (.getfield 15, 3) := by decide +kernel
theorem own_d8_4 : decode prog_113_method_3_code 4 = .ok (.ifCond .ne 9, 3) := by decide +kernel
theorem own_d8_7 : decode prog_113_method_3_code 7 = .ok (.getstatic 31, 3) := by decide +kernel
theorem own_d8_10 : decode prog_113_method_3_code 10 = .ok (.goto 16, 3) := by decide +kernel
theorem own_d8_26 : decode prog_113_method_3_code 26 = .ok (.areturn, 1) := by decide +kernel
theorem own_efta0 (m : MethodId) (a0 : Addr) : entryFrame m #[(.ref a0)] 1 = mkF m 0 #[.val (.ref a0)] [] := by first | (simp [entryFrame, mkF, argsToLocals, Value.category]; done) | rfl
def own_Qta0 (Z : State) (a0 : Addr) (arr : Addr) (h0 : Heap) (n0 : Nat) (v : Option Value) (h : Heap) (L : List Loc) : Prop := v = some (.ref arr) ∧ Fr n0 L ∧ h = h0
set_option maxRecDepth 65536 in
set_option maxHeartbeats 40000000 in
theorem own_rmta0 (l : Launch) (Z : State) (aA : Array Value) (hw : ∀ d ∈ tables_1, d.before aA Z = true) (ws : List Jvm.Cond) (a0 : Addr) (arr : Addr) (h0 : Heap) (n0 : Nat) (Z0 : n0 ≤ h0.size) (pre0 : Sta Z h0 "tidemark/log/RecordMarks" "NO_LATER_MARKS" "[I" (.ref arr)) (pre1 : Fld Z h0 a0 "tidemark/log/RecordMarks$LaterMarks" "count" "I" (.int (0 : Int32))) :
    MetFree l (⟨"tidemark/log/RecordMarks$LaterMarks", "toArray", "()[I"⟩ : MethodName) (head1 (Jvm.Cond.code (⟨"tidemark/log/RecordMarks$LaterMarks", "toArray", "()[I"⟩ : MethodName) prog_113_method_3_code 1 (some (.array .int)) :: ws) ({ frames := 0, cells := 0, slots := 0, locals := 0 } : Room)) (fun a U => a = #[(.ref a0)] ∧ Z.Warmed39 U.vm ∧ U.heap = h0) (fun _ _ _ _ _ => True) (fun _ U o U' => ∃ v L, o = .returned v ∧ own_Qta0 Z a0 arr h0 n0 v U'.heap L ∧ FrameEnd U o U' L ({ frames := 0, cells := 0, slots := 0, locals := 0 } : Room).cells ({ frames := 0, cells := 0, slots := 0, locals := 0 } : Room).slots) := by
  refine MetFree.of_bodySF (plainFor_of_name own_pn22) hisR ?_
  intro p e s m args below meth c s₁ Bd hml0 hP hK
  obtain ⟨rfl, hZ, hh⟩ := hP
  have hx := Bd.exec
  have hby := Bd.bytes
  have hlk : meth.locks = false := Bd.notSynchronized
  have hml : c.maxLocals = 1 := hml0
  have hown : s.vm.findClass "tidemark/log/RecordMarks$LaterMarks" = some m.cls := findClass_of_methodNamed Bd.named
  have hnm := (name_of_methodNamed Bd.named Bd.method).1
  have X0 : Stand p l e ({ frames := 0, cells := 0, slots := 0, locals := 0 } : Room) s m #[(.ref a0)] below meth c s₁ [] 0 0 := Stand.of_body Bd
  have e0 : s₁.heap = h0 := by rw [← hh, Bd.state]; rfl
  have N0 := Fr.nil n0
  show OG p e below (FE s ({ frames := 0, cells := 0, slots := 0, locals := 0 } : Room).cells ({ frames := 0, cells := 0, slots := 0, locals := 0 } : Room).slots) (own_Qta0 Z a0 arr h0 n0) (s₁.setTop (entryFrame m #[(.ref a0)] 1))
  refine og_of (fun _ k => castTop (own_efta0 m a0) k) ?_
  refine o_aloadN X0 hx rfl (hb hby own_d8_0) rfl rfl ?_
  obtain ⟨T1, X1, e1, st1⟩ := getF X0 hx hZ hown (host := "") (Or.inl (hw _ (List.mem_of_getElem? (i := 69) rfl))) Via.refl e0 pre1 (g := (mkF m 1 #[.val (.ref a0)] [(.ref a0)])) rfl rfl (hb hby own_d8_1)
  refine og_of st1 ?_
  show OG p e below _ _ (T1.setTop (mkF m 4 #[.val (.ref a0)] [(.int (0 : Int32))]))
  refine o_ifN (pc' := 7) X1 hx rfl (hb hby own_d8_4) ((if0 _ _).trans (teq (by decide : ((0 : Int32) = (0 : Int32)))).2) ?_
  obtain ⟨T2, X2, e2, st2⟩ := getS2 X1 hx hZ hown (Or.inr (hw _ (List.mem_of_getElem? (i := 71) rfl))) Via.refl e1 pre0 (g := (mkF m 7 #[.val (.ref a0)] [])) rfl (hb hby own_d8_7)
  refine og_of st2 ?_
  show OG p e below _ _ (T2.setTop (mkF m 10 #[.val (.ref a0)] [(.ref arr)]))
  refine o_goto (pc' := 26) X2 hx (hb hby own_d8_10) (by decide) (by decide) ?_
  exact o_retA X2 hx Bd.returns rfl (own_lv X2 hlk (by decide) (by decide)) (hb hby own_d8_26) rfl rfl ⟨rfl, N0, e2⟩
theorem own_pd1 : parseMethodDescriptor "([II)[I" = some ⟨[(.array .int), .int], some (.array .int)⟩ := by decide +kernel
theorem own_d8_13 : decode prog_113_method_3_code 13 = .ok (.aload_n 0, 1) := by decide +kernel
theorem own_d8_14 : decode prog_113_method_3_code 14 = .ok (.getfield 9, 3) := by decide +kernel
theorem own_d8_17 : decode prog_113_method_3_code 17 = .ok (.iconst 3, 1) := by decide +kernel
theorem own_d8_18 : decode prog_113_method_3_code 18 = .ok (.aload_n 0, 1) := by decide +kernel
theorem own_d8_19 : decode prog_113_method_3_code 19 = .ok (.getfield 15, 3) := by decide +kernel
theorem own_d8_22 : decode prog_113_method_3_code 22 = .ok (.imul, 1) := by decide +kernel
theorem own_d8_23 : decode prog_113_method_3_code 23 = .ok (.invokestatic 25, 3) := by decide +kernel
theorem own_efta1 (m : MethodId) (a0 : Addr) : entryFrame m #[(.ref a0)] 1 = mkF m 0 #[.val (.ref a0)] [] := by first | (simp [entryFrame, mkF, argsToLocals, Value.category]; done) | rfl
def own_Qta1 (Z : State) (a0 : Addr) (ma : Addr) (k_ma : ClassId) (m0 : Int32) (m1 : Int32) (m2 : Int32) (m3 : Int32) (m4 : Int32) (m5 : Int32) (m6 : Int32) (m7 : Int32) (h0 : Heap) (n0 : Nat) (v : Option Value) (h : Heap) (L : List Loc) : Prop := ∃ (b : Addr), v = some (.ref b) ∧ Fr n0 L ∧ Keep h0 h [] ∧ h0.size ≤ b
set_option maxRecDepth 65536 in
set_option maxHeartbeats 40000000 in
theorem own_rmta1 (l : Launch) (Z : State) (aA : Array Value) (hw : ∀ d ∈ tables_1, d.before aA Z = true) (ws : List Jvm.Cond) (a0 : Addr) (ma : Addr) (k_ma : ClassId) (m0 : Int32) (m1 : Int32) (m2 : Int32) (m3 : Int32) (m4 : Int32) (m5 : Int32) (m6 : Int32) (m7 : Int32) (h0 : Heap) (n0 : Nat) (Z0 : n0 ≤ h0.size) (pre0 : Fld Z h0 a0 "tidemark/log/RecordMarks$LaterMarks" "count" "I" (.int (1 : Int32))) (pre1 : Fld Z h0 a0 "tidemark/log/RecordMarks$LaterMarks" "marks" "[I" (.ref ma)) (pre2 : Arv Z h0 ma k_ma .int (12 : Int32) [(.int m0), (.int m1), (.int m2), (.int m3), (.int m4), (.int m5), (.int m6), (.int m7)] (.int (0 : Int32))) :
    MetFree l (⟨"tidemark/log/RecordMarks$LaterMarks", "toArray", "()[I"⟩ : MethodName) (head1 (Jvm.Cond.code (⟨"tidemark/log/RecordMarks$LaterMarks", "toArray", "()[I"⟩ : MethodName) prog_113_method_3_code 1 (some (.array .int)) :: ws) ({ frames := 2, cells := 1, slots := 3, locals := 54 } : Room)) (fun a U => a = #[(.ref a0)] ∧ Z.Warmed39 U.vm ∧ U.heap = h0) (fun _ _ _ _ _ => True) (fun _ U o U' => ∃ v L, o = .returned v ∧ own_Qta1 Z a0 ma k_ma m0 m1 m2 m3 m4 m5 m6 m7 h0 n0 v U'.heap L ∧ FrameEnd U o U' L ({ frames := 2, cells := 1, slots := 3, locals := 54 } : Room).cells ({ frames := 2, cells := 1, slots := 3, locals := 54 } : Room).slots) := by
  refine MetFree.of_bodySF (plainFor_of_name own_pn22) hisR ?_
  intro p e s m args below meth c s₁ Bd hml0 hP hK
  obtain ⟨rfl, hZ, hh⟩ := hP
  have hx := Bd.exec
  have hby := Bd.bytes
  have hlk : meth.locks = false := Bd.notSynchronized
  have hml : c.maxLocals = 1 := hml0
  have hown : s.vm.findClass "tidemark/log/RecordMarks$LaterMarks" = some m.cls := findClass_of_methodNamed Bd.named
  have hnm := (name_of_methodNamed Bd.named Bd.method).1
  have X0 : Stand p l e ({ frames := 2, cells := 1, slots := 3, locals := 54 } : Room) s m #[(.ref a0)] below meth c s₁ [] 0 0 := Stand.of_body Bd
  have e0 : s₁.heap = h0 := by rw [← hh, Bd.state]; rfl
  have N0 := Fr.nil n0
  show OG p e below (FE s ({ frames := 2, cells := 1, slots := 3, locals := 54 } : Room).cells ({ frames := 2, cells := 1, slots := 3, locals := 54 } : Room).slots) (own_Qta1 Z a0 ma k_ma m0 m1 m2 m3 m4 m5 m6 m7 h0 n0) (s₁.setTop (entryFrame m #[(.ref a0)] 1))
  refine og_of (fun _ k => castTop (own_efta1 m a0) k) ?_
  refine o_aloadN X0 hx rfl (hb hby own_d8_0) rfl rfl ?_
  obtain ⟨T1, X1, e1, st1⟩ := getF X0 hx hZ hown (host := "") (Or.inl (hw _ (List.mem_of_getElem? (i := 69) rfl))) Via.refl e0 pre0 (g := (mkF m 1 #[.val (.ref a0)] [(.ref a0)])) rfl rfl (hb hby own_d8_1)
  refine og_of st1 ?_
  show OG p e below _ _ (T1.setTop (mkF m 4 #[.val (.ref a0)] [(.int (1 : Int32))]))
  refine o_ifY (pc' := 13) X1 hx (hb hby own_d8_4) ((if0 _ _).trans (feq (by decide : ¬ ((1 : Int32) = (0 : Int32)))).2) (by decide) (by decide) ?_
  refine o_aloadN X1 hx rfl (hb hby own_d8_13) rfl rfl ?_
  obtain ⟨T2, X2, e2, st2⟩ := getF X1 hx hZ hown (host := "") (Or.inl (hw _ (List.mem_of_getElem? (i := 18) rfl))) Via.refl e1 pre1 (g := (mkF m 14 #[.val (.ref a0)] [(.ref a0)])) rfl rfl (hb hby own_d8_14)
  refine og_of st2 ?_
  show OG p e below _ _ (T2.setTop (mkF m 17 #[.val (.ref a0)] [(.ref ma)]))
  refine o_iconst (z := (3 : Int32)) X2 hx rfl (hb hby own_d8_17) (by decide) ?_
  refine o_aloadN X2 hx rfl (hb hby own_d8_18) rfl rfl ?_
  obtain ⟨T3, X3, e3, st3⟩ := getF X2 hx hZ hown (host := "") (Or.inl (hw _ (List.mem_of_getElem? (i := 69) rfl))) Via.refl e2 pre0 (g := (mkF m 19 #[.val (.ref a0)] [(.ref a0), (.int (3 : Int32)), (.ref ma)])) rfl rfl (hb hby own_d8_19)
  refine og_of st3 ?_
  show OG p e below _ _ (T3.setTop (mkF m 22 #[.val (.ref a0)] [(.int (1 : Int32)), (.int (3 : Int32)), (.ref ma)]))
  refine o_imul (z := (3 : Int32)) X3 hx rfl (hb hby own_d8_22) (by decide) ?_
  obtain ⟨_, _, ⟨T4, L4, k4, n4⟩, -, X4, ⟨Lc4, hQ4, l4, y4, z4⟩, st4⟩ := Jvm.LawKit.callS X3 hx (y := (⟨"java/util/Arrays", "copyOf", "([II)[I"⟩ : MethodName)) hown (mvT hZ (hw _ (List.mem_of_getElem? (i := 118) rfl))) (mvT hZ (hw _ (List.mem_of_getElem? (i := 119) rfl))) (mvT hZ (hw _ (List.mem_of_getElem? (i := 120) rfl))) (mvT hZ (hw _ (List.mem_of_getElem? (i := 121) rfl))) (by decide) (backOf (W := 0) (own_rmco3 l Z aA hw [] ma k_ma m0 m1 m2 m3 m4 m5 m6 m7 h0 n0 Z0 pre2) hZ (hw _ (List.mem_of_getElem? (i := 121) rfl)) (hw _ (List.mem_of_getElem? (i := 120) rfl)) (by decide) (by decide)) (g := (mkF m 23 #[.val (.ref a0)] [(.int (3 : Int32)), (.ref ma)])) rfl (by rw [hml]; rfl) (argsL := [(.ref ma), (.int (3 : Int32))]) (rest := []) (lenOf own_pd1 rfl) rfl (by show 2 * 0 + _ ≤ _; exact Nat.le_of_eq rfl) (hb hby own_d8_23) (fun _ _ => ⟨rfl, e3, Nat.le_of_ble_eq_true rfl, Nat.le_of_ble_eq_true rfl⟩)
  dsimp only [Pt.U, Pt.locs, Pt.cells, Pt.slots] at X4 l4 y4 z4 st4 hQ4
  subst l4 y4 z4
  obtain ⟨b4, rfl, N4q, K4, sq4_0⟩ := hQ4
  have ne5 : a0 ≠ b4 := Nat.ne_of_lt (Nat.lt_of_lt_of_le pre0.lt sq4_0)
  have ne6 : ma ≠ b4 := Nat.ne_of_lt (Nat.lt_of_lt_of_le pre2.lt sq4_0)
  have gnb4 : n0 ≤ b4 := Nat.le_trans Z0 sq4_0
  have szb4 : h0.size ≤ b4 := Nat.le_trans (Keep.refl h0 []).1 sq4_0
  have N7 := Fr.app N0 N4q
  have Kp8 : Keep h0 T4.heap [] := (Keep.refl h0 []).trans K4 all0
  refine og_of st4 ?_
  show OG p e below _ _ (T4.setTop (mkF m 26 #[.val (.ref a0)] [(.ref b4)]))
  exact o_retA X4 hx Bd.returns rfl (own_lv X4 hlk (by decide) (by decide)) (hb hby own_d8_26) rfl rfl ⟨b4, rfl, N7, (Kp8), szb4⟩
theorem own_efta2 (m : MethodId) (a0 : Addr) : entryFrame m #[(.ref a0)] 1 = mkF m 0 #[.val (.ref a0)] [] := by first | (simp [entryFrame, mkF, argsToLocals, Value.category]; done) | rfl
def own_Qta2 (Z : State) (a0 : Addr) (ma : Addr) (k_ma : ClassId) (m0 : Int32) (m1 : Int32) (m2 : Int32) (m3 : Int32) (m4 : Int32) (m5 : Int32) (m6 : Int32) (m7 : Int32) (h0 : Heap) (n0 : Nat) (v : Option Value) (h : Heap) (L : List Loc) : Prop := ∃ (b : Addr), v = some (.ref b) ∧ Fr n0 L ∧ Keep h0 h [] ∧ h0.size ≤ b
set_option maxRecDepth 65536 in
set_option maxHeartbeats 40000000 in
theorem own_rmta2 (l : Launch) (Z : State) (aA : Array Value) (hw : ∀ d ∈ tables_1, d.before aA Z = true) (ws : List Jvm.Cond) (a0 : Addr) (ma : Addr) (k_ma : ClassId) (m0 : Int32) (m1 : Int32) (m2 : Int32) (m3 : Int32) (m4 : Int32) (m5 : Int32) (m6 : Int32) (m7 : Int32) (h0 : Heap) (n0 : Nat) (Z0 : n0 ≤ h0.size) (pre0 : Fld Z h0 a0 "tidemark/log/RecordMarks$LaterMarks" "count" "I" (.int (2 : Int32))) (pre1 : Fld Z h0 a0 "tidemark/log/RecordMarks$LaterMarks" "marks" "[I" (.ref ma)) (pre2 : Arv Z h0 ma k_ma .int (12 : Int32) [(.int m0), (.int m1), (.int m2), (.int m3), (.int m4), (.int m5), (.int m6), (.int m7)] (.int (0 : Int32))) :
    MetFree l (⟨"tidemark/log/RecordMarks$LaterMarks", "toArray", "()[I"⟩ : MethodName) (head1 (Jvm.Cond.code (⟨"tidemark/log/RecordMarks$LaterMarks", "toArray", "()[I"⟩ : MethodName) prog_113_method_3_code 1 (some (.array .int)) :: ws) ({ frames := 2, cells := 1, slots := 6, locals := 54 } : Room)) (fun a U => a = #[(.ref a0)] ∧ Z.Warmed39 U.vm ∧ U.heap = h0) (fun _ _ _ _ _ => True) (fun _ U o U' => ∃ v L, o = .returned v ∧ own_Qta2 Z a0 ma k_ma m0 m1 m2 m3 m4 m5 m6 m7 h0 n0 v U'.heap L ∧ FrameEnd U o U' L ({ frames := 2, cells := 1, slots := 6, locals := 54 } : Room).cells ({ frames := 2, cells := 1, slots := 6, locals := 54 } : Room).slots) := by
  refine MetFree.of_bodySF (plainFor_of_name own_pn22) hisR ?_
  intro p e s m args below meth c s₁ Bd hml0 hP hK
  obtain ⟨rfl, hZ, hh⟩ := hP
  have hx := Bd.exec
  have hby := Bd.bytes
  have hlk : meth.locks = false := Bd.notSynchronized
  have hml : c.maxLocals = 1 := hml0
  have hown : s.vm.findClass "tidemark/log/RecordMarks$LaterMarks" = some m.cls := findClass_of_methodNamed Bd.named
  have hnm := (name_of_methodNamed Bd.named Bd.method).1
  have X0 : Stand p l e ({ frames := 2, cells := 1, slots := 6, locals := 54 } : Room) s m #[(.ref a0)] below meth c s₁ [] 0 0 := Stand.of_body Bd
  have e0 : s₁.heap = h0 := by rw [← hh, Bd.state]; rfl
  have N0 := Fr.nil n0
  show OG p e below (FE s ({ frames := 2, cells := 1, slots := 6, locals := 54 } : Room).cells ({ frames := 2, cells := 1, slots := 6, locals := 54 } : Room).slots) (own_Qta2 Z a0 ma k_ma m0 m1 m2 m3 m4 m5 m6 m7 h0 n0) (s₁.setTop (entryFrame m #[(.ref a0)] 1))
  refine og_of (fun _ k => castTop (own_efta2 m a0) k) ?_
  refine o_aloadN X0 hx rfl (hb hby own_d8_0) rfl rfl ?_
  obtain ⟨T1, X1, e1, st1⟩ := getF X0 hx hZ hown (host := "") (Or.inl (hw _ (List.mem_of_getElem? (i := 69) rfl))) Via.refl e0 pre0 (g := (mkF m 1 #[.val (.ref a0)] [(.ref a0)])) rfl rfl (hb hby own_d8_1)
  refine og_of st1 ?_
  show OG p e below _ _ (T1.setTop (mkF m 4 #[.val (.ref a0)] [(.int (2 : Int32))]))
  refine o_ifY (pc' := 13) X1 hx (hb hby own_d8_4) ((if0 _ _).trans (feq (by decide : ¬ ((2 : Int32) = (0 : Int32)))).2) (by decide) (by decide) ?_
  refine o_aloadN X1 hx rfl (hb hby own_d8_13) rfl rfl ?_
  obtain ⟨T2, X2, e2, st2⟩ := getF X1 hx hZ hown (host := "") (Or.inl (hw _ (List.mem_of_getElem? (i := 18) rfl))) Via.refl e1 pre1 (g := (mkF m 14 #[.val (.ref a0)] [(.ref a0)])) rfl rfl (hb hby own_d8_14)
  refine og_of st2 ?_
  show OG p e below _ _ (T2.setTop (mkF m 17 #[.val (.ref a0)] [(.ref ma)]))
  refine o_iconst (z := (3 : Int32)) X2 hx rfl (hb hby own_d8_17) (by decide) ?_
  refine o_aloadN X2 hx rfl (hb hby own_d8_18) rfl rfl ?_
  obtain ⟨T3, X3, e3, st3⟩ := getF X2 hx hZ hown (host := "") (Or.inl (hw _ (List.mem_of_getElem? (i := 69) rfl))) Via.refl e2 pre0 (g := (mkF m 19 #[.val (.ref a0)] [(.ref a0), (.int (3 : Int32)), (.ref ma)])) rfl rfl (hb hby own_d8_19)
  refine og_of st3 ?_
  show OG p e below _ _ (T3.setTop (mkF m 22 #[.val (.ref a0)] [(.int (2 : Int32)), (.int (3 : Int32)), (.ref ma)]))
  refine o_imul (z := (6 : Int32)) X3 hx rfl (hb hby own_d8_22) (by decide) ?_
  obtain ⟨_, _, ⟨T4, L4, k4, n4⟩, -, X4, ⟨Lc4, hQ4, l4, y4, z4⟩, st4⟩ := Jvm.LawKit.callS X3 hx (y := (⟨"java/util/Arrays", "copyOf", "([II)[I"⟩ : MethodName)) hown (mvT hZ (hw _ (List.mem_of_getElem? (i := 118) rfl))) (mvT hZ (hw _ (List.mem_of_getElem? (i := 119) rfl))) (mvT hZ (hw _ (List.mem_of_getElem? (i := 120) rfl))) (mvT hZ (hw _ (List.mem_of_getElem? (i := 121) rfl))) (by decide) (backOf (W := 0) (own_rmco6 l Z aA hw [] ma k_ma m0 m1 m2 m3 m4 m5 m6 m7 h0 n0 Z0 pre2) hZ (hw _ (List.mem_of_getElem? (i := 121) rfl)) (hw _ (List.mem_of_getElem? (i := 120) rfl)) (by decide) (by decide)) (g := (mkF m 23 #[.val (.ref a0)] [(.int (6 : Int32)), (.ref ma)])) rfl (by rw [hml]; rfl) (argsL := [(.ref ma), (.int (6 : Int32))]) (rest := []) (lenOf own_pd1 rfl) rfl (by show 2 * 0 + _ ≤ _; exact Nat.le_of_eq rfl) (hb hby own_d8_23) (fun _ _ => ⟨rfl, e3, Nat.le_of_ble_eq_true rfl, Nat.le_of_ble_eq_true rfl⟩)
  dsimp only [Pt.U, Pt.locs, Pt.cells, Pt.slots] at X4 l4 y4 z4 st4 hQ4
  subst l4 y4 z4
  obtain ⟨b4, rfl, N4q, K4, sq4_0⟩ := hQ4
  have ne5 : a0 ≠ b4 := Nat.ne_of_lt (Nat.lt_of_lt_of_le pre0.lt sq4_0)
  have ne6 : ma ≠ b4 := Nat.ne_of_lt (Nat.lt_of_lt_of_le pre2.lt sq4_0)
  have gnb4 : n0 ≤ b4 := Nat.le_trans Z0 sq4_0
  have szb4 : h0.size ≤ b4 := Nat.le_trans (Keep.refl h0 []).1 sq4_0
  have N7 := Fr.app N0 N4q
  have Kp8 : Keep h0 T4.heap [] := (Keep.refl h0 []).trans K4 all0
  refine og_of st4 ?_
  show OG p e below _ _ (T4.setTop (mkF m 26 #[.val (.ref a0)] [(.ref b4)]))
  exact o_retA X4 hx Bd.returns rfl (own_lv X4 hlk (by decide) (by decide)) (hb hby own_d8_26) rfl rfl ⟨b4, rfl, N7, (Kp8), szb4⟩
theorem own_pd2 : parseMethodDescriptor "(I)V" = some ⟨[.int], none⟩ := by decide +kernel
theorem own_d1_0 : decode prog_115_method_1_code 0 = .ok (.aload_n 0, 1) := by decide +kernel
theorem own_d1_1 : decode prog_115_method_1_code 1 = .ok (.invokespecial 3, 3) := by decide +kernel
theorem own_d1_4 : decode prog_115_method_1_code 4 = .ok (.aload_n 0, 1) := by decide +kernel
theorem own_d1_5 : decode prog_115_method_1_code 5 = .ok (.new 9, 3) := by decide +kernel
theorem own_d1_8 : decode prog_115_method_1_code 8 = .ok (.dup, 1) := by decide +kernel
theorem own_d1_9 : decode prog_115_method_1_code 9 = .ok (.iconst 4, 1) := by decide +kernel
theorem own_d1_10 : decode prog_115_method_1_code 10 = .ok (.invokespecial 11, 3) := by decide +kernel
theorem own_d1_13 : decode prog_115_method_1_code 13 = .ok (.putfield 14, 3) := by decide +kernel
theorem own_d1_16 : decode prog_115_method_1_code 16 = .ok (.aload_n 0, 1) := by decide +kernel
theorem own_d1_17 : decode prog_115_method_1_code 17 = .ok (.ldc2_w 22, 3) := by decide +kernel
theorem own_d1_20 : decode prog_115_method_1_code 20 = .ok (.putfield 24, 3) := by decide +kernel
theorem own_d1_23 : decode prog_115_method_1_code 23 = .ok (.aload_n 0, 1) := by decide +kernel
theorem own_d1_24 : decode prog_115_method_1_code 24 = .ok (.lload_n 1, 1) := by decide +kernel
theorem own_d1_25 : decode prog_115_method_1_code 25 = .ok (.putfield 28, 3) := by decide +kernel
theorem own_d1_28 : decode prog_115_method_1_code 28 = .ok (.aload_n 0, 1) := by decide +kernel
theorem own_d1_29 : decode prog_115_method_1_code 29 = .ok (.lload_n 1, 1) := by decide +kernel
theorem own_d1_30 : decode prog_115_method_1_code 30 = .ok (.putfield 31, 3) := by decide +kernel
theorem own_d1_33 : decode prog_115_method_1_code 33 = .ok (.return_, 1) := by decide +kernel
theorem own_ef1 (m : MethodId) (a0 : Addr) (q1 : Int64) : entryFrame m #[(.ref a0), (.long q1)] 3 = mkF m 0 #[.val (.ref a0), .val (.long q1), .second] [] := by first | (simp [entryFrame, mkF, argsToLocals, Value.category]; done) | rfl
def own_Q1 (Z : State) (a0 : Addr) (q1 : Int64) (h0 : Heap) (n0 : Nat) (v : Option Value) (h : Heap) (L : List Loc) : Prop := ∃ (lm ma : Addr) (k_ma : ClassId), v = none ∧ Fr n0 L ∧ Keep h0 h [a0] ∧ h0.size ≤ lm ∧ h0.size ≤ ma ∧ lm ≠ ma ∧ Fld Z h a0 "tidemark/log/RecordMarks$RunMarking" "later" "Ltidemark/log/RecordMarks$LaterMarks;" (.ref lm) ∧ Fld Z h a0 "tidemark/log/RecordMarks$RunMarking" "largest" "J" (.long (-9223372036854775808 : Int64)) ∧ Fld Z h a0 "tidemark/log/RecordMarks$RunMarking" "position" "J" (.long q1) ∧ Fld Z h a0 "tidemark/log/RecordMarks$RunMarking" "end" "J" (.long q1) ∧ Fld Z h a0 "tidemark/log/RecordMarks$RunMarking" "batches" "I" (.int (0 : Int32)) ∧ Fld Z h a0 "tidemark/log/RecordMarks$RunMarking" "baseOffset" "J" (.long (0 : Int64)) ∧ Fld Z h a0 "tidemark/log/RecordMarks$RunMarking" "nextOffset" "J" (.long (0 : Int64)) ∧ Fld Z h a0 "tidemark/log/RecordMarks$RunMarking" "lastStart" "I" (.int (0 : Int32)) ∧ Exa Z h lm "tidemark/log/RecordMarks$LaterMarks" ∧ Fld Z h lm "tidemark/log/RecordMarks$LaterMarks" "marks" "[I" (.ref ma) ∧ Fld Z h lm "tidemark/log/RecordMarks$LaterMarks" "count" "I" (.int (0 : Int32)) ∧ Arv Z h ma k_ma .int (12 : Int32) [(.int (0 : Int32)), (.int (0 : Int32)), (.int (0 : Int32)), (.int (0 : Int32)), (.int (0 : Int32)), (.int (0 : Int32)), (.int (0 : Int32)), (.int (0 : Int32))] (.int (0 : Int32))
theorem own_pn113 : plainName "tidemark/log/RecordMarks$RunMarking" = true := by first | (simp [plainName, overriddenIn]; done) | decide +kernel
set_option maxRecDepth 65536 in
set_option maxHeartbeats 40000000 in
theorem own_rm1 (l : Launch) (Z : State) (aA : Array Value) (hw : ∀ d ∈ tables_1, d.before aA Z = true) (ws : List Jvm.Cond) (a0 : Addr) (q1 : Int64) (h0 : Heap) (n0 : Nat) (Z0 : n0 ≤ h0.size) (pre0 : Exa Z h0 a0 "tidemark/log/RecordMarks$RunMarking") (pre1 : n0 ≤ a0) (pre2 : Fld Z h0 a0 "tidemark/log/RecordMarks$RunMarking" "later" "Ltidemark/log/RecordMarks$LaterMarks;" .null) (pre3 : Fld Z h0 a0 "tidemark/log/RecordMarks$RunMarking" "largest" "J" (.long (0 : Int64))) (pre4 : Fld Z h0 a0 "tidemark/log/RecordMarks$RunMarking" "position" "J" (.long (0 : Int64))) (pre5 : Fld Z h0 a0 "tidemark/log/RecordMarks$RunMarking" "end" "J" (.long (0 : Int64))) (pre6 : Fld Z h0 a0 "tidemark/log/RecordMarks$RunMarking" "batches" "I" (.int (0 : Int32))) (pre7 : Fld Z h0 a0 "tidemark/log/RecordMarks$RunMarking" "baseOffset" "J" (.long (0 : Int64))) (pre8 : Fld Z h0 a0 "tidemark/log/RecordMarks$RunMarking" "nextOffset" "J" (.long (0 : Int64))) (pre9 : Fld Z h0 a0 "tidemark/log/RecordMarks$RunMarking" "lastStart" "I" (.int (0 : Int32))) :
    MetFree l (⟨"tidemark/log/RecordMarks$RunMarking", "<init>", "(J)V"⟩ : MethodName) (head1 (Jvm.Cond.code (⟨"tidemark/log/RecordMarks$RunMarking", "<init>", "(J)V"⟩ : MethodName) prog_115_method_1_code 3 none :: ws) ({ frames := 2, cells := 2, slots := 14, locals := 27 } : Room)) (fun a U => a = #[(.ref a0), (.long q1)] ∧ Z.Warmed39 U.vm ∧ U.heap = h0) (fun _ _ _ _ _ => True) (fun _ U o U' => ∃ v L, o = .returned v ∧ own_Q1 Z a0 q1 h0 n0 v U'.heap L ∧ FrameEnd U o U' L ({ frames := 2, cells := 2, slots := 14, locals := 27 } : Room).cells ({ frames := 2, cells := 2, slots := 14, locals := 27 } : Room).slots) := by
  refine MetFree.of_bodySF (plainFor_of_name own_pn113) hisR ?_
  intro p e s m args below meth c s₁ Bd hml0 hP hK
  obtain ⟨rfl, hZ, hh⟩ := hP
  have hx := Bd.exec
  have hby := Bd.bytes
  have hlk : meth.locks = false := Bd.notSynchronized
  have hml : c.maxLocals = 3 := hml0
  have hown : s.vm.findClass "tidemark/log/RecordMarks$RunMarking" = some m.cls := findClass_of_methodNamed Bd.named
  have hnm := (name_of_methodNamed Bd.named Bd.method).1
  have X0 : Stand p l e ({ frames := 2, cells := 2, slots := 14, locals := 27 } : Room) s m #[(.ref a0), (.long q1)] below meth c s₁ [] 0 0 := Stand.of_body Bd
  have e0 : s₁.heap = h0 := by rw [← hh, Bd.state]; rfl
  have N0 := Fr.nil n0
  show OG p e below (FE s ({ frames := 2, cells := 2, slots := 14, locals := 27 } : Room).cells ({ frames := 2, cells := 2, slots := 14, locals := 27 } : Room).slots) (own_Q1 Z a0 q1 h0 n0) (s₁.setTop (entryFrame m #[(.ref a0), (.long q1)] 3))
  refine og_of (fun _ k => castTop (own_ef1 m a0 q1) k) ?_
  refine o_aloadN X0 hx rfl (hb hby own_d1_0) rfl rfl ?_
  obtain ⟨T1, X1, e1, st1⟩ := initO X0 hx hZ hown (hw _ (List.mem_of_getElem? (i := 7) rfl)) (hw _ (List.mem_of_getElem? (i := 8) rfl)) (hw _ (List.mem_of_getElem? (i := 9) rfl)) e0 (g := (mkF m 1 #[.val (.ref a0), .val (.long q1), .second] [(.ref a0)])) rfl (by rw [hml]; rfl) rfl (hb hby own_d1_1) (by decide) (W := 0) (by show 2 * 0 + _ ≤ _; exact Nat.le_of_eq rfl) (by decide)
  refine og_of st1 ?_
  show OG p e below _ _ (T1.setTop (mkF m 4 #[.val (.ref a0), .val (.long q1), .second] []))
  refine o_aloadN X1 hx rfl (hb hby own_d1_4) rfl rfl ?_
  obtain ⟨T2, h2, X2, e2, E2, A2, D2, -, st2⟩ := newO X1 hx hZ hown (hw _ (List.mem_of_getElem? (i := 10) rfl)) (hw _ (List.mem_of_getElem? (i := 11) rfl)) (hw _ (List.mem_of_getElem? (i := 12) rfl)) e1 (g := (mkF m 5 #[.val (.ref a0), .val (.long q1), .second] [(.ref a0)])) rfl (hb hby own_d1_5) (by decide) (by decide)
  obtain ⟨b2, g2⟩ : ∃ z, z = h0.size := ⟨_, rfl⟩
  rw [← g2] at A2 D2 st2
  have ne3 : a0 ≠ b2 := Nat.ne_of_lt (Nat.lt_of_lt_of_le pre0.lt (Nat.le_of_eq g2.symm))
  have gn2 : n0 ≤ b2 := Nat.le_trans Z0 (Nat.le_of_eq g2.symm)
  have sz2 : h0.size ≤ b2 := Nat.le_trans (Keep.refl h0 [a0]).1 (Nat.le_of_eq g2.symm)
  have Kp4 : Keep h0 h2 [a0] := (Keep.refl h0 [a0]).ext E2
  have F2_19 : Fld Z h2 b2 "tidemark/log/RecordMarks$LaterMarks" "marks" "[I" .null := D2 (Or.inl (hw _ (List.mem_of_getElem? (i := 19) rfl))) (ty := (.array .int)) (by decide)
  have F2_70 : Fld Z h2 b2 "tidemark/log/RecordMarks$LaterMarks" "count" "I" (.int (0 : Int32)) := D2 (Or.inl (hw _ (List.mem_of_getElem? (i := 70) rfl))) (ty := .int) (by decide)
  refine og_of st2 ?_
  show OG p e below _ _ (T2.setTop (mkF m 8 #[.val (.ref a0), .val (.long q1), .second] [(.ref b2), (.ref a0)]))
  refine o_dup X2 hx rfl (hb hby own_d1_8) rfl ?_
  refine o_iconst (z := (4 : Int32)) X2 hx rfl (hb hby own_d1_9) (by decide) ?_
  obtain ⟨_, _, ⟨T5, L5, k5, n5⟩, -, X5, ⟨Lc5, hQ5, l5, y5, z5⟩, st5⟩ := X2.specialBack hx (y := (⟨"tidemark/log/RecordMarks$LaterMarks", "<init>", "(I)V"⟩ : MethodName)) rfl hown (mvT hZ (hw _ (List.mem_of_getElem? (i := 13) rfl))) (mvT hZ (hw _ (List.mem_of_getElem? (i := 14) rfl))) (mvT hZ (hw _ (List.mem_of_getElem? (i := 15) rfl))) (by decide) (backOf (W := 2) (own_rm3 l Z aA hw [] b2 h2 n0 (Nat.le_trans Z0 E2.1) A2 gn2 F2_19 F2_70) hZ (hw _ (List.mem_of_getElem? (i := 15) rfl)) (hw _ (List.mem_of_getElem? (i := 12) rfl)) (by decide) (by decide)) (g := (mkF m 10 #[.val (.ref a0), .val (.long q1), .second] [(.int (4 : Int32)), (.ref b2), (.ref b2), (.ref a0)])) rfl (by rw [hml]; rfl) (Steps.refl _) (a := b2) (argsL := [(.int (4 : Int32))]) (rest := [(.ref b2), (.ref a0)]) (lenOf own_pd2 rfl) rfl (by show 2 * 0 + _ ≤ _; exact Nat.le_of_eq rfl) (hb hby own_d1_10) (fun _ _ => ⟨rfl, e2, Nat.le_of_ble_eq_true rfl, Nat.le_of_ble_eq_true rfl⟩)
  dsimp only [Pt.U, Pt.locs, Pt.cells, Pt.slots] at X5 l5 y5 z5 st5 hQ5
  subst l5 y5 z5
  obtain ⟨b5, k_b5, rfl, N5q, K5, sq5_0, f5_0, f5_1, f5_2⟩ := hQ5
  have Fc6 : Exa Z h2 a0 "tidemark/log/RecordMarks$RunMarking" := (Exa.ext E2 pre0)
  have ne7 : a0 ≠ b5 := Nat.ne_of_lt (Nat.lt_of_lt_of_le Fc6.lt sq5_0)
  have ne8 : b2 ≠ b5 := Nat.ne_of_lt (Nat.lt_of_lt_of_le A2.lt sq5_0)
  have gnb5 : n0 ≤ b5 := Nat.le_trans (Nat.le_trans Z0 E2.1) sq5_0
  have szb5 : h0.size ≤ b5 := Nat.le_trans Kp4.1 sq5_0
  have N9 := Fr.app N0 N5q
  have Kp10 : Keep h0 T5.heap [a0] := Kp4.trans K5 (allS (Or.inr sz2) all0)
  refine og_tr st5 ?_
  show OG p e below _ _ (T5.setTop (mkF m 13 #[.val (.ref a0), .val (.long q1), .second] [(.ref b2), (.ref a0)]))
  have Fc11 : Exa Z T5.heap a0 "tidemark/log/RecordMarks$RunMarking" := (Fc6.keep K5)
  have Fc12 : Fld Z T5.heap a0 "tidemark/log/RecordMarks$RunMarking" "later" "Ltidemark/log/RecordMarks$LaterMarks;" .null := ((Fld.ext E2 pre2).keep K5 (ninS ne3 nin0))
  obtain ⟨T13, h13, X13, e13, W13, st13⟩ := putF X5 hx hZ hown (host := "") (Or.inl (hw _ (List.mem_of_getElem? (i := 20) rfl))) Via.refl rfl Fc12 Fc11 (Or.inr ⟨(hw _ (List.mem_of_getElem? (i := 21) rfl)), rfl, hnm⟩) (hw _ (List.mem_of_getElem? (i := 2) rfl)) (ty := (.object "tidemark/log/RecordMarks$LaterMarks")) (by decide) rfl rfl (g := (mkF m 13 #[.val (.ref a0), .val (.long q1), .second] [(.ref b2), (.ref a0)])) rfl rfl (hb hby own_d1_13)
  have Fw13 := Fc12.same W13
  have N13 := Fr.snoc X13 N9 pre1
  have Kp14 : Keep h0 h13 [a0] := Kp10.wr W13 (Or.inl (List.mem_of_getElem? (i := 0) rfl))
  refine og_of st13 ?_
  show OG p e below _ _ (T13.setTop (mkF m 16 #[.val (.ref a0), .val (.long q1), .second] []))
  refine o_aloadN X13 hx rfl (hb hby own_d1_16) rfl rfl ?_
  refine o_ldc2L X13 hx rfl (hb hby own_d1_17) hZ hown (hw _ (List.mem_of_getElem? (i := 22) rfl)) ?_
  have Fc15 : Exa Z h13 a0 "tidemark/log/RecordMarks$RunMarking" := (Exa.wr W13 Fc11)
  have Fc16 : Fld Z h13 a0 "tidemark/log/RecordMarks$RunMarking" "largest" "J" (.long (0 : Int64)) := (Fld.other W13 ((Fld.ext E2 pre3).keep K5 (ninS ne3 nin0)) (Or.inr (slot_ne (Or.inl (hw _ (List.mem_of_getElem? (i := 24) rfl))) (Or.inr (hw _ (List.mem_of_getElem? (i := 21) rfl))) (by decide) (t := .long) (t' := (.object "tidemark/log/RecordMarks$LaterMarks")) (by decide) (by decide))))
  obtain ⟨T17, h17, X17, e17, W17, st17⟩ := putF X13 hx hZ hown (host := "") (Or.inl (hw _ (List.mem_of_getElem? (i := 23) rfl))) Via.refl e13 Fc16 Fc15 (Or.inl (hw _ (List.mem_of_getElem? (i := 24) rfl))) (hw _ (List.mem_of_getElem? (i := 2) rfl)) (ty := .long) (by decide) rfl rfl (g := (mkF m 20 #[.val (.ref a0), .val (.long q1), .second] [(.long (-9223372036854775808 : Int64)), (.ref a0)])) rfl rfl (hb hby own_d1_20)
  have Fw17 := Fc16.same W17
  have N17 := Fr.snoc X17 N13 pre1
  have Kp18 : Keep h0 h17 [a0] := Kp14.wr W17 (Or.inl (List.mem_of_getElem? (i := 0) rfl))
  refine og_of st17 ?_
  show OG p e below _ _ (T17.setTop (mkF m 23 #[.val (.ref a0), .val (.long q1), .second] []))
  refine o_aloadN X17 hx rfl (hb hby own_d1_23) rfl rfl ?_
  refine o_lloadN X17 hx rfl (hb hby own_d1_24) rfl ?_
  have Fc19 : Exa Z h17 a0 "tidemark/log/RecordMarks$RunMarking" := (Exa.wr W17 Fc15)
  have Fc20 : Fld Z h17 a0 "tidemark/log/RecordMarks$RunMarking" "position" "J" (.long (0 : Int64)) := (Fld.other W17 (Fld.other W13 ((Fld.ext E2 pre4).keep K5 (ninS ne3 nin0)) (Or.inr (slot_ne (Or.inr (hw _ (List.mem_of_getElem? (i := 26) rfl))) (Or.inr (hw _ (List.mem_of_getElem? (i := 21) rfl))) (by decide) (t := .long) (t' := (.object "tidemark/log/RecordMarks$LaterMarks")) (by decide) (by decide)))) (Or.inr (slot_ne (Or.inr (hw _ (List.mem_of_getElem? (i := 26) rfl))) (Or.inl (hw _ (List.mem_of_getElem? (i := 24) rfl))) (by decide) (t := .long) (t' := .long) (by decide) (by decide))))
  obtain ⟨T21, h21, X21, e21, W21, st21⟩ := putF X17 hx hZ hown (host := "") (Or.inl (hw _ (List.mem_of_getElem? (i := 25) rfl))) Via.refl e17 Fc20 Fc19 (Or.inr ⟨(hw _ (List.mem_of_getElem? (i := 26) rfl)), rfl, hnm⟩) (hw _ (List.mem_of_getElem? (i := 2) rfl)) (ty := .long) (by decide) rfl rfl (g := (mkF m 25 #[.val (.ref a0), .val (.long q1), .second] [(.long q1), (.ref a0)])) rfl rfl (hb hby own_d1_25)
  have Fw21 := Fc20.same W21
  have N21 := Fr.snoc X21 N17 pre1
  have Kp22 : Keep h0 h21 [a0] := Kp18.wr W21 (Or.inl (List.mem_of_getElem? (i := 0) rfl))
  refine og_of st21 ?_
  show OG p e below _ _ (T21.setTop (mkF m 28 #[.val (.ref a0), .val (.long q1), .second] []))
  refine o_aloadN X21 hx rfl (hb hby own_d1_28) rfl rfl ?_
  refine o_lloadN X21 hx rfl (hb hby own_d1_29) rfl ?_
  have Fc23 : Exa Z h21 a0 "tidemark/log/RecordMarks$RunMarking" := (Exa.wr W21 Fc19)
  have Fc24 : Fld Z h21 a0 "tidemark/log/RecordMarks$RunMarking" "end" "J" (.long (0 : Int64)) := (Fld.other W21 (Fld.other W17 (Fld.other W13 ((Fld.ext E2 pre5).keep K5 (ninS ne3 nin0)) (Or.inr (slot_ne (Or.inl (hw _ (List.mem_of_getElem? (i := 28) rfl))) (Or.inr (hw _ (List.mem_of_getElem? (i := 21) rfl))) (by decide) (t := .long) (t' := (.object "tidemark/log/RecordMarks$LaterMarks")) (by decide) (by decide)))) (Or.inr (slot_ne (Or.inl (hw _ (List.mem_of_getElem? (i := 28) rfl))) (Or.inl (hw _ (List.mem_of_getElem? (i := 24) rfl))) (by decide) (t := .long) (t' := .long) (by decide) (by decide)))) (Or.inr (slot_ne (Or.inl (hw _ (List.mem_of_getElem? (i := 28) rfl))) (Or.inr (hw _ (List.mem_of_getElem? (i := 26) rfl))) (by decide) (t := .long) (t' := .long) (by decide) (by decide))))
  obtain ⟨T25, h25, X25, e25, W25, st25⟩ := putF X21 hx hZ hown (host := "") (Or.inl (hw _ (List.mem_of_getElem? (i := 27) rfl))) Via.refl e21 Fc24 Fc23 (Or.inl (hw _ (List.mem_of_getElem? (i := 28) rfl))) (hw _ (List.mem_of_getElem? (i := 2) rfl)) (ty := .long) (by decide) rfl rfl (g := (mkF m 30 #[.val (.ref a0), .val (.long q1), .second] [(.long q1), (.ref a0)])) rfl rfl (hb hby own_d1_30)
  have Fw25 := Fc24.same W25
  have N25 := Fr.snoc X25 N21 pre1
  have Kp26 : Keep h0 h25 [a0] := Kp22.wr W25 (Or.inl (List.mem_of_getElem? (i := 0) rfl))
  refine og_of st25 ?_
  show OG p e below _ _ (T25.setTop (mkF m 33 #[.val (.ref a0), .val (.long q1), .second] []))
  have Fc27 : Fld Z h25 a0 "tidemark/log/RecordMarks$RunMarking" "later" "Ltidemark/log/RecordMarks$LaterMarks;" (.ref b2) := (Fld.other W25 (Fld.other W21 (Fld.other W17 Fw13 (Or.inr (slot_ne (Or.inr (hw _ (List.mem_of_getElem? (i := 21) rfl))) (Or.inl (hw _ (List.mem_of_getElem? (i := 24) rfl))) (by decide) (t := (.object "tidemark/log/RecordMarks$LaterMarks")) (t' := .long) (by decide) (by decide)))) (Or.inr (slot_ne (Or.inr (hw _ (List.mem_of_getElem? (i := 21) rfl))) (Or.inr (hw _ (List.mem_of_getElem? (i := 26) rfl))) (by decide) (t := (.object "tidemark/log/RecordMarks$LaterMarks")) (t' := .long) (by decide) (by decide)))) (Or.inr (slot_ne (Or.inr (hw _ (List.mem_of_getElem? (i := 21) rfl))) (Or.inl (hw _ (List.mem_of_getElem? (i := 28) rfl))) (by decide) (t := (.object "tidemark/log/RecordMarks$LaterMarks")) (t' := .long) (by decide) (by decide))))
  have Fc28 : Fld Z h25 a0 "tidemark/log/RecordMarks$RunMarking" "largest" "J" (.long (-9223372036854775808 : Int64)) := (Fld.other W25 (Fld.other W21 Fw17 (Or.inr (slot_ne (Or.inl (hw _ (List.mem_of_getElem? (i := 24) rfl))) (Or.inr (hw _ (List.mem_of_getElem? (i := 26) rfl))) (by decide) (t := .long) (t' := .long) (by decide) (by decide)))) (Or.inr (slot_ne (Or.inl (hw _ (List.mem_of_getElem? (i := 24) rfl))) (Or.inl (hw _ (List.mem_of_getElem? (i := 28) rfl))) (by decide) (t := .long) (t' := .long) (by decide) (by decide))))
  have Fc29 : Fld Z h25 a0 "tidemark/log/RecordMarks$RunMarking" "position" "J" (.long q1) := (Fld.other W25 Fw21 (Or.inr (slot_ne (Or.inr (hw _ (List.mem_of_getElem? (i := 26) rfl))) (Or.inl (hw _ (List.mem_of_getElem? (i := 28) rfl))) (by decide) (t := .long) (t' := .long) (by decide) (by decide))))
  have Fc30 : Fld Z h25 a0 "tidemark/log/RecordMarks$RunMarking" "batches" "I" (.int (0 : Int32)) := (Fld.other W25 (Fld.other W21 (Fld.other W17 (Fld.other W13 ((Fld.ext E2 pre6).keep K5 (ninS ne3 nin0)) (Or.inr (slot_ne (Or.inl (hw _ (List.mem_of_getElem? (i := 35) rfl))) (Or.inr (hw _ (List.mem_of_getElem? (i := 21) rfl))) (by decide) (t := .int) (t' := (.object "tidemark/log/RecordMarks$LaterMarks")) (by decide) (by decide)))) (Or.inr (slot_ne (Or.inl (hw _ (List.mem_of_getElem? (i := 35) rfl))) (Or.inl (hw _ (List.mem_of_getElem? (i := 24) rfl))) (by decide) (t := .int) (t' := .long) (by decide) (by decide)))) (Or.inr (slot_ne (Or.inl (hw _ (List.mem_of_getElem? (i := 35) rfl))) (Or.inr (hw _ (List.mem_of_getElem? (i := 26) rfl))) (by decide) (t := .int) (t' := .long) (by decide) (by decide)))) (Or.inr (slot_ne (Or.inl (hw _ (List.mem_of_getElem? (i := 35) rfl))) (Or.inl (hw _ (List.mem_of_getElem? (i := 28) rfl))) (by decide) (t := .int) (t' := .long) (by decide) (by decide))))
  have Fc31 : Fld Z h25 a0 "tidemark/log/RecordMarks$RunMarking" "baseOffset" "J" (.long (0 : Int64)) := (Fld.other W25 (Fld.other W21 (Fld.other W17 (Fld.other W13 ((Fld.ext E2 pre7).keep K5 (ninS ne3 nin0)) (Or.inr (slot_ne (Or.inl (hw _ (List.mem_of_getElem? (i := 37) rfl))) (Or.inr (hw _ (List.mem_of_getElem? (i := 21) rfl))) (by decide) (t := .long) (t' := (.object "tidemark/log/RecordMarks$LaterMarks")) (by decide) (by decide)))) (Or.inr (slot_ne (Or.inl (hw _ (List.mem_of_getElem? (i := 37) rfl))) (Or.inl (hw _ (List.mem_of_getElem? (i := 24) rfl))) (by decide) (t := .long) (t' := .long) (by decide) (by decide)))) (Or.inr (slot_ne (Or.inl (hw _ (List.mem_of_getElem? (i := 37) rfl))) (Or.inr (hw _ (List.mem_of_getElem? (i := 26) rfl))) (by decide) (t := .long) (t' := .long) (by decide) (by decide)))) (Or.inr (slot_ne (Or.inl (hw _ (List.mem_of_getElem? (i := 37) rfl))) (Or.inl (hw _ (List.mem_of_getElem? (i := 28) rfl))) (by decide) (t := .long) (t' := .long) (by decide) (by decide))))
  have Fc32 : Fld Z h25 a0 "tidemark/log/RecordMarks$RunMarking" "nextOffset" "J" (.long (0 : Int64)) := (Fld.other W25 (Fld.other W21 (Fld.other W17 (Fld.other W13 ((Fld.ext E2 pre8).keep K5 (ninS ne3 nin0)) (Or.inr (slot_ne (Or.inl (hw _ (List.mem_of_getElem? (i := 39) rfl))) (Or.inr (hw _ (List.mem_of_getElem? (i := 21) rfl))) (by decide) (t := .long) (t' := (.object "tidemark/log/RecordMarks$LaterMarks")) (by decide) (by decide)))) (Or.inr (slot_ne (Or.inl (hw _ (List.mem_of_getElem? (i := 39) rfl))) (Or.inl (hw _ (List.mem_of_getElem? (i := 24) rfl))) (by decide) (t := .long) (t' := .long) (by decide) (by decide)))) (Or.inr (slot_ne (Or.inl (hw _ (List.mem_of_getElem? (i := 39) rfl))) (Or.inr (hw _ (List.mem_of_getElem? (i := 26) rfl))) (by decide) (t := .long) (t' := .long) (by decide) (by decide)))) (Or.inr (slot_ne (Or.inl (hw _ (List.mem_of_getElem? (i := 39) rfl))) (Or.inl (hw _ (List.mem_of_getElem? (i := 28) rfl))) (by decide) (t := .long) (t' := .long) (by decide) (by decide))))
  have Fc33 : Fld Z h25 a0 "tidemark/log/RecordMarks$RunMarking" "lastStart" "I" (.int (0 : Int32)) := (Fld.other W25 (Fld.other W21 (Fld.other W17 (Fld.other W13 ((Fld.ext E2 pre9).keep K5 (ninS ne3 nin0)) (Or.inr (slot_ne (Or.inl (hw _ (List.mem_of_getElem? (i := 45) rfl))) (Or.inr (hw _ (List.mem_of_getElem? (i := 21) rfl))) (by decide) (t := .int) (t' := (.object "tidemark/log/RecordMarks$LaterMarks")) (by decide) (by decide)))) (Or.inr (slot_ne (Or.inl (hw _ (List.mem_of_getElem? (i := 45) rfl))) (Or.inl (hw _ (List.mem_of_getElem? (i := 24) rfl))) (by decide) (t := .int) (t' := .long) (by decide) (by decide)))) (Or.inr (slot_ne (Or.inl (hw _ (List.mem_of_getElem? (i := 45) rfl))) (Or.inr (hw _ (List.mem_of_getElem? (i := 26) rfl))) (by decide) (t := .int) (t' := .long) (by decide) (by decide)))) (Or.inr (slot_ne (Or.inl (hw _ (List.mem_of_getElem? (i := 45) rfl))) (Or.inl (hw _ (List.mem_of_getElem? (i := 28) rfl))) (by decide) (t := .int) (t' := .long) (by decide) (by decide))))
  have Fc34 : Exa Z h25 b2 "tidemark/log/RecordMarks$LaterMarks" := (Exa.wr W25 (Exa.wr W21 (Exa.wr W17 (Exa.wr W13 (A2.keep K5)))))
  have Fc35 : Fld Z h25 b2 "tidemark/log/RecordMarks$LaterMarks" "marks" "[I" (.ref b5) := (Fld.other W25 (Fld.other W21 (Fld.other W17 (Fld.other W13 f5_0 (Or.inl (Ne.symm ne3))) (Or.inl (Ne.symm ne3))) (Or.inl (Ne.symm ne3))) (Or.inl (Ne.symm ne3)))
  have Fc36 : Fld Z h25 b2 "tidemark/log/RecordMarks$LaterMarks" "count" "I" (.int (0 : Int32)) := (Fld.other W25 (Fld.other W21 (Fld.other W17 (Fld.other W13 f5_1 (Or.inl (Ne.symm ne3))) (Or.inl (Ne.symm ne3))) (Or.inl (Ne.symm ne3))) (Or.inl (Ne.symm ne3)))
  have Fc37 : Arv Z h25 b5 k_b5 .int (12 : Int32) [(.int (0 : Int32)), (.int (0 : Int32)), (.int (0 : Int32)), (.int (0 : Int32)), (.int (0 : Int32)), (.int (0 : Int32)), (.int (0 : Int32)), (.int (0 : Int32))] (.int (0 : Int32)) := ((((f5_2.other W13 (Ne.symm ne7)).other W17 (Ne.symm ne7)).other W21 (Ne.symm ne7)).other W25 (Ne.symm ne7))
  exact o_ret0 X25 hx Bd.returns (own_lv X25 hlk (by decide) (by decide)) (hb hby own_d1_33) ⟨b2, b5, k_b5, rfl, N25, (by rw [e25]; exact Kp26), sz2, szb5, ne8, (by rw [e25]; exact Fc27), (by rw [e25]; exact Fc28), (by rw [e25]; exact Fc29), (by rw [e25]; exact Fw25), (by rw [e25]; exact Fc30), (by rw [e25]; exact Fc31), (by rw [e25]; exact Fc32), (by rw [e25]; exact Fc33), (by rw [e25]; exact Fc34), (by rw [e25]; exact Fc35), (by rw [e25]; exact Fc36), (by rw [e25]; exact Fc37)⟩
theorem own_pd3 : parseMethodDescriptor "(JJ)J" = some ⟨[.long, .long], some .long⟩ := by decide +kernel
theorem own_d4_0 : decode prog_115_method_3_code 0 = .ok (.aload_n 0, 1) := by decide +kernel
theorem own_d4_1 : decode prog_115_method_3_code 1 = .ok (.getfield 37, 3) := by decide +kernel
theorem own_d4_4 : decode prog_115_method_3_code 4 = .ok (.ifCond .ne 11, 3) := by decide +kernel
theorem own_d4_7 : decode prog_115_method_3_code 7 = .ok (.aload_n 0, 1) := by decide +kernel
theorem own_d4_8 : decode prog_115_method_3_code 8 = .ok (.lload_n 2, 1) := by decide +kernel
theorem own_d4_9 : decode prog_115_method_3_code 9 = .ok (.putfield 34, 3) := by decide +kernel
theorem own_d4_12 : decode prog_115_method_3_code 12 = .ok (.goto 54, 3) := by decide +kernel
theorem own_d4_66 : decode prog_115_method_3_code 66 = .ok (.aload_n 0, 1) := by decide +kernel
theorem own_d4_67 : decode prog_115_method_3_code 67 = .ok (.dup, 1) := by decide +kernel
theorem own_d4_68 : decode prog_115_method_3_code 68 = .ok (.getfield 37, 3) := by decide +kernel
theorem own_d4_71 : decode prog_115_method_3_code 71 = .ok (.iconst 1, 1) := by decide +kernel
theorem own_d4_72 : decode prog_115_method_3_code 72 = .ok (.iadd, 1) := by decide +kernel
theorem own_d4_73 : decode prog_115_method_3_code 73 = .ok (.putfield 37, 3) := by decide +kernel
theorem own_d4_76 : decode prog_115_method_3_code 76 = .ok (.aload_n 0, 1) := by decide +kernel
theorem own_d4_77 : decode prog_115_method_3_code 77 = .ok (.dup, 1) := by decide +kernel
theorem own_d4_78 : decode prog_115_method_3_code 78 = .ok (.getfield 31, 3) := by decide +kernel
theorem own_d4_81 : decode prog_115_method_3_code 81 = .ok (.iload_n 1, 1) := by decide +kernel
theorem own_d4_82 : decode prog_115_method_3_code 82 = .ok (.i2l, 1) := by decide +kernel
theorem own_d4_83 : decode prog_115_method_3_code 83 = .ok (.ladd, 1) := by decide +kernel
theorem own_d4_84 : decode prog_115_method_3_code 84 = .ok (.putfield 31, 3) := by decide +kernel
theorem own_d4_87 : decode prog_115_method_3_code 87 = .ok (.aload_n 0, 1) := by decide +kernel
theorem own_d4_88 : decode prog_115_method_3_code 88 = .ok (.lload 4, 2) := by decide +kernel
theorem own_d4_90 : decode prog_115_method_3_code 90 = .ok (.putfield 50, 3) := by decide +kernel
theorem own_d4_93 : decode prog_115_method_3_code 93 = .ok (.aload_n 0, 1) := by decide +kernel
theorem own_d4_94 : decode prog_115_method_3_code 94 = .ok (.aload_n 0, 1) := by decide +kernel
theorem own_d4_95 : decode prog_115_method_3_code 95 = .ok (.getfield 24, 3) := by decide +kernel
theorem own_d4_98 : decode prog_115_method_3_code 98 = .ok (.lload 6, 2) := by decide +kernel
theorem own_d4_100 : decode prog_115_method_3_code 100 = .ok (.invokestatic 53, 3) := by decide +kernel
theorem own_d4_103 : decode prog_115_method_3_code 103 = .ok (.putfield 24, 3) := by decide +kernel
theorem own_d4_106 : decode prog_115_method_3_code 106 = .ok (.return_, 1) := by decide +kernel
theorem own_efad0 (m : MethodId) (a0 : Addr) (p1 : Int32) (q2 : Int64) (q3 : Int64) (q4 : Int64) : entryFrame m #[(.ref a0), (.int p1), (.long q2), (.long q3), (.long q4)] 8 = mkF m 0 #[.val (.ref a0), .val (.int p1), .val (.long q2), .second, .val (.long q3), .second, .val (.long q4), .second] [] := by first | (simp [entryFrame, mkF, argsToLocals, Value.category]; done) | rfl
def own_Qad0 (Z : State) (a0 : Addr) (p1 : Int32) (q2 : Int64) (q3 : Int64) (q4 : Int64) (lm : Addr) (ul : Int64) (up : Int64) (ue : Int64) (ub : Int64) (un : Int64) (us : Int32) (h0 : Heap) (n0 : Nat) (v : Option Value) (h : Heap) (L : List Loc) : Prop := v = none ∧ Fr n0 L ∧ Keep h0 h [a0] ∧ Fld Z h a0 "tidemark/log/RecordMarks$RunMarking" "later" "Ltidemark/log/RecordMarks$LaterMarks;" (.ref lm) ∧ Fld Z h a0 "tidemark/log/RecordMarks$RunMarking" "largest" "J" (.long (own_f5 ul q4)) ∧ Fld Z h a0 "tidemark/log/RecordMarks$RunMarking" "position" "J" (.long up) ∧ Fld Z h a0 "tidemark/log/RecordMarks$RunMarking" "end" "J" (.long (ue + (p1.toInt64))) ∧ Fld Z h a0 "tidemark/log/RecordMarks$RunMarking" "batches" "I" (.int (1 : Int32)) ∧ Fld Z h a0 "tidemark/log/RecordMarks$RunMarking" "baseOffset" "J" (.long q2) ∧ Fld Z h a0 "tidemark/log/RecordMarks$RunMarking" "nextOffset" "J" (.long q3) ∧ Fld Z h a0 "tidemark/log/RecordMarks$RunMarking" "lastStart" "I" (.int us)
set_option maxRecDepth 65536 in
set_option maxHeartbeats 40000000 in
theorem own_rmad0 (l : Launch) (Z : State) (aA : Array Value) (hw : ∀ d ∈ tables_1, d.before aA Z = true) (ws : List Jvm.Cond) (a0 : Addr) (p1 : Int32) (q2 : Int64) (q3 : Int64) (q4 : Int64) (lm : Addr) (ul : Int64) (up : Int64) (ue : Int64) (ub : Int64) (un : Int64) (us : Int32) (h0 : Heap) (n0 : Nat) (Z0 : n0 ≤ h0.size) (pre0 : Exa Z h0 a0 "tidemark/log/RecordMarks$RunMarking") (pre1 : n0 ≤ a0) (pre2 : Fld Z h0 a0 "tidemark/log/RecordMarks$RunMarking" "later" "Ltidemark/log/RecordMarks$LaterMarks;" (.ref lm)) (pre3 : Fld Z h0 a0 "tidemark/log/RecordMarks$RunMarking" "largest" "J" (.long ul)) (pre4 : Fld Z h0 a0 "tidemark/log/RecordMarks$RunMarking" "position" "J" (.long up)) (pre5 : Fld Z h0 a0 "tidemark/log/RecordMarks$RunMarking" "end" "J" (.long ue)) (pre6 : Fld Z h0 a0 "tidemark/log/RecordMarks$RunMarking" "batches" "I" (.int (0 : Int32))) (pre7 : Fld Z h0 a0 "tidemark/log/RecordMarks$RunMarking" "baseOffset" "J" (.long ub)) (pre8 : Fld Z h0 a0 "tidemark/log/RecordMarks$RunMarking" "nextOffset" "J" (.long un)) (pre9 : Fld Z h0 a0 "tidemark/log/RecordMarks$RunMarking" "lastStart" "I" (.int us)) :
    MetFree l (⟨"tidemark/log/RecordMarks$RunMarking", "add", "(IJJJ)V"⟩ : MethodName) (head1 (Jvm.Cond.code (⟨"tidemark/log/RecordMarks$RunMarking", "add", "(IJJJ)V"⟩ : MethodName) prog_115_method_3_code 8 none :: ws) ({ frames := 1, cells := 0, slots := 0, locals := 16 } : Room)) (fun a U => a = #[(.ref a0), (.int p1), (.long q2), (.long q3), (.long q4)] ∧ Z.Warmed39 U.vm ∧ U.heap = h0) (fun _ _ _ _ _ => True) (fun _ U o U' => ∃ v L, o = .returned v ∧ own_Qad0 Z a0 p1 q2 q3 q4 lm ul up ue ub un us h0 n0 v U'.heap L ∧ FrameEnd U o U' L ({ frames := 1, cells := 0, slots := 0, locals := 16 } : Room).cells ({ frames := 1, cells := 0, slots := 0, locals := 16 } : Room).slots) := by
  refine MetFree.of_bodySF (plainFor_of_name own_pn113) hisR ?_
  intro p e s m args below meth c s₁ Bd hml0 hP hK
  obtain ⟨rfl, hZ, hh⟩ := hP
  have hx := Bd.exec
  have hby := Bd.bytes
  have hlk : meth.locks = false := Bd.notSynchronized
  have hml : c.maxLocals = 8 := hml0
  have hown : s.vm.findClass "tidemark/log/RecordMarks$RunMarking" = some m.cls := findClass_of_methodNamed Bd.named
  have hnm := (name_of_methodNamed Bd.named Bd.method).1
  have X0 : Stand p l e ({ frames := 1, cells := 0, slots := 0, locals := 16 } : Room) s m #[(.ref a0), (.int p1), (.long q2), (.long q3), (.long q4)] below meth c s₁ [] 0 0 := Stand.of_body Bd
  have e0 : s₁.heap = h0 := by rw [← hh, Bd.state]; rfl
  have N0 := Fr.nil n0
  show OG p e below (FE s ({ frames := 1, cells := 0, slots := 0, locals := 16 } : Room).cells ({ frames := 1, cells := 0, slots := 0, locals := 16 } : Room).slots) (own_Qad0 Z a0 p1 q2 q3 q4 lm ul up ue ub un us h0 n0) (s₁.setTop (entryFrame m #[(.ref a0), (.int p1), (.long q2), (.long q3), (.long q4)] 8))
  refine og_of (fun _ k => castTop (own_efad0 m a0 p1 q2 q3 q4) k) ?_
  refine o_aloadN X0 hx rfl (hb hby own_d4_0) rfl rfl ?_
  obtain ⟨T1, X1, e1, st1⟩ := getF X0 hx hZ hown (host := "") (Or.inl (hw _ (List.mem_of_getElem? (i := 34) rfl))) Via.refl e0 pre6 (g := (mkF m 1 #[.val (.ref a0), .val (.int p1), .val (.long q2), .second, .val (.long q3), .second, .val (.long q4), .second] [(.ref a0)])) rfl rfl (hb hby own_d4_1)
  refine og_of st1 ?_
  show OG p e below _ _ (T1.setTop (mkF m 4 #[.val (.ref a0), .val (.int p1), .val (.long q2), .second, .val (.long q3), .second, .val (.long q4), .second] [(.int (0 : Int32))]))
  refine o_ifN (pc' := 7) X1 hx rfl (hb hby own_d4_4) ((if0 _ _).trans (teq (by decide : ((0 : Int32) = (0 : Int32)))).2) ?_
  refine o_aloadN X1 hx rfl (hb hby own_d4_7) rfl rfl ?_
  refine o_lloadN X1 hx rfl (hb hby own_d4_8) rfl ?_
  obtain ⟨T2, h2, X2, e2, W2, st2⟩ := putF X1 hx hZ hown (host := "") (Or.inl (hw _ (List.mem_of_getElem? (i := 36) rfl))) Via.refl e1 pre7 pre0 (Or.inl (hw _ (List.mem_of_getElem? (i := 37) rfl))) (hw _ (List.mem_of_getElem? (i := 2) rfl)) (ty := .long) (by decide) rfl rfl (g := (mkF m 9 #[.val (.ref a0), .val (.int p1), .val (.long q2), .second, .val (.long q3), .second, .val (.long q4), .second] [(.long q2), (.ref a0)])) rfl rfl (hb hby own_d4_9)
  have Fw2 := pre7.same W2
  have N2 := Fr.snoc X2 N0 pre1
  have Kp3 : Keep h0 h2 [a0] := (Keep.refl h0 [a0]).wr W2 (Or.inl (List.mem_of_getElem? (i := 0) rfl))
  refine og_of st2 ?_
  show OG p e below _ _ (T2.setTop (mkF m 12 #[.val (.ref a0), .val (.int p1), .val (.long q2), .second, .val (.long q3), .second, .val (.long q4), .second] []))
  refine o_goto (pc' := 66) X2 hx (hb hby own_d4_12) (by decide) (by decide) ?_
  refine o_aloadN X2 hx rfl (hb hby own_d4_66) rfl rfl ?_
  refine o_dup X2 hx rfl (hb hby own_d4_67) rfl ?_
  have Fc4 : Fld Z h2 a0 "tidemark/log/RecordMarks$RunMarking" "batches" "I" (.int (0 : Int32)) := (Fld.other W2 pre6 (Or.inr (slot_ne (Or.inl (hw _ (List.mem_of_getElem? (i := 35) rfl))) (Or.inl (hw _ (List.mem_of_getElem? (i := 37) rfl))) (by decide) (t := .int) (t' := .long) (by decide) (by decide))))
  obtain ⟨T5, X5, e5, st5⟩ := getF X2 hx hZ hown (host := "") (Or.inl (hw _ (List.mem_of_getElem? (i := 34) rfl))) Via.refl e2 Fc4 (g := (mkF m 68 #[.val (.ref a0), .val (.int p1), .val (.long q2), .second, .val (.long q3), .second, .val (.long q4), .second] [(.ref a0), (.ref a0)])) rfl rfl (hb hby own_d4_68)
  refine og_of st5 ?_
  show OG p e below _ _ (T5.setTop (mkF m 71 #[.val (.ref a0), .val (.int p1), .val (.long q2), .second, .val (.long q3), .second, .val (.long q4), .second] [(.int (0 : Int32)), (.ref a0)]))
  refine o_iconst (z := (1 : Int32)) X5 hx rfl (hb hby own_d4_71) (by decide) ?_
  refine o_iadd (z := (1 : Int32)) X5 hx rfl (hb hby own_d4_72) (by decide) ?_
  have Fc6 : Exa Z h2 a0 "tidemark/log/RecordMarks$RunMarking" := (Exa.wr W2 pre0)
  obtain ⟨T7, h7, X7, e7, W7, st7⟩ := putF X5 hx hZ hown (host := "") (Or.inl (hw _ (List.mem_of_getElem? (i := 34) rfl))) Via.refl e5 Fc4 Fc6 (Or.inl (hw _ (List.mem_of_getElem? (i := 35) rfl))) (hw _ (List.mem_of_getElem? (i := 2) rfl)) (ty := .int) (by decide) rfl rfl (g := (mkF m 73 #[.val (.ref a0), .val (.int p1), .val (.long q2), .second, .val (.long q3), .second, .val (.long q4), .second] [(.int (1 : Int32)), (.ref a0)])) rfl rfl (hb hby own_d4_73)
  have Fw7 := Fc4.same W7
  have N7 := Fr.snoc X7 N2 pre1
  have Kp8 : Keep h0 h7 [a0] := Kp3.wr W7 (Or.inl (List.mem_of_getElem? (i := 0) rfl))
  refine og_of st7 ?_
  show OG p e below _ _ (T7.setTop (mkF m 76 #[.val (.ref a0), .val (.int p1), .val (.long q2), .second, .val (.long q3), .second, .val (.long q4), .second] []))
  refine o_aloadN X7 hx rfl (hb hby own_d4_76) rfl rfl ?_
  refine o_dup X7 hx rfl (hb hby own_d4_77) rfl ?_
  have Fc9 : Fld Z h7 a0 "tidemark/log/RecordMarks$RunMarking" "end" "J" (.long ue) := (Fld.other W7 (Fld.other W2 pre5 (Or.inr (slot_ne (Or.inl (hw _ (List.mem_of_getElem? (i := 28) rfl))) (Or.inl (hw _ (List.mem_of_getElem? (i := 37) rfl))) (by decide) (t := .long) (t' := .long) (by decide) (by decide)))) (Or.inr (slot_ne (Or.inl (hw _ (List.mem_of_getElem? (i := 28) rfl))) (Or.inl (hw _ (List.mem_of_getElem? (i := 35) rfl))) (by decide) (t := .long) (t' := .int) (by decide) (by decide))))
  obtain ⟨T10, X10, e10, st10⟩ := getF X7 hx hZ hown (host := "") (Or.inl (hw _ (List.mem_of_getElem? (i := 27) rfl))) Via.refl e7 Fc9 (g := (mkF m 78 #[.val (.ref a0), .val (.int p1), .val (.long q2), .second, .val (.long q3), .second, .val (.long q4), .second] [(.ref a0), (.ref a0)])) rfl rfl (hb hby own_d4_78)
  refine og_of st10 ?_
  show OG p e below _ _ (T10.setTop (mkF m 81 #[.val (.ref a0), .val (.int p1), .val (.long q2), .second, .val (.long q3), .second, .val (.long q4), .second] [(.long ue), (.ref a0)]))
  refine o_iloadN X10 hx rfl (hb hby own_d4_81) rfl ?_
  refine o_i2l (z := (p1.toInt64)) X10 hx rfl (hb hby own_d4_82) rfl ?_
  refine o_ladd (z := (ue + (p1.toInt64))) X10 hx rfl (hb hby own_d4_83) rfl ?_
  have Fc11 : Exa Z h7 a0 "tidemark/log/RecordMarks$RunMarking" := (Exa.wr W7 Fc6)
  obtain ⟨T12, h12, X12, e12, W12, st12⟩ := putF X10 hx hZ hown (host := "") (Or.inl (hw _ (List.mem_of_getElem? (i := 27) rfl))) Via.refl e10 Fc9 Fc11 (Or.inl (hw _ (List.mem_of_getElem? (i := 28) rfl))) (hw _ (List.mem_of_getElem? (i := 2) rfl)) (ty := .long) (by decide) rfl rfl (g := (mkF m 84 #[.val (.ref a0), .val (.int p1), .val (.long q2), .second, .val (.long q3), .second, .val (.long q4), .second] [(.long (ue + (p1.toInt64))), (.ref a0)])) rfl rfl (hb hby own_d4_84)
  have Fw12 := Fc9.same W12
  have N12 := Fr.snoc X12 N7 pre1
  have Kp13 : Keep h0 h12 [a0] := Kp8.wr W12 (Or.inl (List.mem_of_getElem? (i := 0) rfl))
  refine og_of st12 ?_
  show OG p e below _ _ (T12.setTop (mkF m 87 #[.val (.ref a0), .val (.int p1), .val (.long q2), .second, .val (.long q3), .second, .val (.long q4), .second] []))
  refine o_aloadN X12 hx rfl (hb hby own_d4_87) rfl rfl ?_
  refine o_lload X12 hx rfl (hb hby own_d4_88) rfl ?_
  have Fc14 : Exa Z h12 a0 "tidemark/log/RecordMarks$RunMarking" := (Exa.wr W12 Fc11)
  have Fc15 : Fld Z h12 a0 "tidemark/log/RecordMarks$RunMarking" "nextOffset" "J" (.long un) := (Fld.other W12 (Fld.other W7 (Fld.other W2 pre8 (Or.inr (slot_ne (Or.inl (hw _ (List.mem_of_getElem? (i := 39) rfl))) (Or.inl (hw _ (List.mem_of_getElem? (i := 37) rfl))) (by decide) (t := .long) (t' := .long) (by decide) (by decide)))) (Or.inr (slot_ne (Or.inl (hw _ (List.mem_of_getElem? (i := 39) rfl))) (Or.inl (hw _ (List.mem_of_getElem? (i := 35) rfl))) (by decide) (t := .long) (t' := .int) (by decide) (by decide)))) (Or.inr (slot_ne (Or.inl (hw _ (List.mem_of_getElem? (i := 39) rfl))) (Or.inl (hw _ (List.mem_of_getElem? (i := 28) rfl))) (by decide) (t := .long) (t' := .long) (by decide) (by decide))))
  obtain ⟨T16, h16, X16, e16, W16, st16⟩ := putF X12 hx hZ hown (host := "") (Or.inl (hw _ (List.mem_of_getElem? (i := 38) rfl))) Via.refl e12 Fc15 Fc14 (Or.inl (hw _ (List.mem_of_getElem? (i := 39) rfl))) (hw _ (List.mem_of_getElem? (i := 2) rfl)) (ty := .long) (by decide) rfl rfl (g := (mkF m 90 #[.val (.ref a0), .val (.int p1), .val (.long q2), .second, .val (.long q3), .second, .val (.long q4), .second] [(.long q3), (.ref a0)])) rfl rfl (hb hby own_d4_90)
  have Fw16 := Fc15.same W16
  have N16 := Fr.snoc X16 N12 pre1
  have Kp17 : Keep h0 h16 [a0] := Kp13.wr W16 (Or.inl (List.mem_of_getElem? (i := 0) rfl))
  refine og_of st16 ?_
  show OG p e below _ _ (T16.setTop (mkF m 93 #[.val (.ref a0), .val (.int p1), .val (.long q2), .second, .val (.long q3), .second, .val (.long q4), .second] []))
  refine o_aloadN X16 hx rfl (hb hby own_d4_93) rfl rfl ?_
  refine o_aloadN X16 hx rfl (hb hby own_d4_94) rfl rfl ?_
  have Fc18 : Fld Z h16 a0 "tidemark/log/RecordMarks$RunMarking" "largest" "J" (.long ul) := (Fld.other W16 (Fld.other W12 (Fld.other W7 (Fld.other W2 pre3 (Or.inr (slot_ne (Or.inl (hw _ (List.mem_of_getElem? (i := 24) rfl))) (Or.inl (hw _ (List.mem_of_getElem? (i := 37) rfl))) (by decide) (t := .long) (t' := .long) (by decide) (by decide)))) (Or.inr (slot_ne (Or.inl (hw _ (List.mem_of_getElem? (i := 24) rfl))) (Or.inl (hw _ (List.mem_of_getElem? (i := 35) rfl))) (by decide) (t := .long) (t' := .int) (by decide) (by decide)))) (Or.inr (slot_ne (Or.inl (hw _ (List.mem_of_getElem? (i := 24) rfl))) (Or.inl (hw _ (List.mem_of_getElem? (i := 28) rfl))) (by decide) (t := .long) (t' := .long) (by decide) (by decide)))) (Or.inr (slot_ne (Or.inl (hw _ (List.mem_of_getElem? (i := 24) rfl))) (Or.inl (hw _ (List.mem_of_getElem? (i := 39) rfl))) (by decide) (t := .long) (t' := .long) (by decide) (by decide))))
  obtain ⟨T19, X19, e19, st19⟩ := getF X16 hx hZ hown (host := "") (Or.inl (hw _ (List.mem_of_getElem? (i := 23) rfl))) Via.refl e16 Fc18 (g := (mkF m 95 #[.val (.ref a0), .val (.int p1), .val (.long q2), .second, .val (.long q3), .second, .val (.long q4), .second] [(.ref a0), (.ref a0)])) rfl rfl (hb hby own_d4_95)
  refine og_of st19 ?_
  show OG p e below _ _ (T19.setTop (mkF m 98 #[.val (.ref a0), .val (.int p1), .val (.long q2), .second, .val (.long q3), .second, .val (.long q4), .second] [(.long ul), (.ref a0)]))
  refine o_lload X19 hx rfl (hb hby own_d4_98) rfl ?_
  obtain ⟨_, _, ⟨T20, L20, k20, n20⟩, -, X20, ⟨Lc20, hQ20, l20, y20, z20⟩, st20⟩ := Jvm.LawKit.callS X19 hx (y := (⟨"java/lang/Math", "max", "(JJ)J"⟩ : MethodName)) hown (mvT hZ (hw _ (List.mem_of_getElem? (i := 40) rfl))) (mvT hZ (hw _ (List.mem_of_getElem? (i := 41) rfl))) (mvT hZ (hw _ (List.mem_of_getElem? (i := 42) rfl))) (mvT hZ (hw _ (List.mem_of_getElem? (i := 43) rfl))) (by decide) (backOf (W := 1) (own_rm5 l Z aA hw [] ul q4 h16 n0 (Nat.le_trans (Nat.le_trans (Nat.le_trans (Nat.le_trans Z0 (Keep.of_wr W2).1) (Keep.of_wr W7).1) (Keep.of_wr W12).1) (Keep.of_wr W16).1)) hZ (hw _ (List.mem_of_getElem? (i := 43) rfl)) (hw _ (List.mem_of_getElem? (i := 42) rfl)) (by decide) (by decide)) (g := (mkF m 100 #[.val (.ref a0), .val (.int p1), .val (.long q2), .second, .val (.long q3), .second, .val (.long q4), .second] [(.long q4), (.long ul), (.ref a0)])) rfl (by rw [hml]; rfl) (argsL := [(.long ul), (.long q4)]) (rest := [(.ref a0)]) (lenOf own_pd3 rfl) rfl (by show 2 * 0 + _ ≤ _; exact Nat.le_of_eq rfl) (hb hby own_d4_100) (fun _ _ => ⟨rfl, e19, Nat.le_of_ble_eq_true rfl, Nat.le_of_ble_eq_true rfl⟩)
  dsimp only [Pt.U, Pt.locs, Pt.cells, Pt.slots] at X20 l20 y20 z20 st20 hQ20
  subst l20 y20 z20
  obtain ⟨rfl, N20q, ee20⟩ := hQ20
  have N21 := Fr.app N16 N20q
  refine og_of st20 ?_
  show OG p e below _ _ (T20.setTop (mkF m 103 #[.val (.ref a0), .val (.int p1), .val (.long q2), .second, .val (.long q3), .second, .val (.long q4), .second] [(.long (own_f5 ul q4)), (.ref a0)]))
  have Fc22 : Exa Z h16 a0 "tidemark/log/RecordMarks$RunMarking" := (Exa.wr W16 Fc14)
  obtain ⟨T23, h23, X23, e23, W23, st23⟩ := putF X20 hx hZ hown (host := "") (Or.inl (hw _ (List.mem_of_getElem? (i := 23) rfl))) Via.refl ee20 Fc18 Fc22 (Or.inl (hw _ (List.mem_of_getElem? (i := 24) rfl))) (hw _ (List.mem_of_getElem? (i := 2) rfl)) (ty := .long) (by decide) rfl rfl (g := (mkF m 103 #[.val (.ref a0), .val (.int p1), .val (.long q2), .second, .val (.long q3), .second, .val (.long q4), .second] [(.long (own_f5 ul q4)), (.ref a0)])) rfl rfl (hb hby own_d4_103)
  have Fw23 := Fc18.same W23
  have N23 := Fr.snoc X23 N21 pre1
  have Kp24 : Keep h0 h23 [a0] := Kp17.wr W23 (Or.inl (List.mem_of_getElem? (i := 0) rfl))
  refine og_of st23 ?_
  show OG p e below _ _ (T23.setTop (mkF m 106 #[.val (.ref a0), .val (.int p1), .val (.long q2), .second, .val (.long q3), .second, .val (.long q4), .second] []))
  have Fc25 : Fld Z h23 a0 "tidemark/log/RecordMarks$RunMarking" "later" "Ltidemark/log/RecordMarks$LaterMarks;" (.ref lm) := (Fld.other W23 (Fld.other W16 (Fld.other W12 (Fld.other W7 (Fld.other W2 pre2 (Or.inr (slot_ne (Or.inr (hw _ (List.mem_of_getElem? (i := 21) rfl))) (Or.inl (hw _ (List.mem_of_getElem? (i := 37) rfl))) (by decide) (t := (.object "tidemark/log/RecordMarks$LaterMarks")) (t' := .long) (by decide) (by decide)))) (Or.inr (slot_ne (Or.inr (hw _ (List.mem_of_getElem? (i := 21) rfl))) (Or.inl (hw _ (List.mem_of_getElem? (i := 35) rfl))) (by decide) (t := (.object "tidemark/log/RecordMarks$LaterMarks")) (t' := .int) (by decide) (by decide)))) (Or.inr (slot_ne (Or.inr (hw _ (List.mem_of_getElem? (i := 21) rfl))) (Or.inl (hw _ (List.mem_of_getElem? (i := 28) rfl))) (by decide) (t := (.object "tidemark/log/RecordMarks$LaterMarks")) (t' := .long) (by decide) (by decide)))) (Or.inr (slot_ne (Or.inr (hw _ (List.mem_of_getElem? (i := 21) rfl))) (Or.inl (hw _ (List.mem_of_getElem? (i := 39) rfl))) (by decide) (t := (.object "tidemark/log/RecordMarks$LaterMarks")) (t' := .long) (by decide) (by decide)))) (Or.inr (slot_ne (Or.inr (hw _ (List.mem_of_getElem? (i := 21) rfl))) (Or.inl (hw _ (List.mem_of_getElem? (i := 24) rfl))) (by decide) (t := (.object "tidemark/log/RecordMarks$LaterMarks")) (t' := .long) (by decide) (by decide))))
  have Fc26 : Fld Z h23 a0 "tidemark/log/RecordMarks$RunMarking" "position" "J" (.long up) := (Fld.other W23 (Fld.other W16 (Fld.other W12 (Fld.other W7 (Fld.other W2 pre4 (Or.inr (slot_ne (Or.inr (hw _ (List.mem_of_getElem? (i := 26) rfl))) (Or.inl (hw _ (List.mem_of_getElem? (i := 37) rfl))) (by decide) (t := .long) (t' := .long) (by decide) (by decide)))) (Or.inr (slot_ne (Or.inr (hw _ (List.mem_of_getElem? (i := 26) rfl))) (Or.inl (hw _ (List.mem_of_getElem? (i := 35) rfl))) (by decide) (t := .long) (t' := .int) (by decide) (by decide)))) (Or.inr (slot_ne (Or.inr (hw _ (List.mem_of_getElem? (i := 26) rfl))) (Or.inl (hw _ (List.mem_of_getElem? (i := 28) rfl))) (by decide) (t := .long) (t' := .long) (by decide) (by decide)))) (Or.inr (slot_ne (Or.inr (hw _ (List.mem_of_getElem? (i := 26) rfl))) (Or.inl (hw _ (List.mem_of_getElem? (i := 39) rfl))) (by decide) (t := .long) (t' := .long) (by decide) (by decide)))) (Or.inr (slot_ne (Or.inr (hw _ (List.mem_of_getElem? (i := 26) rfl))) (Or.inl (hw _ (List.mem_of_getElem? (i := 24) rfl))) (by decide) (t := .long) (t' := .long) (by decide) (by decide))))
  have Fc27 : Fld Z h23 a0 "tidemark/log/RecordMarks$RunMarking" "end" "J" (.long (ue + (p1.toInt64))) := (Fld.other W23 (Fld.other W16 Fw12 (Or.inr (slot_ne (Or.inl (hw _ (List.mem_of_getElem? (i := 28) rfl))) (Or.inl (hw _ (List.mem_of_getElem? (i := 39) rfl))) (by decide) (t := .long) (t' := .long) (by decide) (by decide)))) (Or.inr (slot_ne (Or.inl (hw _ (List.mem_of_getElem? (i := 28) rfl))) (Or.inl (hw _ (List.mem_of_getElem? (i := 24) rfl))) (by decide) (t := .long) (t' := .long) (by decide) (by decide))))
  have Fc28 : Fld Z h23 a0 "tidemark/log/RecordMarks$RunMarking" "batches" "I" (.int (1 : Int32)) := (Fld.other W23 (Fld.other W16 (Fld.other W12 Fw7 (Or.inr (slot_ne (Or.inl (hw _ (List.mem_of_getElem? (i := 35) rfl))) (Or.inl (hw _ (List.mem_of_getElem? (i := 28) rfl))) (by decide) (t := .int) (t' := .long) (by decide) (by decide)))) (Or.inr (slot_ne (Or.inl (hw _ (List.mem_of_getElem? (i := 35) rfl))) (Or.inl (hw _ (List.mem_of_getElem? (i := 39) rfl))) (by decide) (t := .int) (t' := .long) (by decide) (by decide)))) (Or.inr (slot_ne (Or.inl (hw _ (List.mem_of_getElem? (i := 35) rfl))) (Or.inl (hw _ (List.mem_of_getElem? (i := 24) rfl))) (by decide) (t := .int) (t' := .long) (by decide) (by decide))))
  have Fc29 : Fld Z h23 a0 "tidemark/log/RecordMarks$RunMarking" "baseOffset" "J" (.long q2) := (Fld.other W23 (Fld.other W16 (Fld.other W12 (Fld.other W7 Fw2 (Or.inr (slot_ne (Or.inl (hw _ (List.mem_of_getElem? (i := 37) rfl))) (Or.inl (hw _ (List.mem_of_getElem? (i := 35) rfl))) (by decide) (t := .long) (t' := .int) (by decide) (by decide)))) (Or.inr (slot_ne (Or.inl (hw _ (List.mem_of_getElem? (i := 37) rfl))) (Or.inl (hw _ (List.mem_of_getElem? (i := 28) rfl))) (by decide) (t := .long) (t' := .long) (by decide) (by decide)))) (Or.inr (slot_ne (Or.inl (hw _ (List.mem_of_getElem? (i := 37) rfl))) (Or.inl (hw _ (List.mem_of_getElem? (i := 39) rfl))) (by decide) (t := .long) (t' := .long) (by decide) (by decide)))) (Or.inr (slot_ne (Or.inl (hw _ (List.mem_of_getElem? (i := 37) rfl))) (Or.inl (hw _ (List.mem_of_getElem? (i := 24) rfl))) (by decide) (t := .long) (t' := .long) (by decide) (by decide))))
  have Fc30 : Fld Z h23 a0 "tidemark/log/RecordMarks$RunMarking" "nextOffset" "J" (.long q3) := (Fld.other W23 Fw16 (Or.inr (slot_ne (Or.inl (hw _ (List.mem_of_getElem? (i := 39) rfl))) (Or.inl (hw _ (List.mem_of_getElem? (i := 24) rfl))) (by decide) (t := .long) (t' := .long) (by decide) (by decide))))
  have Fc31 : Fld Z h23 a0 "tidemark/log/RecordMarks$RunMarking" "lastStart" "I" (.int us) := (Fld.other W23 (Fld.other W16 (Fld.other W12 (Fld.other W7 (Fld.other W2 pre9 (Or.inr (slot_ne (Or.inl (hw _ (List.mem_of_getElem? (i := 45) rfl))) (Or.inl (hw _ (List.mem_of_getElem? (i := 37) rfl))) (by decide) (t := .int) (t' := .long) (by decide) (by decide)))) (Or.inr (slot_ne (Or.inl (hw _ (List.mem_of_getElem? (i := 45) rfl))) (Or.inl (hw _ (List.mem_of_getElem? (i := 35) rfl))) (by decide) (t := .int) (t' := .int) (by decide) (by decide)))) (Or.inr (slot_ne (Or.inl (hw _ (List.mem_of_getElem? (i := 45) rfl))) (Or.inl (hw _ (List.mem_of_getElem? (i := 28) rfl))) (by decide) (t := .int) (t' := .long) (by decide) (by decide)))) (Or.inr (slot_ne (Or.inl (hw _ (List.mem_of_getElem? (i := 45) rfl))) (Or.inl (hw _ (List.mem_of_getElem? (i := 39) rfl))) (by decide) (t := .int) (t' := .long) (by decide) (by decide)))) (Or.inr (slot_ne (Or.inl (hw _ (List.mem_of_getElem? (i := 45) rfl))) (Or.inl (hw _ (List.mem_of_getElem? (i := 24) rfl))) (by decide) (t := .int) (t' := .long) (by decide) (by decide))))
  exact o_ret0 X23 hx Bd.returns (own_lv X23 hlk (by decide) (by decide)) (hb hby own_d4_106) ⟨rfl, N23, (by rw [e23]; exact Kp24), (by rw [e23]; exact Fc25), (by rw [e23]; exact Fw23), (by rw [e23]; exact Fc26), (by rw [e23]; exact Fc27), (by rw [e23]; exact Fc28), (by rw [e23]; exact Fc29), (by rw [e23]; exact Fc30), (by rw [e23]; exact Fc31)⟩
theorem own_d4_15 : decode prog_115_method_3_code 15 = .ok (.aload_n 0, 1) := by decide +kernel
theorem own_d4_16 : decode prog_115_method_3_code 16 = .ok (.getfield 31, 3) := by decide +kernel
theorem own_d4_19 : decode prog_115_method_3_code 19 = .ok (.aload_n 0, 1) := by decide +kernel
theorem own_d4_20 : decode prog_115_method_3_code 20 = .ok (.getfield 28, 3) := by decide +kernel
theorem own_d4_23 : decode prog_115_method_3_code 23 = .ok (.lsub, 1) := by decide +kernel
theorem own_d4_24 : decode prog_115_method_3_code 24 = .ok (.aload_n 0, 1) := by decide +kernel
theorem own_d4_25 : decode prog_115_method_3_code 25 = .ok (.getfield 41, 3) := by decide +kernel
theorem own_d4_28 : decode prog_115_method_3_code 28 = .ok (.i2l, 1) := by decide +kernel
theorem own_d4_29 : decode prog_115_method_3_code 29 = .ok (.lsub, 1) := by decide +kernel
theorem own_d4_30 : decode prog_115_method_3_code 30 = .ok (.ldc2_w 44, 3) := by decide +kernel
theorem own_d4_33 : decode prog_115_method_3_code 33 = .ok (.lcmp, 1) := by decide +kernel
theorem own_d4_34 : decode prog_115_method_3_code 34 = .ok (.ifCond .le 32, 3) := by decide +kernel
theorem own_efad1 (m : MethodId) (a0 : Addr) (p1 : Int32) (q2 : Int64) (q3 : Int64) (q4 : Int64) : entryFrame m #[(.ref a0), (.int p1), (.long q2), (.long q3), (.long q4)] 8 = mkF m 0 #[.val (.ref a0), .val (.int p1), .val (.long q2), .second, .val (.long q3), .second, .val (.long q4), .second] [] := by first | (simp [entryFrame, mkF, argsToLocals, Value.category]; done) | rfl
def own_Qad1 (Z : State) (a0 : Addr) (p1 : Int32) (q2 : Int64) (q3 : Int64) (q4 : Int64) (lm : Addr) (ul : Int64) (up : Int64) (ue : Int64) (ub : Int64) (un : Int64) (us : Int32) (h0 : Heap) (n0 : Nat) (v : Option Value) (h : Heap) (L : List Loc) : Prop := v = none ∧ Fr n0 L ∧ Keep h0 h [a0] ∧ Fld Z h a0 "tidemark/log/RecordMarks$RunMarking" "later" "Ltidemark/log/RecordMarks$LaterMarks;" (.ref lm) ∧ Fld Z h a0 "tidemark/log/RecordMarks$RunMarking" "largest" "J" (.long (own_f5 ul q4)) ∧ Fld Z h a0 "tidemark/log/RecordMarks$RunMarking" "position" "J" (.long up) ∧ Fld Z h a0 "tidemark/log/RecordMarks$RunMarking" "end" "J" (.long (ue + (p1.toInt64))) ∧ Fld Z h a0 "tidemark/log/RecordMarks$RunMarking" "batches" "I" (.int (2 : Int32)) ∧ Fld Z h a0 "tidemark/log/RecordMarks$RunMarking" "baseOffset" "J" (.long ub) ∧ Fld Z h a0 "tidemark/log/RecordMarks$RunMarking" "nextOffset" "J" (.long q3) ∧ Fld Z h a0 "tidemark/log/RecordMarks$RunMarking" "lastStart" "I" (.int us)
set_option maxRecDepth 65536 in
set_option maxHeartbeats 40000000 in
theorem own_rmad1 (l : Launch) (Z : State) (aA : Array Value) (hw : ∀ d ∈ tables_1, d.before aA Z = true) (ws : List Jvm.Cond) (a0 : Addr) (p1 : Int32) (q2 : Int64) (q3 : Int64) (q4 : Int64) (lm : Addr) (ul : Int64) (up : Int64) (ue : Int64) (ub : Int64) (un : Int64) (us : Int32) (h0 : Heap) (n0 : Nat) (Z0 : n0 ≤ h0.size) (pre0 : Exa Z h0 a0 "tidemark/log/RecordMarks$RunMarking") (pre1 : n0 ≤ a0) (pre2 : Fld Z h0 a0 "tidemark/log/RecordMarks$RunMarking" "later" "Ltidemark/log/RecordMarks$LaterMarks;" (.ref lm)) (pre3 : Fld Z h0 a0 "tidemark/log/RecordMarks$RunMarking" "largest" "J" (.long ul)) (pre4 : Fld Z h0 a0 "tidemark/log/RecordMarks$RunMarking" "position" "J" (.long up)) (pre5 : Fld Z h0 a0 "tidemark/log/RecordMarks$RunMarking" "end" "J" (.long ue)) (pre6 : Fld Z h0 a0 "tidemark/log/RecordMarks$RunMarking" "batches" "I" (.int (1 : Int32))) (pre7 : Fld Z h0 a0 "tidemark/log/RecordMarks$RunMarking" "baseOffset" "J" (.long ub)) (pre8 : Fld Z h0 a0 "tidemark/log/RecordMarks$RunMarking" "nextOffset" "J" (.long un)) (pre9 : Fld Z h0 a0 "tidemark/log/RecordMarks$RunMarking" "lastStart" "I" (.int us)) (hT : ¬ ((1024 : Int64) < ((ue - up) - us.toInt64))) :
    MetFree l (⟨"tidemark/log/RecordMarks$RunMarking", "add", "(IJJJ)V"⟩ : MethodName) (head1 (Jvm.Cond.code (⟨"tidemark/log/RecordMarks$RunMarking", "add", "(IJJJ)V"⟩ : MethodName) prog_115_method_3_code 8 none :: ws) ({ frames := 1, cells := 0, slots := 0, locals := 16 } : Room)) (fun a U => a = #[(.ref a0), (.int p1), (.long q2), (.long q3), (.long q4)] ∧ Z.Warmed39 U.vm ∧ U.heap = h0) (fun _ _ _ _ _ => True) (fun _ U o U' => ∃ v L, o = .returned v ∧ own_Qad1 Z a0 p1 q2 q3 q4 lm ul up ue ub un us h0 n0 v U'.heap L ∧ FrameEnd U o U' L ({ frames := 1, cells := 0, slots := 0, locals := 16 } : Room).cells ({ frames := 1, cells := 0, slots := 0, locals := 16 } : Room).slots) := by
  refine MetFree.of_bodySF (plainFor_of_name own_pn113) hisR ?_
  intro p e s m args below meth c s₁ Bd hml0 hP hK
  obtain ⟨rfl, hZ, hh⟩ := hP
  have hx := Bd.exec
  have hby := Bd.bytes
  have hlk : meth.locks = false := Bd.notSynchronized
  have hml : c.maxLocals = 8 := hml0
  have hown : s.vm.findClass "tidemark/log/RecordMarks$RunMarking" = some m.cls := findClass_of_methodNamed Bd.named
  have hnm := (name_of_methodNamed Bd.named Bd.method).1
  have X0 : Stand p l e ({ frames := 1, cells := 0, slots := 0, locals := 16 } : Room) s m #[(.ref a0), (.int p1), (.long q2), (.long q3), (.long q4)] below meth c s₁ [] 0 0 := Stand.of_body Bd
  have e0 : s₁.heap = h0 := by rw [← hh, Bd.state]; rfl
  have N0 := Fr.nil n0
  show OG p e below (FE s ({ frames := 1, cells := 0, slots := 0, locals := 16 } : Room).cells ({ frames := 1, cells := 0, slots := 0, locals := 16 } : Room).slots) (own_Qad1 Z a0 p1 q2 q3 q4 lm ul up ue ub un us h0 n0) (s₁.setTop (entryFrame m #[(.ref a0), (.int p1), (.long q2), (.long q3), (.long q4)] 8))
  refine og_of (fun _ k => castTop (own_efad1 m a0 p1 q2 q3 q4) k) ?_
  refine o_aloadN X0 hx rfl (hb hby own_d4_0) rfl rfl ?_
  obtain ⟨T1, X1, e1, st1⟩ := getF X0 hx hZ hown (host := "") (Or.inl (hw _ (List.mem_of_getElem? (i := 34) rfl))) Via.refl e0 pre6 (g := (mkF m 1 #[.val (.ref a0), .val (.int p1), .val (.long q2), .second, .val (.long q3), .second, .val (.long q4), .second] [(.ref a0)])) rfl rfl (hb hby own_d4_1)
  refine og_of st1 ?_
  show OG p e below _ _ (T1.setTop (mkF m 4 #[.val (.ref a0), .val (.int p1), .val (.long q2), .second, .val (.long q3), .second, .val (.long q4), .second] [(.int (1 : Int32))]))
  refine o_ifY (pc' := 15) X1 hx (hb hby own_d4_4) ((if0 _ _).trans (feq (by decide : ¬ ((1 : Int32) = (0 : Int32)))).2) (by decide) (by decide) ?_
  refine o_aloadN X1 hx rfl (hb hby own_d4_15) rfl rfl ?_
  obtain ⟨T2, X2, e2, st2⟩ := getF X1 hx hZ hown (host := "") (Or.inl (hw _ (List.mem_of_getElem? (i := 27) rfl))) Via.refl e1 pre5 (g := (mkF m 16 #[.val (.ref a0), .val (.int p1), .val (.long q2), .second, .val (.long q3), .second, .val (.long q4), .second] [(.ref a0)])) rfl rfl (hb hby own_d4_16)
  refine og_of st2 ?_
  show OG p e below _ _ (T2.setTop (mkF m 19 #[.val (.ref a0), .val (.int p1), .val (.long q2), .second, .val (.long q3), .second, .val (.long q4), .second] [(.long ue)]))
  refine o_aloadN X2 hx rfl (hb hby own_d4_19) rfl rfl ?_
  obtain ⟨T3, X3, e3, st3⟩ := getF X2 hx hZ hown (host := "") (Or.inl (hw _ (List.mem_of_getElem? (i := 25) rfl))) Via.refl e2 pre4 (g := (mkF m 20 #[.val (.ref a0), .val (.int p1), .val (.long q2), .second, .val (.long q3), .second, .val (.long q4), .second] [(.ref a0), (.long ue)])) rfl rfl (hb hby own_d4_20)
  refine og_of st3 ?_
  show OG p e below _ _ (T3.setTop (mkF m 23 #[.val (.ref a0), .val (.int p1), .val (.long q2), .second, .val (.long q3), .second, .val (.long q4), .second] [(.long up), (.long ue)]))
  refine o_lsub (z := (ue - up)) X3 hx rfl (hb hby own_d4_23) rfl ?_
  refine o_aloadN X3 hx rfl (hb hby own_d4_24) rfl rfl ?_
  obtain ⟨T4, X4, e4, st4⟩ := getF X3 hx hZ hown (host := "") (Or.inl (hw _ (List.mem_of_getElem? (i := 44) rfl))) Via.refl e3 pre9 (g := (mkF m 25 #[.val (.ref a0), .val (.int p1), .val (.long q2), .second, .val (.long q3), .second, .val (.long q4), .second] [(.ref a0), (.long (ue - up))])) rfl rfl (hb hby own_d4_25)
  refine og_of st4 ?_
  show OG p e below _ _ (T4.setTop (mkF m 28 #[.val (.ref a0), .val (.int p1), .val (.long q2), .second, .val (.long q3), .second, .val (.long q4), .second] [(.int us), (.long (ue - up))]))
  refine o_i2l (z := (us.toInt64)) X4 hx rfl (hb hby own_d4_28) rfl ?_
  refine o_lsub (z := ((ue - up) - (us.toInt64))) X4 hx rfl (hb hby own_d4_29) rfl ?_
  refine o_ldc2L X4 hx rfl (hb hby own_d4_30) hZ hown (hw _ (List.mem_of_getElem? (i := 46) rfl)) ?_
  refine o_lcmp X4 hx rfl (hb hby own_d4_33) ?_
  have hk5 : ¬ ((1024 : Int64) < ((ue - up) - (us.toInt64))) := hT
  refine o_ifY (pc' := 66) X4 hx (hb hby own_d4_34) (lcN_gt hk5).2 (by decide) (by decide) ?_
  refine o_aloadN X4 hx rfl (hb hby own_d4_66) rfl rfl ?_
  refine o_dup X4 hx rfl (hb hby own_d4_67) rfl ?_
  obtain ⟨T6, X6, e6, st6⟩ := getF X4 hx hZ hown (host := "") (Or.inl (hw _ (List.mem_of_getElem? (i := 34) rfl))) Via.refl e4 pre6 (g := (mkF m 68 #[.val (.ref a0), .val (.int p1), .val (.long q2), .second, .val (.long q3), .second, .val (.long q4), .second] [(.ref a0), (.ref a0)])) rfl rfl (hb hby own_d4_68)
  refine og_of st6 ?_
  show OG p e below _ _ (T6.setTop (mkF m 71 #[.val (.ref a0), .val (.int p1), .val (.long q2), .second, .val (.long q3), .second, .val (.long q4), .second] [(.int (1 : Int32)), (.ref a0)]))
  refine o_iconst (z := (1 : Int32)) X6 hx rfl (hb hby own_d4_71) (by decide) ?_
  refine o_iadd (z := (2 : Int32)) X6 hx rfl (hb hby own_d4_72) (by decide) ?_
  obtain ⟨T7, h7, X7, e7, W7, st7⟩ := putF X6 hx hZ hown (host := "") (Or.inl (hw _ (List.mem_of_getElem? (i := 34) rfl))) Via.refl e6 pre6 pre0 (Or.inl (hw _ (List.mem_of_getElem? (i := 35) rfl))) (hw _ (List.mem_of_getElem? (i := 2) rfl)) (ty := .int) (by decide) rfl rfl (g := (mkF m 73 #[.val (.ref a0), .val (.int p1), .val (.long q2), .second, .val (.long q3), .second, .val (.long q4), .second] [(.int (2 : Int32)), (.ref a0)])) rfl rfl (hb hby own_d4_73)
  have Fw7 := pre6.same W7
  have N7 := Fr.snoc X7 N0 pre1
  have Kp8 : Keep h0 h7 [a0] := (Keep.refl h0 [a0]).wr W7 (Or.inl (List.mem_of_getElem? (i := 0) rfl))
  refine og_of st7 ?_
  show OG p e below _ _ (T7.setTop (mkF m 76 #[.val (.ref a0), .val (.int p1), .val (.long q2), .second, .val (.long q3), .second, .val (.long q4), .second] []))
  refine o_aloadN X7 hx rfl (hb hby own_d4_76) rfl rfl ?_
  refine o_dup X7 hx rfl (hb hby own_d4_77) rfl ?_
  have Fc9 : Fld Z h7 a0 "tidemark/log/RecordMarks$RunMarking" "end" "J" (.long ue) := (Fld.other W7 pre5 (Or.inr (slot_ne (Or.inl (hw _ (List.mem_of_getElem? (i := 28) rfl))) (Or.inl (hw _ (List.mem_of_getElem? (i := 35) rfl))) (by decide) (t := .long) (t' := .int) (by decide) (by decide))))
  obtain ⟨T10, X10, e10, st10⟩ := getF X7 hx hZ hown (host := "") (Or.inl (hw _ (List.mem_of_getElem? (i := 27) rfl))) Via.refl e7 Fc9 (g := (mkF m 78 #[.val (.ref a0), .val (.int p1), .val (.long q2), .second, .val (.long q3), .second, .val (.long q4), .second] [(.ref a0), (.ref a0)])) rfl rfl (hb hby own_d4_78)
  refine og_of st10 ?_
  show OG p e below _ _ (T10.setTop (mkF m 81 #[.val (.ref a0), .val (.int p1), .val (.long q2), .second, .val (.long q3), .second, .val (.long q4), .second] [(.long ue), (.ref a0)]))
  refine o_iloadN X10 hx rfl (hb hby own_d4_81) rfl ?_
  refine o_i2l (z := (p1.toInt64)) X10 hx rfl (hb hby own_d4_82) rfl ?_
  refine o_ladd (z := (ue + (p1.toInt64))) X10 hx rfl (hb hby own_d4_83) rfl ?_
  have Fc11 : Exa Z h7 a0 "tidemark/log/RecordMarks$RunMarking" := (Exa.wr W7 pre0)
  obtain ⟨T12, h12, X12, e12, W12, st12⟩ := putF X10 hx hZ hown (host := "") (Or.inl (hw _ (List.mem_of_getElem? (i := 27) rfl))) Via.refl e10 Fc9 Fc11 (Or.inl (hw _ (List.mem_of_getElem? (i := 28) rfl))) (hw _ (List.mem_of_getElem? (i := 2) rfl)) (ty := .long) (by decide) rfl rfl (g := (mkF m 84 #[.val (.ref a0), .val (.int p1), .val (.long q2), .second, .val (.long q3), .second, .val (.long q4), .second] [(.long (ue + (p1.toInt64))), (.ref a0)])) rfl rfl (hb hby own_d4_84)
  have Fw12 := Fc9.same W12
  have N12 := Fr.snoc X12 N7 pre1
  have Kp13 : Keep h0 h12 [a0] := Kp8.wr W12 (Or.inl (List.mem_of_getElem? (i := 0) rfl))
  refine og_of st12 ?_
  show OG p e below _ _ (T12.setTop (mkF m 87 #[.val (.ref a0), .val (.int p1), .val (.long q2), .second, .val (.long q3), .second, .val (.long q4), .second] []))
  refine o_aloadN X12 hx rfl (hb hby own_d4_87) rfl rfl ?_
  refine o_lload X12 hx rfl (hb hby own_d4_88) rfl ?_
  have Fc14 : Exa Z h12 a0 "tidemark/log/RecordMarks$RunMarking" := (Exa.wr W12 Fc11)
  have Fc15 : Fld Z h12 a0 "tidemark/log/RecordMarks$RunMarking" "nextOffset" "J" (.long un) := (Fld.other W12 (Fld.other W7 pre8 (Or.inr (slot_ne (Or.inl (hw _ (List.mem_of_getElem? (i := 39) rfl))) (Or.inl (hw _ (List.mem_of_getElem? (i := 35) rfl))) (by decide) (t := .long) (t' := .int) (by decide) (by decide)))) (Or.inr (slot_ne (Or.inl (hw _ (List.mem_of_getElem? (i := 39) rfl))) (Or.inl (hw _ (List.mem_of_getElem? (i := 28) rfl))) (by decide) (t := .long) (t' := .long) (by decide) (by decide))))
  obtain ⟨T16, h16, X16, e16, W16, st16⟩ := putF X12 hx hZ hown (host := "") (Or.inl (hw _ (List.mem_of_getElem? (i := 38) rfl))) Via.refl e12 Fc15 Fc14 (Or.inl (hw _ (List.mem_of_getElem? (i := 39) rfl))) (hw _ (List.mem_of_getElem? (i := 2) rfl)) (ty := .long) (by decide) rfl rfl (g := (mkF m 90 #[.val (.ref a0), .val (.int p1), .val (.long q2), .second, .val (.long q3), .second, .val (.long q4), .second] [(.long q3), (.ref a0)])) rfl rfl (hb hby own_d4_90)
  have Fw16 := Fc15.same W16
  have N16 := Fr.snoc X16 N12 pre1
  have Kp17 : Keep h0 h16 [a0] := Kp13.wr W16 (Or.inl (List.mem_of_getElem? (i := 0) rfl))
  refine og_of st16 ?_
  show OG p e below _ _ (T16.setTop (mkF m 93 #[.val (.ref a0), .val (.int p1), .val (.long q2), .second, .val (.long q3), .second, .val (.long q4), .second] []))
  refine o_aloadN X16 hx rfl (hb hby own_d4_93) rfl rfl ?_
  refine o_aloadN X16 hx rfl (hb hby own_d4_94) rfl rfl ?_
  have Fc18 : Fld Z h16 a0 "tidemark/log/RecordMarks$RunMarking" "largest" "J" (.long ul) := (Fld.other W16 (Fld.other W12 (Fld.other W7 pre3 (Or.inr (slot_ne (Or.inl (hw _ (List.mem_of_getElem? (i := 24) rfl))) (Or.inl (hw _ (List.mem_of_getElem? (i := 35) rfl))) (by decide) (t := .long) (t' := .int) (by decide) (by decide)))) (Or.inr (slot_ne (Or.inl (hw _ (List.mem_of_getElem? (i := 24) rfl))) (Or.inl (hw _ (List.mem_of_getElem? (i := 28) rfl))) (by decide) (t := .long) (t' := .long) (by decide) (by decide)))) (Or.inr (slot_ne (Or.inl (hw _ (List.mem_of_getElem? (i := 24) rfl))) (Or.inl (hw _ (List.mem_of_getElem? (i := 39) rfl))) (by decide) (t := .long) (t' := .long) (by decide) (by decide))))
  obtain ⟨T19, X19, e19, st19⟩ := getF X16 hx hZ hown (host := "") (Or.inl (hw _ (List.mem_of_getElem? (i := 23) rfl))) Via.refl e16 Fc18 (g := (mkF m 95 #[.val (.ref a0), .val (.int p1), .val (.long q2), .second, .val (.long q3), .second, .val (.long q4), .second] [(.ref a0), (.ref a0)])) rfl rfl (hb hby own_d4_95)
  refine og_of st19 ?_
  show OG p e below _ _ (T19.setTop (mkF m 98 #[.val (.ref a0), .val (.int p1), .val (.long q2), .second, .val (.long q3), .second, .val (.long q4), .second] [(.long ul), (.ref a0)]))
  refine o_lload X19 hx rfl (hb hby own_d4_98) rfl ?_
  obtain ⟨_, _, ⟨T20, L20, k20, n20⟩, -, X20, ⟨Lc20, hQ20, l20, y20, z20⟩, st20⟩ := Jvm.LawKit.callS X19 hx (y := (⟨"java/lang/Math", "max", "(JJ)J"⟩ : MethodName)) hown (mvT hZ (hw _ (List.mem_of_getElem? (i := 40) rfl))) (mvT hZ (hw _ (List.mem_of_getElem? (i := 41) rfl))) (mvT hZ (hw _ (List.mem_of_getElem? (i := 42) rfl))) (mvT hZ (hw _ (List.mem_of_getElem? (i := 43) rfl))) (by decide) (backOf (W := 1) (own_rm5 l Z aA hw [] ul q4 h16 n0 (Nat.le_trans (Nat.le_trans (Nat.le_trans Z0 (Keep.of_wr W7).1) (Keep.of_wr W12).1) (Keep.of_wr W16).1)) hZ (hw _ (List.mem_of_getElem? (i := 43) rfl)) (hw _ (List.mem_of_getElem? (i := 42) rfl)) (by decide) (by decide)) (g := (mkF m 100 #[.val (.ref a0), .val (.int p1), .val (.long q2), .second, .val (.long q3), .second, .val (.long q4), .second] [(.long q4), (.long ul), (.ref a0)])) rfl (by rw [hml]; rfl) (argsL := [(.long ul), (.long q4)]) (rest := [(.ref a0)]) (lenOf own_pd3 rfl) rfl (by show 2 * 0 + _ ≤ _; exact Nat.le_of_eq rfl) (hb hby own_d4_100) (fun _ _ => ⟨rfl, e19, Nat.le_of_ble_eq_true rfl, Nat.le_of_ble_eq_true rfl⟩)
  dsimp only [Pt.U, Pt.locs, Pt.cells, Pt.slots] at X20 l20 y20 z20 st20 hQ20
  subst l20 y20 z20
  obtain ⟨rfl, N20q, ee20⟩ := hQ20
  have N21 := Fr.app N16 N20q
  refine og_of st20 ?_
  show OG p e below _ _ (T20.setTop (mkF m 103 #[.val (.ref a0), .val (.int p1), .val (.long q2), .second, .val (.long q3), .second, .val (.long q4), .second] [(.long (own_f5 ul q4)), (.ref a0)]))
  have Fc22 : Exa Z h16 a0 "tidemark/log/RecordMarks$RunMarking" := (Exa.wr W16 Fc14)
  obtain ⟨T23, h23, X23, e23, W23, st23⟩ := putF X20 hx hZ hown (host := "") (Or.inl (hw _ (List.mem_of_getElem? (i := 23) rfl))) Via.refl ee20 Fc18 Fc22 (Or.inl (hw _ (List.mem_of_getElem? (i := 24) rfl))) (hw _ (List.mem_of_getElem? (i := 2) rfl)) (ty := .long) (by decide) rfl rfl (g := (mkF m 103 #[.val (.ref a0), .val (.int p1), .val (.long q2), .second, .val (.long q3), .second, .val (.long q4), .second] [(.long (own_f5 ul q4)), (.ref a0)])) rfl rfl (hb hby own_d4_103)
  have Fw23 := Fc18.same W23
  have N23 := Fr.snoc X23 N21 pre1
  have Kp24 : Keep h0 h23 [a0] := Kp17.wr W23 (Or.inl (List.mem_of_getElem? (i := 0) rfl))
  refine og_of st23 ?_
  show OG p e below _ _ (T23.setTop (mkF m 106 #[.val (.ref a0), .val (.int p1), .val (.long q2), .second, .val (.long q3), .second, .val (.long q4), .second] []))
  have Fc25 : Fld Z h23 a0 "tidemark/log/RecordMarks$RunMarking" "later" "Ltidemark/log/RecordMarks$LaterMarks;" (.ref lm) := (Fld.other W23 (Fld.other W16 (Fld.other W12 (Fld.other W7 pre2 (Or.inr (slot_ne (Or.inr (hw _ (List.mem_of_getElem? (i := 21) rfl))) (Or.inl (hw _ (List.mem_of_getElem? (i := 35) rfl))) (by decide) (t := (.object "tidemark/log/RecordMarks$LaterMarks")) (t' := .int) (by decide) (by decide)))) (Or.inr (slot_ne (Or.inr (hw _ (List.mem_of_getElem? (i := 21) rfl))) (Or.inl (hw _ (List.mem_of_getElem? (i := 28) rfl))) (by decide) (t := (.object "tidemark/log/RecordMarks$LaterMarks")) (t' := .long) (by decide) (by decide)))) (Or.inr (slot_ne (Or.inr (hw _ (List.mem_of_getElem? (i := 21) rfl))) (Or.inl (hw _ (List.mem_of_getElem? (i := 39) rfl))) (by decide) (t := (.object "tidemark/log/RecordMarks$LaterMarks")) (t' := .long) (by decide) (by decide)))) (Or.inr (slot_ne (Or.inr (hw _ (List.mem_of_getElem? (i := 21) rfl))) (Or.inl (hw _ (List.mem_of_getElem? (i := 24) rfl))) (by decide) (t := (.object "tidemark/log/RecordMarks$LaterMarks")) (t' := .long) (by decide) (by decide))))
  have Fc26 : Fld Z h23 a0 "tidemark/log/RecordMarks$RunMarking" "position" "J" (.long up) := (Fld.other W23 (Fld.other W16 (Fld.other W12 (Fld.other W7 pre4 (Or.inr (slot_ne (Or.inr (hw _ (List.mem_of_getElem? (i := 26) rfl))) (Or.inl (hw _ (List.mem_of_getElem? (i := 35) rfl))) (by decide) (t := .long) (t' := .int) (by decide) (by decide)))) (Or.inr (slot_ne (Or.inr (hw _ (List.mem_of_getElem? (i := 26) rfl))) (Or.inl (hw _ (List.mem_of_getElem? (i := 28) rfl))) (by decide) (t := .long) (t' := .long) (by decide) (by decide)))) (Or.inr (slot_ne (Or.inr (hw _ (List.mem_of_getElem? (i := 26) rfl))) (Or.inl (hw _ (List.mem_of_getElem? (i := 39) rfl))) (by decide) (t := .long) (t' := .long) (by decide) (by decide)))) (Or.inr (slot_ne (Or.inr (hw _ (List.mem_of_getElem? (i := 26) rfl))) (Or.inl (hw _ (List.mem_of_getElem? (i := 24) rfl))) (by decide) (t := .long) (t' := .long) (by decide) (by decide))))
  have Fc27 : Fld Z h23 a0 "tidemark/log/RecordMarks$RunMarking" "end" "J" (.long (ue + (p1.toInt64))) := (Fld.other W23 (Fld.other W16 Fw12 (Or.inr (slot_ne (Or.inl (hw _ (List.mem_of_getElem? (i := 28) rfl))) (Or.inl (hw _ (List.mem_of_getElem? (i := 39) rfl))) (by decide) (t := .long) (t' := .long) (by decide) (by decide)))) (Or.inr (slot_ne (Or.inl (hw _ (List.mem_of_getElem? (i := 28) rfl))) (Or.inl (hw _ (List.mem_of_getElem? (i := 24) rfl))) (by decide) (t := .long) (t' := .long) (by decide) (by decide))))
  have Fc28 : Fld Z h23 a0 "tidemark/log/RecordMarks$RunMarking" "batches" "I" (.int (2 : Int32)) := (Fld.other W23 (Fld.other W16 (Fld.other W12 Fw7 (Or.inr (slot_ne (Or.inl (hw _ (List.mem_of_getElem? (i := 35) rfl))) (Or.inl (hw _ (List.mem_of_getElem? (i := 28) rfl))) (by decide) (t := .int) (t' := .long) (by decide) (by decide)))) (Or.inr (slot_ne (Or.inl (hw _ (List.mem_of_getElem? (i := 35) rfl))) (Or.inl (hw _ (List.mem_of_getElem? (i := 39) rfl))) (by decide) (t := .int) (t' := .long) (by decide) (by decide)))) (Or.inr (slot_ne (Or.inl (hw _ (List.mem_of_getElem? (i := 35) rfl))) (Or.inl (hw _ (List.mem_of_getElem? (i := 24) rfl))) (by decide) (t := .int) (t' := .long) (by decide) (by decide))))
  have Fc29 : Fld Z h23 a0 "tidemark/log/RecordMarks$RunMarking" "baseOffset" "J" (.long ub) := (Fld.other W23 (Fld.other W16 (Fld.other W12 (Fld.other W7 pre7 (Or.inr (slot_ne (Or.inl (hw _ (List.mem_of_getElem? (i := 37) rfl))) (Or.inl (hw _ (List.mem_of_getElem? (i := 35) rfl))) (by decide) (t := .long) (t' := .int) (by decide) (by decide)))) (Or.inr (slot_ne (Or.inl (hw _ (List.mem_of_getElem? (i := 37) rfl))) (Or.inl (hw _ (List.mem_of_getElem? (i := 28) rfl))) (by decide) (t := .long) (t' := .long) (by decide) (by decide)))) (Or.inr (slot_ne (Or.inl (hw _ (List.mem_of_getElem? (i := 37) rfl))) (Or.inl (hw _ (List.mem_of_getElem? (i := 39) rfl))) (by decide) (t := .long) (t' := .long) (by decide) (by decide)))) (Or.inr (slot_ne (Or.inl (hw _ (List.mem_of_getElem? (i := 37) rfl))) (Or.inl (hw _ (List.mem_of_getElem? (i := 24) rfl))) (by decide) (t := .long) (t' := .long) (by decide) (by decide))))
  have Fc30 : Fld Z h23 a0 "tidemark/log/RecordMarks$RunMarking" "nextOffset" "J" (.long q3) := (Fld.other W23 Fw16 (Or.inr (slot_ne (Or.inl (hw _ (List.mem_of_getElem? (i := 39) rfl))) (Or.inl (hw _ (List.mem_of_getElem? (i := 24) rfl))) (by decide) (t := .long) (t' := .long) (by decide) (by decide))))
  have Fc31 : Fld Z h23 a0 "tidemark/log/RecordMarks$RunMarking" "lastStart" "I" (.int us) := (Fld.other W23 (Fld.other W16 (Fld.other W12 (Fld.other W7 pre9 (Or.inr (slot_ne (Or.inl (hw _ (List.mem_of_getElem? (i := 45) rfl))) (Or.inl (hw _ (List.mem_of_getElem? (i := 35) rfl))) (by decide) (t := .int) (t' := .int) (by decide) (by decide)))) (Or.inr (slot_ne (Or.inl (hw _ (List.mem_of_getElem? (i := 45) rfl))) (Or.inl (hw _ (List.mem_of_getElem? (i := 28) rfl))) (by decide) (t := .int) (t' := .long) (by decide) (by decide)))) (Or.inr (slot_ne (Or.inl (hw _ (List.mem_of_getElem? (i := 45) rfl))) (Or.inl (hw _ (List.mem_of_getElem? (i := 39) rfl))) (by decide) (t := .int) (t' := .long) (by decide) (by decide)))) (Or.inr (slot_ne (Or.inl (hw _ (List.mem_of_getElem? (i := 45) rfl))) (Or.inl (hw _ (List.mem_of_getElem? (i := 24) rfl))) (by decide) (t := .int) (t' := .long) (by decide) (by decide))))
  exact o_ret0 X23 hx Bd.returns (own_lv X23 hlk (by decide) (by decide)) (hb hby own_d4_106) ⟨rfl, N23, (by rw [e23]; exact Kp24), (by rw [e23]; exact Fc25), (by rw [e23]; exact Fw23), (by rw [e23]; exact Fc26), (by rw [e23]; exact Fc27), (by rw [e23]; exact Fc28), (by rw [e23]; exact Fc29), (by rw [e23]; exact Fc30), (by rw [e23]; exact Fc31)⟩
theorem own_pd4 : parseMethodDescriptor "(IJ)V" = some ⟨[.int, .long], none⟩ := by decide +kernel
theorem own_d4_37 : decode prog_115_method_3_code 37 = .ok (.aload_n 0, 1) := by decide +kernel
theorem own_d4_38 : decode prog_115_method_3_code 38 = .ok (.aload_n 0, 1) := by decide +kernel
theorem own_d4_39 : decode prog_115_method_3_code 39 = .ok (.getfield 31, 3) := by decide +kernel
theorem own_d4_42 : decode prog_115_method_3_code 42 = .ok (.aload_n 0, 1) := by decide +kernel
theorem own_d4_43 : decode prog_115_method_3_code 43 = .ok (.getfield 28, 3) := by decide +kernel
theorem own_d4_46 : decode prog_115_method_3_code 46 = .ok (.lsub, 1) := by decide +kernel
theorem own_d4_47 : decode prog_115_method_3_code 47 = .ok (.l2i, 1) := by decide +kernel
theorem own_d4_48 : decode prog_115_method_3_code 48 = .ok (.putfield 41, 3) := by decide +kernel
theorem own_d4_51 : decode prog_115_method_3_code 51 = .ok (.aload_n 0, 1) := by decide +kernel
theorem own_d4_52 : decode prog_115_method_3_code 52 = .ok (.getfield 14, 3) := by decide +kernel
theorem own_d4_55 : decode prog_115_method_3_code 55 = .ok (.aload_n 0, 1) := by decide +kernel
theorem own_d4_56 : decode prog_115_method_3_code 56 = .ok (.getfield 41, 3) := by decide +kernel
theorem own_d4_59 : decode prog_115_method_3_code 59 = .ok (.aload_n 0, 1) := by decide +kernel
theorem own_d4_60 : decode prog_115_method_3_code 60 = .ok (.getfield 24, 3) := by decide +kernel
theorem own_d4_63 : decode prog_115_method_3_code 63 = .ok (.invokevirtual 46, 3) := by decide +kernel
theorem own_efad1t0 (m : MethodId) (a0 : Addr) (p1 : Int32) (q2 : Int64) (q3 : Int64) (q4 : Int64) : entryFrame m #[(.ref a0), (.int p1), (.long q2), (.long q3), (.long q4)] 8 = mkF m 0 #[.val (.ref a0), .val (.int p1), .val (.long q2), .second, .val (.long q3), .second, .val (.long q4), .second] [] := by first | (simp [entryFrame, mkF, argsToLocals, Value.category]; done) | rfl
def own_Qad1t0 (Z : State) (a0 : Addr) (p1 : Int32) (q2 : Int64) (q3 : Int64) (q4 : Int64) (lm : Addr) (ul : Int64) (up : Int64) (ue : Int64) (ub : Int64) (un : Int64) (us : Int32) (ma : Addr) (k_ma : ClassId) (m0 : Int32) (m1 : Int32) (m2 : Int32) (m3 : Int32) (m4 : Int32) (m5 : Int32) (m6 : Int32) (m7 : Int32) (h0 : Heap) (n0 : Nat) (v : Option Value) (h : Heap) (L : List Loc) : Prop := v = none ∧ Fr n0 L ∧ Keep h0 h [a0, lm, ma] ∧ Fld Z h a0 "tidemark/log/RecordMarks$RunMarking" "later" "Ltidemark/log/RecordMarks$LaterMarks;" (.ref lm) ∧ Fld Z h a0 "tidemark/log/RecordMarks$RunMarking" "largest" "J" (.long (own_f5 ul q4)) ∧ Fld Z h a0 "tidemark/log/RecordMarks$RunMarking" "position" "J" (.long up) ∧ Fld Z h a0 "tidemark/log/RecordMarks$RunMarking" "end" "J" (.long (ue + (p1.toInt64))) ∧ Fld Z h a0 "tidemark/log/RecordMarks$RunMarking" "batches" "I" (.int (2 : Int32)) ∧ Fld Z h a0 "tidemark/log/RecordMarks$RunMarking" "baseOffset" "J" (.long ub) ∧ Fld Z h a0 "tidemark/log/RecordMarks$RunMarking" "nextOffset" "J" (.long q3) ∧ Fld Z h a0 "tidemark/log/RecordMarks$RunMarking" "lastStart" "I" (.int ((ue - up).toInt32)) ∧ Fld Z h lm "tidemark/log/RecordMarks$LaterMarks" "marks" "[I" (.ref ma) ∧ Fld Z h lm "tidemark/log/RecordMarks$LaterMarks" "count" "I" (.int (1 : Int32)) ∧ Arv Z h ma k_ma .int (12 : Int32) [(.int ((ue - up).toInt32)), (.int (((ul.toUInt64 >>> ((32 : Int32) &&& 0x3f).toInt64.toUInt64).toInt64).toInt32)), (.int (ul.toInt32)), (.int m3), (.int m4), (.int m5), (.int m6), (.int m7)] (.int (0 : Int32))
set_option maxRecDepth 65536 in
set_option maxHeartbeats 40000000 in
theorem own_rmad1t0 (l : Launch) (Z : State) (aA : Array Value) (hw : ∀ d ∈ tables_1, d.before aA Z = true) (ws : List Jvm.Cond) (a0 : Addr) (p1 : Int32) (q2 : Int64) (q3 : Int64) (q4 : Int64) (lm : Addr) (ul : Int64) (up : Int64) (ue : Int64) (ub : Int64) (un : Int64) (us : Int32) (ma : Addr) (k_ma : ClassId) (m0 : Int32) (m1 : Int32) (m2 : Int32) (m3 : Int32) (m4 : Int32) (m5 : Int32) (m6 : Int32) (m7 : Int32) (h0 : Heap) (n0 : Nat) (Z0 : n0 ≤ h0.size) (pre0 : Exa Z h0 a0 "tidemark/log/RecordMarks$RunMarking") (pre1 : n0 ≤ a0) (pre2 : Fld Z h0 a0 "tidemark/log/RecordMarks$RunMarking" "later" "Ltidemark/log/RecordMarks$LaterMarks;" (.ref lm)) (pre3 : Fld Z h0 a0 "tidemark/log/RecordMarks$RunMarking" "largest" "J" (.long ul)) (pre4 : Fld Z h0 a0 "tidemark/log/RecordMarks$RunMarking" "position" "J" (.long up)) (pre5 : Fld Z h0 a0 "tidemark/log/RecordMarks$RunMarking" "end" "J" (.long ue)) (pre6 : Fld Z h0 a0 "tidemark/log/RecordMarks$RunMarking" "batches" "I" (.int (1 : Int32))) (pre7 : Fld Z h0 a0 "tidemark/log/RecordMarks$RunMarking" "baseOffset" "J" (.long ub)) (pre8 : Fld Z h0 a0 "tidemark/log/RecordMarks$RunMarking" "nextOffset" "J" (.long un)) (pre9 : Fld Z h0 a0 "tidemark/log/RecordMarks$RunMarking" "lastStart" "I" (.int us)) (pre10 : Exa Z h0 lm "tidemark/log/RecordMarks$LaterMarks") (pre11 : Fld Z h0 lm "tidemark/log/RecordMarks$LaterMarks" "marks" "[I" (.ref ma)) (pre12 : Fld Z h0 lm "tidemark/log/RecordMarks$LaterMarks" "count" "I" (.int (0 : Int32))) (pre13 : Arv Z h0 ma k_ma .int (12 : Int32) [(.int m0), (.int m1), (.int m2), (.int m3), (.int m4), (.int m5), (.int m6), (.int m7)] (.int (0 : Int32))) (pre14 : n0 ≤ lm) (pre15 : n0 ≤ ma) (pre16 : a0 ≠ lm) (pre17 : a0 ≠ ma) (pre18 : lm ≠ ma) (hT : (1024 : Int64) < ((ue - up) - us.toInt64)) :
    MetFree l (⟨"tidemark/log/RecordMarks$RunMarking", "add", "(IJJJ)V"⟩ : MethodName) (head1 (Jvm.Cond.code (⟨"tidemark/log/RecordMarks$RunMarking", "add", "(IJJJ)V"⟩ : MethodName) prog_115_method_3_code 8 none :: ws) ({ frames := 1, cells := 0, slots := 0, locals := 16 } : Room)) (fun a U => a = #[(.ref a0), (.int p1), (.long q2), (.long q3), (.long q4)] ∧ Z.Warmed39 U.vm ∧ U.heap = h0) (fun _ _ _ _ _ => True) (fun _ U o U' => ∃ v L, o = .returned v ∧ own_Qad1t0 Z a0 p1 q2 q3 q4 lm ul up ue ub un us ma k_ma m0 m1 m2 m3 m4 m5 m6 m7 h0 n0 v U'.heap L ∧ FrameEnd U o U' L ({ frames := 1, cells := 0, slots := 0, locals := 16 } : Room).cells ({ frames := 1, cells := 0, slots := 0, locals := 16 } : Room).slots) := by
  refine MetFree.of_bodySF (plainFor_of_name own_pn113) hisR ?_
  intro p e s m args below meth c s₁ Bd hml0 hP hK
  obtain ⟨rfl, hZ, hh⟩ := hP
  have hx := Bd.exec
  have hby := Bd.bytes
  have hlk : meth.locks = false := Bd.notSynchronized
  have hml : c.maxLocals = 8 := hml0
  have hown : s.vm.findClass "tidemark/log/RecordMarks$RunMarking" = some m.cls := findClass_of_methodNamed Bd.named
  have hnm := (name_of_methodNamed Bd.named Bd.method).1
  have X0 : Stand p l e ({ frames := 1, cells := 0, slots := 0, locals := 16 } : Room) s m #[(.ref a0), (.int p1), (.long q2), (.long q3), (.long q4)] below meth c s₁ [] 0 0 := Stand.of_body Bd
  have e0 : s₁.heap = h0 := by rw [← hh, Bd.state]; rfl
  have N0 := Fr.nil n0
  show OG p e below (FE s ({ frames := 1, cells := 0, slots := 0, locals := 16 } : Room).cells ({ frames := 1, cells := 0, slots := 0, locals := 16 } : Room).slots) (own_Qad1t0 Z a0 p1 q2 q3 q4 lm ul up ue ub un us ma k_ma m0 m1 m2 m3 m4 m5 m6 m7 h0 n0) (s₁.setTop (entryFrame m #[(.ref a0), (.int p1), (.long q2), (.long q3), (.long q4)] 8))
  refine og_of (fun _ k => castTop (own_efad1t0 m a0 p1 q2 q3 q4) k) ?_
  refine o_aloadN X0 hx rfl (hb hby own_d4_0) rfl rfl ?_
  obtain ⟨T1, X1, e1, st1⟩ := getF X0 hx hZ hown (host := "") (Or.inl (hw _ (List.mem_of_getElem? (i := 34) rfl))) Via.refl e0 pre6 (g := (mkF m 1 #[.val (.ref a0), .val (.int p1), .val (.long q2), .second, .val (.long q3), .second, .val (.long q4), .second] [(.ref a0)])) rfl rfl (hb hby own_d4_1)
  refine og_of st1 ?_
  show OG p e below _ _ (T1.setTop (mkF m 4 #[.val (.ref a0), .val (.int p1), .val (.long q2), .second, .val (.long q3), .second, .val (.long q4), .second] [(.int (1 : Int32))]))
  refine o_ifY (pc' := 15) X1 hx (hb hby own_d4_4) ((if0 _ _).trans (feq (by decide : ¬ ((1 : Int32) = (0 : Int32)))).2) (by decide) (by decide) ?_
  refine o_aloadN X1 hx rfl (hb hby own_d4_15) rfl rfl ?_
  obtain ⟨T2, X2, e2, st2⟩ := getF X1 hx hZ hown (host := "") (Or.inl (hw _ (List.mem_of_getElem? (i := 27) rfl))) Via.refl e1 pre5 (g := (mkF m 16 #[.val (.ref a0), .val (.int p1), .val (.long q2), .second, .val (.long q3), .second, .val (.long q4), .second] [(.ref a0)])) rfl rfl (hb hby own_d4_16)
  refine og_of st2 ?_
  show OG p e below _ _ (T2.setTop (mkF m 19 #[.val (.ref a0), .val (.int p1), .val (.long q2), .second, .val (.long q3), .second, .val (.long q4), .second] [(.long ue)]))
  refine o_aloadN X2 hx rfl (hb hby own_d4_19) rfl rfl ?_
  obtain ⟨T3, X3, e3, st3⟩ := getF X2 hx hZ hown (host := "") (Or.inl (hw _ (List.mem_of_getElem? (i := 25) rfl))) Via.refl e2 pre4 (g := (mkF m 20 #[.val (.ref a0), .val (.int p1), .val (.long q2), .second, .val (.long q3), .second, .val (.long q4), .second] [(.ref a0), (.long ue)])) rfl rfl (hb hby own_d4_20)
  refine og_of st3 ?_
  show OG p e below _ _ (T3.setTop (mkF m 23 #[.val (.ref a0), .val (.int p1), .val (.long q2), .second, .val (.long q3), .second, .val (.long q4), .second] [(.long up), (.long ue)]))
  refine o_lsub (z := (ue - up)) X3 hx rfl (hb hby own_d4_23) rfl ?_
  refine o_aloadN X3 hx rfl (hb hby own_d4_24) rfl rfl ?_
  obtain ⟨T4, X4, e4, st4⟩ := getF X3 hx hZ hown (host := "") (Or.inl (hw _ (List.mem_of_getElem? (i := 44) rfl))) Via.refl e3 pre9 (g := (mkF m 25 #[.val (.ref a0), .val (.int p1), .val (.long q2), .second, .val (.long q3), .second, .val (.long q4), .second] [(.ref a0), (.long (ue - up))])) rfl rfl (hb hby own_d4_25)
  refine og_of st4 ?_
  show OG p e below _ _ (T4.setTop (mkF m 28 #[.val (.ref a0), .val (.int p1), .val (.long q2), .second, .val (.long q3), .second, .val (.long q4), .second] [(.int us), (.long (ue - up))]))
  refine o_i2l (z := (us.toInt64)) X4 hx rfl (hb hby own_d4_28) rfl ?_
  refine o_lsub (z := ((ue - up) - (us.toInt64))) X4 hx rfl (hb hby own_d4_29) rfl ?_
  refine o_ldc2L X4 hx rfl (hb hby own_d4_30) hZ hown (hw _ (List.mem_of_getElem? (i := 46) rfl)) ?_
  refine o_lcmp X4 hx rfl (hb hby own_d4_33) ?_
  have hk5 : (1024 : Int64) < ((ue - up) - (us.toInt64)) := hT
  refine o_ifN (pc' := 37) X4 hx rfl (hb hby own_d4_34) (lcY_gt hk5).2 ?_
  refine o_aloadN X4 hx rfl (hb hby own_d4_37) rfl rfl ?_
  refine o_aloadN X4 hx rfl (hb hby own_d4_38) rfl rfl ?_
  obtain ⟨T6, X6, e6, st6⟩ := getF X4 hx hZ hown (host := "") (Or.inl (hw _ (List.mem_of_getElem? (i := 27) rfl))) Via.refl e4 pre5 (g := (mkF m 39 #[.val (.ref a0), .val (.int p1), .val (.long q2), .second, .val (.long q3), .second, .val (.long q4), .second] [(.ref a0), (.ref a0)])) rfl rfl (hb hby own_d4_39)
  refine og_of st6 ?_
  show OG p e below _ _ (T6.setTop (mkF m 42 #[.val (.ref a0), .val (.int p1), .val (.long q2), .second, .val (.long q3), .second, .val (.long q4), .second] [(.long ue), (.ref a0)]))
  refine o_aloadN X6 hx rfl (hb hby own_d4_42) rfl rfl ?_
  obtain ⟨T7, X7, e7, st7⟩ := getF X6 hx hZ hown (host := "") (Or.inl (hw _ (List.mem_of_getElem? (i := 25) rfl))) Via.refl e6 pre4 (g := (mkF m 43 #[.val (.ref a0), .val (.int p1), .val (.long q2), .second, .val (.long q3), .second, .val (.long q4), .second] [(.ref a0), (.long ue), (.ref a0)])) rfl rfl (hb hby own_d4_43)
  refine og_of st7 ?_
  show OG p e below _ _ (T7.setTop (mkF m 46 #[.val (.ref a0), .val (.int p1), .val (.long q2), .second, .val (.long q3), .second, .val (.long q4), .second] [(.long up), (.long ue), (.ref a0)]))
  refine o_lsub (z := (ue - up)) X7 hx rfl (hb hby own_d4_46) rfl ?_
  refine o_l2i (z := ((ue - up).toInt32)) X7 hx rfl (hb hby own_d4_47) rfl ?_
  obtain ⟨T8, h8, X8, e8, W8, st8⟩ := putF X7 hx hZ hown (host := "") (Or.inl (hw _ (List.mem_of_getElem? (i := 44) rfl))) Via.refl e7 pre9 pre0 (Or.inl (hw _ (List.mem_of_getElem? (i := 45) rfl))) (hw _ (List.mem_of_getElem? (i := 2) rfl)) (ty := .int) (by decide) rfl rfl (g := (mkF m 48 #[.val (.ref a0), .val (.int p1), .val (.long q2), .second, .val (.long q3), .second, .val (.long q4), .second] [(.int ((ue - up).toInt32)), (.ref a0)])) rfl rfl (hb hby own_d4_48)
  have Fw8 := pre9.same W8
  have N8 := Fr.snoc X8 N0 pre1
  have Kp9 : Keep h0 h8 [a0, lm, ma] := (Keep.refl h0 [a0, lm, ma]).wr W8 (Or.inl (List.mem_of_getElem? (i := 0) rfl))
  refine og_of st8 ?_
  show OG p e below _ _ (T8.setTop (mkF m 51 #[.val (.ref a0), .val (.int p1), .val (.long q2), .second, .val (.long q3), .second, .val (.long q4), .second] []))
  refine o_aloadN X8 hx rfl (hb hby own_d4_51) rfl rfl ?_
  have Fc10 : Fld Z h8 a0 "tidemark/log/RecordMarks$RunMarking" "later" "Ltidemark/log/RecordMarks$LaterMarks;" (.ref lm) := (Fld.other W8 pre2 (Or.inr (slot_ne (Or.inr (hw _ (List.mem_of_getElem? (i := 21) rfl))) (Or.inl (hw _ (List.mem_of_getElem? (i := 45) rfl))) (by decide) (t := (.object "tidemark/log/RecordMarks$LaterMarks")) (t' := .int) (by decide) (by decide))))
  obtain ⟨T11, X11, e11, st11⟩ := getF X8 hx hZ hown (host := "") (Or.inl (hw _ (List.mem_of_getElem? (i := 20) rfl))) Via.refl e8 Fc10 (g := (mkF m 52 #[.val (.ref a0), .val (.int p1), .val (.long q2), .second, .val (.long q3), .second, .val (.long q4), .second] [(.ref a0)])) rfl rfl (hb hby own_d4_52)
  refine og_of st11 ?_
  show OG p e below _ _ (T11.setTop (mkF m 55 #[.val (.ref a0), .val (.int p1), .val (.long q2), .second, .val (.long q3), .second, .val (.long q4), .second] [(.ref lm)]))
  refine o_aloadN X11 hx rfl (hb hby own_d4_55) rfl rfl ?_
  obtain ⟨T12, X12, e12, st12⟩ := getF X11 hx hZ hown (host := "") (Or.inl (hw _ (List.mem_of_getElem? (i := 44) rfl))) Via.refl e11 Fw8 (g := (mkF m 56 #[.val (.ref a0), .val (.int p1), .val (.long q2), .second, .val (.long q3), .second, .val (.long q4), .second] [(.ref a0), (.ref lm)])) rfl rfl (hb hby own_d4_56)
  refine og_of st12 ?_
  show OG p e below _ _ (T12.setTop (mkF m 59 #[.val (.ref a0), .val (.int p1), .val (.long q2), .second, .val (.long q3), .second, .val (.long q4), .second] [(.int ((ue - up).toInt32)), (.ref lm)]))
  refine o_aloadN X12 hx rfl (hb hby own_d4_59) rfl rfl ?_
  have Fc13 : Fld Z h8 a0 "tidemark/log/RecordMarks$RunMarking" "largest" "J" (.long ul) := (Fld.other W8 pre3 (Or.inr (slot_ne (Or.inl (hw _ (List.mem_of_getElem? (i := 24) rfl))) (Or.inl (hw _ (List.mem_of_getElem? (i := 45) rfl))) (by decide) (t := .long) (t' := .int) (by decide) (by decide))))
  obtain ⟨T14, X14, e14, st14⟩ := getF X12 hx hZ hown (host := "") (Or.inl (hw _ (List.mem_of_getElem? (i := 23) rfl))) Via.refl e12 Fc13 (g := (mkF m 60 #[.val (.ref a0), .val (.int p1), .val (.long q2), .second, .val (.long q3), .second, .val (.long q4), .second] [(.ref a0), (.int ((ue - up).toInt32)), (.ref lm)])) rfl rfl (hb hby own_d4_60)
  refine og_of st14 ?_
  show OG p e below _ _ (T14.setTop (mkF m 63 #[.val (.ref a0), .val (.int p1), .val (.long q2), .second, .val (.long q3), .second, .val (.long q4), .second] [(.long ul), (.int ((ue - up).toInt32)), (.ref lm)]))
  have Fc16 : Exa Z h8 lm "tidemark/log/RecordMarks$LaterMarks" := (Exa.wr W8 pre10)
  have Fc17 : Fld Z h8 lm "tidemark/log/RecordMarks$LaterMarks" "count" "I" (.int (0 : Int32)) := (Fld.other W8 pre12 (Or.inl (Ne.symm pre16)))
  have Fc18 : Fld Z h8 lm "tidemark/log/RecordMarks$LaterMarks" "marks" "[I" (.ref ma) := (Fld.other W8 pre11 (Or.inl (Ne.symm pre16)))
  have Fc19 : Arv Z h8 ma k_ma .int (12 : Int32) [(.int m0), (.int m1), (.int m2), (.int m3), (.int m4), (.int m5), (.int m6), (.int m7)] (.int (0 : Int32)) := (pre13.other W8 (Ne.symm pre17))
  obtain ⟨cq15, kq15, q15a, q15b, q15c⟩ := isOf hZ e14 Fc16
  obtain ⟨_, _, ⟨T15, L15, k15, n15⟩, -, X15, ⟨Lc15, hQ15, l15, y15, z15⟩, st15⟩ := X14.virtualBack hx (y := (⟨"tidemark/log/RecordMarks$LaterMarks", "add", "(IJ)V"⟩ : MethodName)) (z := (⟨"tidemark/log/RecordMarks$LaterMarks", "add", "(IJ)V"⟩ : MethodName)) hown (mvT hZ (hw _ (List.mem_of_getElem? (i := 112) rfl))) (mvT hZ (hw _ (List.mem_of_getElem? (i := 113) rfl))) (notFace_of_selects (args := #[]) (mvT hZ (hw _ (List.mem_of_getElem? (i := 115) rfl)))) (mvT hZ (hw _ (List.mem_of_getElem? (i := 115) rfl))) (mvT hZ (hw _ (List.mem_of_getElem? (i := 114) rfl))) (by decide) (backOf (W := 0) (own_rmla0 l Z aA hw [] lm ((ue - up).toInt32) ul ma k_ma m0 m1 m2 m3 m4 m5 m6 m7 h8 n0 (Nat.le_trans Z0 (Keep.of_wr W8).1) Fc16 pre14 Fc17 Fc18 Fc19 pre15 pre18) hZ (hw _ (List.mem_of_getElem? (i := 116) rfl)) (hw _ (List.mem_of_getElem? (i := 12) rfl)) (by decide) (by decide)) q15a q15c (g := (mkF m 63 #[.val (.ref a0), .val (.int p1), .val (.long q2), .second, .val (.long q3), .second, .val (.long q4), .second] [(.long ul), (.int ((ue - up).toInt32)), (.ref lm)])) rfl (by rw [hml]; rfl) (Steps.refl _) (argsL := [(.int ((ue - up).toInt32)), (.long ul)]) (rest := []) (lenOf own_pd4 rfl) rfl (by show 2 * 0 + _ ≤ _; exact Nat.le_of_eq rfl) (hb hby own_d4_63) (fun _ _ => ⟨rfl, e14, Nat.le_of_ble_eq_true rfl, Nat.le_of_ble_eq_true rfl⟩)
  dsimp only [Pt.U, Pt.locs, Pt.cells, Pt.slots] at X15 l15 y15 z15 st15 hQ15
  subst l15 y15 z15
  obtain ⟨rfl, N15q, K15, f15_0, f15_1, f15_2⟩ := hQ15
  have N20 := Fr.app N8 N15q
  have Kp21 : Keep h0 T15.heap [a0, lm, ma] := Kp9.trans K15 (allS (Or.inl (List.mem_of_getElem? (i := 1) rfl)) (allS (Or.inl (List.mem_of_getElem? (i := 2) rfl)) all0))
  refine og_tr st15 ?_
  show OG p e below _ _ (T15.setTop (mkF m 66 #[.val (.ref a0), .val (.int p1), .val (.long q2), .second, .val (.long q3), .second, .val (.long q4), .second] []))
  refine o_aloadN X15 hx rfl (hb hby own_d4_66) rfl rfl ?_
  refine o_dup X15 hx rfl (hb hby own_d4_67) rfl ?_
  have Fc22 : Fld Z T15.heap a0 "tidemark/log/RecordMarks$RunMarking" "batches" "I" (.int (1 : Int32)) := ((Fld.other W8 pre6 (Or.inr (slot_ne (Or.inl (hw _ (List.mem_of_getElem? (i := 35) rfl))) (Or.inl (hw _ (List.mem_of_getElem? (i := 45) rfl))) (by decide) (t := .int) (t' := .int) (by decide) (by decide)))).keep K15 (ninS pre16 (ninS pre17 nin0)))
  obtain ⟨T23, X23, e23, st23⟩ := getF X15 hx hZ hown (host := "") (Or.inl (hw _ (List.mem_of_getElem? (i := 34) rfl))) Via.refl rfl Fc22 (g := (mkF m 68 #[.val (.ref a0), .val (.int p1), .val (.long q2), .second, .val (.long q3), .second, .val (.long q4), .second] [(.ref a0), (.ref a0)])) rfl rfl (hb hby own_d4_68)
  refine og_of st23 ?_
  show OG p e below _ _ (T23.setTop (mkF m 71 #[.val (.ref a0), .val (.int p1), .val (.long q2), .second, .val (.long q3), .second, .val (.long q4), .second] [(.int (1 : Int32)), (.ref a0)]))
  refine o_iconst (z := (1 : Int32)) X23 hx rfl (hb hby own_d4_71) (by decide) ?_
  refine o_iadd (z := (2 : Int32)) X23 hx rfl (hb hby own_d4_72) (by decide) ?_
  have Fc24 : Exa Z T15.heap a0 "tidemark/log/RecordMarks$RunMarking" := ((Exa.wr W8 pre0).keep K15)
  obtain ⟨T25, h25, X25, e25, W25, st25⟩ := putF X23 hx hZ hown (host := "") (Or.inl (hw _ (List.mem_of_getElem? (i := 34) rfl))) Via.refl e23 Fc22 Fc24 (Or.inl (hw _ (List.mem_of_getElem? (i := 35) rfl))) (hw _ (List.mem_of_getElem? (i := 2) rfl)) (ty := .int) (by decide) rfl rfl (g := (mkF m 73 #[.val (.ref a0), .val (.int p1), .val (.long q2), .second, .val (.long q3), .second, .val (.long q4), .second] [(.int (2 : Int32)), (.ref a0)])) rfl rfl (hb hby own_d4_73)
  have Fw25 := Fc22.same W25
  have N25 := Fr.snoc X25 N20 pre1
  have Kp26 : Keep h0 h25 [a0, lm, ma] := Kp21.wr W25 (Or.inl (List.mem_of_getElem? (i := 0) rfl))
  refine og_of st25 ?_
  show OG p e below _ _ (T25.setTop (mkF m 76 #[.val (.ref a0), .val (.int p1), .val (.long q2), .second, .val (.long q3), .second, .val (.long q4), .second] []))
  refine o_aloadN X25 hx rfl (hb hby own_d4_76) rfl rfl ?_
  refine o_dup X25 hx rfl (hb hby own_d4_77) rfl ?_
  have Fc27 : Fld Z h25 a0 "tidemark/log/RecordMarks$RunMarking" "end" "J" (.long ue) := (Fld.other W25 ((Fld.other W8 pre5 (Or.inr (slot_ne (Or.inl (hw _ (List.mem_of_getElem? (i := 28) rfl))) (Or.inl (hw _ (List.mem_of_getElem? (i := 45) rfl))) (by decide) (t := .long) (t' := .int) (by decide) (by decide)))).keep K15 (ninS pre16 (ninS pre17 nin0))) (Or.inr (slot_ne (Or.inl (hw _ (List.mem_of_getElem? (i := 28) rfl))) (Or.inl (hw _ (List.mem_of_getElem? (i := 35) rfl))) (by decide) (t := .long) (t' := .int) (by decide) (by decide))))
  obtain ⟨T28, X28, e28, st28⟩ := getF X25 hx hZ hown (host := "") (Or.inl (hw _ (List.mem_of_getElem? (i := 27) rfl))) Via.refl e25 Fc27 (g := (mkF m 78 #[.val (.ref a0), .val (.int p1), .val (.long q2), .second, .val (.long q3), .second, .val (.long q4), .second] [(.ref a0), (.ref a0)])) rfl rfl (hb hby own_d4_78)
  refine og_of st28 ?_
  show OG p e below _ _ (T28.setTop (mkF m 81 #[.val (.ref a0), .val (.int p1), .val (.long q2), .second, .val (.long q3), .second, .val (.long q4), .second] [(.long ue), (.ref a0)]))
  refine o_iloadN X28 hx rfl (hb hby own_d4_81) rfl ?_
  refine o_i2l (z := (p1.toInt64)) X28 hx rfl (hb hby own_d4_82) rfl ?_
  refine o_ladd (z := (ue + (p1.toInt64))) X28 hx rfl (hb hby own_d4_83) rfl ?_
  have Fc29 : Exa Z h25 a0 "tidemark/log/RecordMarks$RunMarking" := (Exa.wr W25 Fc24)
  obtain ⟨T30, h30, X30, e30, W30, st30⟩ := putF X28 hx hZ hown (host := "") (Or.inl (hw _ (List.mem_of_getElem? (i := 27) rfl))) Via.refl e28 Fc27 Fc29 (Or.inl (hw _ (List.mem_of_getElem? (i := 28) rfl))) (hw _ (List.mem_of_getElem? (i := 2) rfl)) (ty := .long) (by decide) rfl rfl (g := (mkF m 84 #[.val (.ref a0), .val (.int p1), .val (.long q2), .second, .val (.long q3), .second, .val (.long q4), .second] [(.long (ue + (p1.toInt64))), (.ref a0)])) rfl rfl (hb hby own_d4_84)
  have Fw30 := Fc27.same W30
  have N30 := Fr.snoc X30 N25 pre1
  have Kp31 : Keep h0 h30 [a0, lm, ma] := Kp26.wr W30 (Or.inl (List.mem_of_getElem? (i := 0) rfl))
  refine og_of st30 ?_
  show OG p e below _ _ (T30.setTop (mkF m 87 #[.val (.ref a0), .val (.int p1), .val (.long q2), .second, .val (.long q3), .second, .val (.long q4), .second] []))
  refine o_aloadN X30 hx rfl (hb hby own_d4_87) rfl rfl ?_
  refine o_lload X30 hx rfl (hb hby own_d4_88) rfl ?_
  have Fc32 : Exa Z h30 a0 "tidemark/log/RecordMarks$RunMarking" := (Exa.wr W30 Fc29)
  have Fc33 : Fld Z h30 a0 "tidemark/log/RecordMarks$RunMarking" "nextOffset" "J" (.long un) := (Fld.other W30 (Fld.other W25 ((Fld.other W8 pre8 (Or.inr (slot_ne (Or.inl (hw _ (List.mem_of_getElem? (i := 39) rfl))) (Or.inl (hw _ (List.mem_of_getElem? (i := 45) rfl))) (by decide) (t := .long) (t' := .int) (by decide) (by decide)))).keep K15 (ninS pre16 (ninS pre17 nin0))) (Or.inr (slot_ne (Or.inl (hw _ (List.mem_of_getElem? (i := 39) rfl))) (Or.inl (hw _ (List.mem_of_getElem? (i := 35) rfl))) (by decide) (t := .long) (t' := .int) (by decide) (by decide)))) (Or.inr (slot_ne (Or.inl (hw _ (List.mem_of_getElem? (i := 39) rfl))) (Or.inl (hw _ (List.mem_of_getElem? (i := 28) rfl))) (by decide) (t := .long) (t' := .long) (by decide) (by decide))))
  obtain ⟨T34, h34, X34, e34, W34, st34⟩ := putF X30 hx hZ hown (host := "") (Or.inl (hw _ (List.mem_of_getElem? (i := 38) rfl))) Via.refl e30 Fc33 Fc32 (Or.inl (hw _ (List.mem_of_getElem? (i := 39) rfl))) (hw _ (List.mem_of_getElem? (i := 2) rfl)) (ty := .long) (by decide) rfl rfl (g := (mkF m 90 #[.val (.ref a0), .val (.int p1), .val (.long q2), .second, .val (.long q3), .second, .val (.long q4), .second] [(.long q3), (.ref a0)])) rfl rfl (hb hby own_d4_90)
  have Fw34 := Fc33.same W34
  have N34 := Fr.snoc X34 N30 pre1
  have Kp35 : Keep h0 h34 [a0, lm, ma] := Kp31.wr W34 (Or.inl (List.mem_of_getElem? (i := 0) rfl))
  refine og_of st34 ?_
  show OG p e below _ _ (T34.setTop (mkF m 93 #[.val (.ref a0), .val (.int p1), .val (.long q2), .second, .val (.long q3), .second, .val (.long q4), .second] []))
  refine o_aloadN X34 hx rfl (hb hby own_d4_93) rfl rfl ?_
  refine o_aloadN X34 hx rfl (hb hby own_d4_94) rfl rfl ?_
  have Fc36 : Fld Z h34 a0 "tidemark/log/RecordMarks$RunMarking" "largest" "J" (.long ul) := (Fld.other W34 (Fld.other W30 (Fld.other W25 (Fc13.keep K15 (ninS pre16 (ninS pre17 nin0))) (Or.inr (slot_ne (Or.inl (hw _ (List.mem_of_getElem? (i := 24) rfl))) (Or.inl (hw _ (List.mem_of_getElem? (i := 35) rfl))) (by decide) (t := .long) (t' := .int) (by decide) (by decide)))) (Or.inr (slot_ne (Or.inl (hw _ (List.mem_of_getElem? (i := 24) rfl))) (Or.inl (hw _ (List.mem_of_getElem? (i := 28) rfl))) (by decide) (t := .long) (t' := .long) (by decide) (by decide)))) (Or.inr (slot_ne (Or.inl (hw _ (List.mem_of_getElem? (i := 24) rfl))) (Or.inl (hw _ (List.mem_of_getElem? (i := 39) rfl))) (by decide) (t := .long) (t' := .long) (by decide) (by decide))))
  obtain ⟨T37, X37, e37, st37⟩ := getF X34 hx hZ hown (host := "") (Or.inl (hw _ (List.mem_of_getElem? (i := 23) rfl))) Via.refl e34 Fc36 (g := (mkF m 95 #[.val (.ref a0), .val (.int p1), .val (.long q2), .second, .val (.long q3), .second, .val (.long q4), .second] [(.ref a0), (.ref a0)])) rfl rfl (hb hby own_d4_95)
  refine og_of st37 ?_
  show OG p e below _ _ (T37.setTop (mkF m 98 #[.val (.ref a0), .val (.int p1), .val (.long q2), .second, .val (.long q3), .second, .val (.long q4), .second] [(.long ul), (.ref a0)]))
  refine o_lload X37 hx rfl (hb hby own_d4_98) rfl ?_
  obtain ⟨_, _, ⟨T38, L38, k38, n38⟩, -, X38, ⟨Lc38, hQ38, l38, y38, z38⟩, st38⟩ := Jvm.LawKit.callS X37 hx (y := (⟨"java/lang/Math", "max", "(JJ)J"⟩ : MethodName)) hown (mvT hZ (hw _ (List.mem_of_getElem? (i := 40) rfl))) (mvT hZ (hw _ (List.mem_of_getElem? (i := 41) rfl))) (mvT hZ (hw _ (List.mem_of_getElem? (i := 42) rfl))) (mvT hZ (hw _ (List.mem_of_getElem? (i := 43) rfl))) (by decide) (backOf (W := 1) (own_rm5 l Z aA hw [] ul q4 h34 n0 (Nat.le_trans (Nat.le_trans (Nat.le_trans (Nat.le_trans (Nat.le_trans Z0 (Keep.of_wr W8).1) K15.1) (Keep.of_wr W25).1) (Keep.of_wr W30).1) (Keep.of_wr W34).1)) hZ (hw _ (List.mem_of_getElem? (i := 43) rfl)) (hw _ (List.mem_of_getElem? (i := 42) rfl)) (by decide) (by decide)) (g := (mkF m 100 #[.val (.ref a0), .val (.int p1), .val (.long q2), .second, .val (.long q3), .second, .val (.long q4), .second] [(.long q4), (.long ul), (.ref a0)])) rfl (by rw [hml]; rfl) (argsL := [(.long ul), (.long q4)]) (rest := [(.ref a0)]) (lenOf own_pd3 rfl) rfl (by show 2 * 0 + _ ≤ _; exact Nat.le_of_eq rfl) (hb hby own_d4_100) (fun _ _ => ⟨rfl, e37, Nat.le_of_ble_eq_true rfl, Nat.le_of_ble_eq_true rfl⟩)
  dsimp only [Pt.U, Pt.locs, Pt.cells, Pt.slots] at X38 l38 y38 z38 st38 hQ38
  subst l38 y38 z38
  obtain ⟨rfl, N38q, ee38⟩ := hQ38
  have N39 := Fr.app N34 N38q
  refine og_of st38 ?_
  show OG p e below _ _ (T38.setTop (mkF m 103 #[.val (.ref a0), .val (.int p1), .val (.long q2), .second, .val (.long q3), .second, .val (.long q4), .second] [(.long (own_f5 ul q4)), (.ref a0)]))
  have Fc40 : Exa Z h34 a0 "tidemark/log/RecordMarks$RunMarking" := (Exa.wr W34 Fc32)
  obtain ⟨T41, h41, X41, e41, W41, st41⟩ := putF X38 hx hZ hown (host := "") (Or.inl (hw _ (List.mem_of_getElem? (i := 23) rfl))) Via.refl ee38 Fc36 Fc40 (Or.inl (hw _ (List.mem_of_getElem? (i := 24) rfl))) (hw _ (List.mem_of_getElem? (i := 2) rfl)) (ty := .long) (by decide) rfl rfl (g := (mkF m 103 #[.val (.ref a0), .val (.int p1), .val (.long q2), .second, .val (.long q3), .second, .val (.long q4), .second] [(.long (own_f5 ul q4)), (.ref a0)])) rfl rfl (hb hby own_d4_103)
  have Fw41 := Fc36.same W41
  have N41 := Fr.snoc X41 N39 pre1
  have Kp42 : Keep h0 h41 [a0, lm, ma] := Kp35.wr W41 (Or.inl (List.mem_of_getElem? (i := 0) rfl))
  refine og_of st41 ?_
  show OG p e below _ _ (T41.setTop (mkF m 106 #[.val (.ref a0), .val (.int p1), .val (.long q2), .second, .val (.long q3), .second, .val (.long q4), .second] []))
  have Fc43 : Fld Z h41 a0 "tidemark/log/RecordMarks$RunMarking" "later" "Ltidemark/log/RecordMarks$LaterMarks;" (.ref lm) := (Fld.other W41 (Fld.other W34 (Fld.other W30 (Fld.other W25 (Fc10.keep K15 (ninS pre16 (ninS pre17 nin0))) (Or.inr (slot_ne (Or.inr (hw _ (List.mem_of_getElem? (i := 21) rfl))) (Or.inl (hw _ (List.mem_of_getElem? (i := 35) rfl))) (by decide) (t := (.object "tidemark/log/RecordMarks$LaterMarks")) (t' := .int) (by decide) (by decide)))) (Or.inr (slot_ne (Or.inr (hw _ (List.mem_of_getElem? (i := 21) rfl))) (Or.inl (hw _ (List.mem_of_getElem? (i := 28) rfl))) (by decide) (t := (.object "tidemark/log/RecordMarks$LaterMarks")) (t' := .long) (by decide) (by decide)))) (Or.inr (slot_ne (Or.inr (hw _ (List.mem_of_getElem? (i := 21) rfl))) (Or.inl (hw _ (List.mem_of_getElem? (i := 39) rfl))) (by decide) (t := (.object "tidemark/log/RecordMarks$LaterMarks")) (t' := .long) (by decide) (by decide)))) (Or.inr (slot_ne (Or.inr (hw _ (List.mem_of_getElem? (i := 21) rfl))) (Or.inl (hw _ (List.mem_of_getElem? (i := 24) rfl))) (by decide) (t := (.object "tidemark/log/RecordMarks$LaterMarks")) (t' := .long) (by decide) (by decide))))
  have Fc44 : Fld Z h41 a0 "tidemark/log/RecordMarks$RunMarking" "position" "J" (.long up) := (Fld.other W41 (Fld.other W34 (Fld.other W30 (Fld.other W25 ((Fld.other W8 pre4 (Or.inr (slot_ne (Or.inr (hw _ (List.mem_of_getElem? (i := 26) rfl))) (Or.inl (hw _ (List.mem_of_getElem? (i := 45) rfl))) (by decide) (t := .long) (t' := .int) (by decide) (by decide)))).keep K15 (ninS pre16 (ninS pre17 nin0))) (Or.inr (slot_ne (Or.inr (hw _ (List.mem_of_getElem? (i := 26) rfl))) (Or.inl (hw _ (List.mem_of_getElem? (i := 35) rfl))) (by decide) (t := .long) (t' := .int) (by decide) (by decide)))) (Or.inr (slot_ne (Or.inr (hw _ (List.mem_of_getElem? (i := 26) rfl))) (Or.inl (hw _ (List.mem_of_getElem? (i := 28) rfl))) (by decide) (t := .long) (t' := .long) (by decide) (by decide)))) (Or.inr (slot_ne (Or.inr (hw _ (List.mem_of_getElem? (i := 26) rfl))) (Or.inl (hw _ (List.mem_of_getElem? (i := 39) rfl))) (by decide) (t := .long) (t' := .long) (by decide) (by decide)))) (Or.inr (slot_ne (Or.inr (hw _ (List.mem_of_getElem? (i := 26) rfl))) (Or.inl (hw _ (List.mem_of_getElem? (i := 24) rfl))) (by decide) (t := .long) (t' := .long) (by decide) (by decide))))
  have Fc45 : Fld Z h41 a0 "tidemark/log/RecordMarks$RunMarking" "end" "J" (.long (ue + (p1.toInt64))) := (Fld.other W41 (Fld.other W34 Fw30 (Or.inr (slot_ne (Or.inl (hw _ (List.mem_of_getElem? (i := 28) rfl))) (Or.inl (hw _ (List.mem_of_getElem? (i := 39) rfl))) (by decide) (t := .long) (t' := .long) (by decide) (by decide)))) (Or.inr (slot_ne (Or.inl (hw _ (List.mem_of_getElem? (i := 28) rfl))) (Or.inl (hw _ (List.mem_of_getElem? (i := 24) rfl))) (by decide) (t := .long) (t' := .long) (by decide) (by decide))))
  have Fc46 : Fld Z h41 a0 "tidemark/log/RecordMarks$RunMarking" "batches" "I" (.int (2 : Int32)) := (Fld.other W41 (Fld.other W34 (Fld.other W30 Fw25 (Or.inr (slot_ne (Or.inl (hw _ (List.mem_of_getElem? (i := 35) rfl))) (Or.inl (hw _ (List.mem_of_getElem? (i := 28) rfl))) (by decide) (t := .int) (t' := .long) (by decide) (by decide)))) (Or.inr (slot_ne (Or.inl (hw _ (List.mem_of_getElem? (i := 35) rfl))) (Or.inl (hw _ (List.mem_of_getElem? (i := 39) rfl))) (by decide) (t := .int) (t' := .long) (by decide) (by decide)))) (Or.inr (slot_ne (Or.inl (hw _ (List.mem_of_getElem? (i := 35) rfl))) (Or.inl (hw _ (List.mem_of_getElem? (i := 24) rfl))) (by decide) (t := .int) (t' := .long) (by decide) (by decide))))
  have Fc47 : Fld Z h41 a0 "tidemark/log/RecordMarks$RunMarking" "baseOffset" "J" (.long ub) := (Fld.other W41 (Fld.other W34 (Fld.other W30 (Fld.other W25 ((Fld.other W8 pre7 (Or.inr (slot_ne (Or.inl (hw _ (List.mem_of_getElem? (i := 37) rfl))) (Or.inl (hw _ (List.mem_of_getElem? (i := 45) rfl))) (by decide) (t := .long) (t' := .int) (by decide) (by decide)))).keep K15 (ninS pre16 (ninS pre17 nin0))) (Or.inr (slot_ne (Or.inl (hw _ (List.mem_of_getElem? (i := 37) rfl))) (Or.inl (hw _ (List.mem_of_getElem? (i := 35) rfl))) (by decide) (t := .long) (t' := .int) (by decide) (by decide)))) (Or.inr (slot_ne (Or.inl (hw _ (List.mem_of_getElem? (i := 37) rfl))) (Or.inl (hw _ (List.mem_of_getElem? (i := 28) rfl))) (by decide) (t := .long) (t' := .long) (by decide) (by decide)))) (Or.inr (slot_ne (Or.inl (hw _ (List.mem_of_getElem? (i := 37) rfl))) (Or.inl (hw _ (List.mem_of_getElem? (i := 39) rfl))) (by decide) (t := .long) (t' := .long) (by decide) (by decide)))) (Or.inr (slot_ne (Or.inl (hw _ (List.mem_of_getElem? (i := 37) rfl))) (Or.inl (hw _ (List.mem_of_getElem? (i := 24) rfl))) (by decide) (t := .long) (t' := .long) (by decide) (by decide))))
  have Fc48 : Fld Z h41 a0 "tidemark/log/RecordMarks$RunMarking" "nextOffset" "J" (.long q3) := (Fld.other W41 Fw34 (Or.inr (slot_ne (Or.inl (hw _ (List.mem_of_getElem? (i := 39) rfl))) (Or.inl (hw _ (List.mem_of_getElem? (i := 24) rfl))) (by decide) (t := .long) (t' := .long) (by decide) (by decide))))
  have Fc49 : Fld Z h41 a0 "tidemark/log/RecordMarks$RunMarking" "lastStart" "I" (.int ((ue - up).toInt32)) := (Fld.other W41 (Fld.other W34 (Fld.other W30 (Fld.other W25 (Fw8.keep K15 (ninS pre16 (ninS pre17 nin0))) (Or.inr (slot_ne (Or.inl (hw _ (List.mem_of_getElem? (i := 45) rfl))) (Or.inl (hw _ (List.mem_of_getElem? (i := 35) rfl))) (by decide) (t := .int) (t' := .int) (by decide) (by decide)))) (Or.inr (slot_ne (Or.inl (hw _ (List.mem_of_getElem? (i := 45) rfl))) (Or.inl (hw _ (List.mem_of_getElem? (i := 28) rfl))) (by decide) (t := .int) (t' := .long) (by decide) (by decide)))) (Or.inr (slot_ne (Or.inl (hw _ (List.mem_of_getElem? (i := 45) rfl))) (Or.inl (hw _ (List.mem_of_getElem? (i := 39) rfl))) (by decide) (t := .int) (t' := .long) (by decide) (by decide)))) (Or.inr (slot_ne (Or.inl (hw _ (List.mem_of_getElem? (i := 45) rfl))) (Or.inl (hw _ (List.mem_of_getElem? (i := 24) rfl))) (by decide) (t := .int) (t' := .long) (by decide) (by decide))))
  have Fc50 : Fld Z h41 lm "tidemark/log/RecordMarks$LaterMarks" "marks" "[I" (.ref ma) := (Fld.other W41 (Fld.other W34 (Fld.other W30 (Fld.other W25 f15_1 (Or.inl (Ne.symm pre16))) (Or.inl (Ne.symm pre16))) (Or.inl (Ne.symm pre16))) (Or.inl (Ne.symm pre16)))
  have Fc51 : Fld Z h41 lm "tidemark/log/RecordMarks$LaterMarks" "count" "I" (.int (1 : Int32)) := (Fld.other W41 (Fld.other W34 (Fld.other W30 (Fld.other W25 f15_0 (Or.inl (Ne.symm pre16))) (Or.inl (Ne.symm pre16))) (Or.inl (Ne.symm pre16))) (Or.inl (Ne.symm pre16)))
  have Fc52 : Arv Z h41 ma k_ma .int (12 : Int32) [(.int ((ue - up).toInt32)), (.int (((ul.toUInt64 >>> ((32 : Int32) &&& 0x3f).toInt64.toUInt64).toInt64).toInt32)), (.int (ul.toInt32)), (.int m3), (.int m4), (.int m5), (.int m6), (.int m7)] (.int (0 : Int32)) := ((((f15_2.other W25 (Ne.symm pre17)).other W30 (Ne.symm pre17)).other W34 (Ne.symm pre17)).other W41 (Ne.symm pre17))
  exact o_ret0 X41 hx Bd.returns (own_lv X41 hlk (by decide) (by decide)) (hb hby own_d4_106) ⟨rfl, N41, (by rw [e41]; exact Kp42), (by rw [e41]; exact Fc43), (by rw [e41]; exact Fw41), (by rw [e41]; exact Fc44), (by rw [e41]; exact Fc45), (by rw [e41]; exact Fc46), (by rw [e41]; exact Fc47), (by rw [e41]; exact Fc48), (by rw [e41]; exact Fc49), (by rw [e41]; exact Fc50), (by rw [e41]; exact Fc51), (by rw [e41]; exact Fc52)⟩
theorem own_efad2 (m : MethodId) (a0 : Addr) (p1 : Int32) (q2 : Int64) (q3 : Int64) (q4 : Int64) : entryFrame m #[(.ref a0), (.int p1), (.long q2), (.long q3), (.long q4)] 8 = mkF m 0 #[.val (.ref a0), .val (.int p1), .val (.long q2), .second, .val (.long q3), .second, .val (.long q4), .second] [] := by first | (simp [entryFrame, mkF, argsToLocals, Value.category]; done) | rfl
def own_Qad2 (Z : State) (a0 : Addr) (p1 : Int32) (q2 : Int64) (q3 : Int64) (q4 : Int64) (lm : Addr) (ul : Int64) (up : Int64) (ue : Int64) (ub : Int64) (un : Int64) (us : Int32) (h0 : Heap) (n0 : Nat) (v : Option Value) (h : Heap) (L : List Loc) : Prop := v = none ∧ Fr n0 L ∧ Keep h0 h [a0] ∧ Fld Z h a0 "tidemark/log/RecordMarks$RunMarking" "later" "Ltidemark/log/RecordMarks$LaterMarks;" (.ref lm) ∧ Fld Z h a0 "tidemark/log/RecordMarks$RunMarking" "largest" "J" (.long (own_f5 ul q4)) ∧ Fld Z h a0 "tidemark/log/RecordMarks$RunMarking" "position" "J" (.long up) ∧ Fld Z h a0 "tidemark/log/RecordMarks$RunMarking" "end" "J" (.long (ue + (p1.toInt64))) ∧ Fld Z h a0 "tidemark/log/RecordMarks$RunMarking" "batches" "I" (.int (3 : Int32)) ∧ Fld Z h a0 "tidemark/log/RecordMarks$RunMarking" "baseOffset" "J" (.long ub) ∧ Fld Z h a0 "tidemark/log/RecordMarks$RunMarking" "nextOffset" "J" (.long q3) ∧ Fld Z h a0 "tidemark/log/RecordMarks$RunMarking" "lastStart" "I" (.int us)
set_option maxRecDepth 65536 in
set_option maxHeartbeats 40000000 in
theorem own_rmad2 (l : Launch) (Z : State) (aA : Array Value) (hw : ∀ d ∈ tables_1, d.before aA Z = true) (ws : List Jvm.Cond) (a0 : Addr) (p1 : Int32) (q2 : Int64) (q3 : Int64) (q4 : Int64) (lm : Addr) (ul : Int64) (up : Int64) (ue : Int64) (ub : Int64) (un : Int64) (us : Int32) (h0 : Heap) (n0 : Nat) (Z0 : n0 ≤ h0.size) (pre0 : Exa Z h0 a0 "tidemark/log/RecordMarks$RunMarking") (pre1 : n0 ≤ a0) (pre2 : Fld Z h0 a0 "tidemark/log/RecordMarks$RunMarking" "later" "Ltidemark/log/RecordMarks$LaterMarks;" (.ref lm)) (pre3 : Fld Z h0 a0 "tidemark/log/RecordMarks$RunMarking" "largest" "J" (.long ul)) (pre4 : Fld Z h0 a0 "tidemark/log/RecordMarks$RunMarking" "position" "J" (.long up)) (pre5 : Fld Z h0 a0 "tidemark/log/RecordMarks$RunMarking" "end" "J" (.long ue)) (pre6 : Fld Z h0 a0 "tidemark/log/RecordMarks$RunMarking" "batches" "I" (.int (2 : Int32))) (pre7 : Fld Z h0 a0 "tidemark/log/RecordMarks$RunMarking" "baseOffset" "J" (.long ub)) (pre8 : Fld Z h0 a0 "tidemark/log/RecordMarks$RunMarking" "nextOffset" "J" (.long un)) (pre9 : Fld Z h0 a0 "tidemark/log/RecordMarks$RunMarking" "lastStart" "I" (.int us)) (hT : ¬ ((1024 : Int64) < ((ue - up) - us.toInt64))) :
    MetFree l (⟨"tidemark/log/RecordMarks$RunMarking", "add", "(IJJJ)V"⟩ : MethodName) (head1 (Jvm.Cond.code (⟨"tidemark/log/RecordMarks$RunMarking", "add", "(IJJJ)V"⟩ : MethodName) prog_115_method_3_code 8 none :: ws) ({ frames := 1, cells := 0, slots := 0, locals := 16 } : Room)) (fun a U => a = #[(.ref a0), (.int p1), (.long q2), (.long q3), (.long q4)] ∧ Z.Warmed39 U.vm ∧ U.heap = h0) (fun _ _ _ _ _ => True) (fun _ U o U' => ∃ v L, o = .returned v ∧ own_Qad2 Z a0 p1 q2 q3 q4 lm ul up ue ub un us h0 n0 v U'.heap L ∧ FrameEnd U o U' L ({ frames := 1, cells := 0, slots := 0, locals := 16 } : Room).cells ({ frames := 1, cells := 0, slots := 0, locals := 16 } : Room).slots) := by
  refine MetFree.of_bodySF (plainFor_of_name own_pn113) hisR ?_
  intro p e s m args below meth c s₁ Bd hml0 hP hK
  obtain ⟨rfl, hZ, hh⟩ := hP
  have hx := Bd.exec
  have hby := Bd.bytes
  have hlk : meth.locks = false := Bd.notSynchronized
  have hml : c.maxLocals = 8 := hml0
  have hown : s.vm.findClass "tidemark/log/RecordMarks$RunMarking" = some m.cls := findClass_of_methodNamed Bd.named
  have hnm := (name_of_methodNamed Bd.named Bd.method).1
  have X0 : Stand p l e ({ frames := 1, cells := 0, slots := 0, locals := 16 } : Room) s m #[(.ref a0), (.int p1), (.long q2), (.long q3), (.long q4)] below meth c s₁ [] 0 0 := Stand.of_body Bd
  have e0 : s₁.heap = h0 := by rw [← hh, Bd.state]; rfl
  have N0 := Fr.nil n0
  show OG p e below (FE s ({ frames := 1, cells := 0, slots := 0, locals := 16 } : Room).cells ({ frames := 1, cells := 0, slots := 0, locals := 16 } : Room).slots) (own_Qad2 Z a0 p1 q2 q3 q4 lm ul up ue ub un us h0 n0) (s₁.setTop (entryFrame m #[(.ref a0), (.int p1), (.long q2), (.long q3), (.long q4)] 8))
  refine og_of (fun _ k => castTop (own_efad2 m a0 p1 q2 q3 q4) k) ?_
  refine o_aloadN X0 hx rfl (hb hby own_d4_0) rfl rfl ?_
  obtain ⟨T1, X1, e1, st1⟩ := getF X0 hx hZ hown (host := "") (Or.inl (hw _ (List.mem_of_getElem? (i := 34) rfl))) Via.refl e0 pre6 (g := (mkF m 1 #[.val (.ref a0), .val (.int p1), .val (.long q2), .second, .val (.long q3), .second, .val (.long q4), .second] [(.ref a0)])) rfl rfl (hb hby own_d4_1)
  refine og_of st1 ?_
  show OG p e below _ _ (T1.setTop (mkF m 4 #[.val (.ref a0), .val (.int p1), .val (.long q2), .second, .val (.long q3), .second, .val (.long q4), .second] [(.int (2 : Int32))]))
  refine o_ifY (pc' := 15) X1 hx (hb hby own_d4_4) ((if0 _ _).trans (feq (by decide : ¬ ((2 : Int32) = (0 : Int32)))).2) (by decide) (by decide) ?_
  refine o_aloadN X1 hx rfl (hb hby own_d4_15) rfl rfl ?_
  obtain ⟨T2, X2, e2, st2⟩ := getF X1 hx hZ hown (host := "") (Or.inl (hw _ (List.mem_of_getElem? (i := 27) rfl))) Via.refl e1 pre5 (g := (mkF m 16 #[.val (.ref a0), .val (.int p1), .val (.long q2), .second, .val (.long q3), .second, .val (.long q4), .second] [(.ref a0)])) rfl rfl (hb hby own_d4_16)
  refine og_of st2 ?_
  show OG p e below _ _ (T2.setTop (mkF m 19 #[.val (.ref a0), .val (.int p1), .val (.long q2), .second, .val (.long q3), .second, .val (.long q4), .second] [(.long ue)]))
  refine o_aloadN X2 hx rfl (hb hby own_d4_19) rfl rfl ?_
  obtain ⟨T3, X3, e3, st3⟩ := getF X2 hx hZ hown (host := "") (Or.inl (hw _ (List.mem_of_getElem? (i := 25) rfl))) Via.refl e2 pre4 (g := (mkF m 20 #[.val (.ref a0), .val (.int p1), .val (.long q2), .second, .val (.long q3), .second, .val (.long q4), .second] [(.ref a0), (.long ue)])) rfl rfl (hb hby own_d4_20)
  refine og_of st3 ?_
  show OG p e below _ _ (T3.setTop (mkF m 23 #[.val (.ref a0), .val (.int p1), .val (.long q2), .second, .val (.long q3), .second, .val (.long q4), .second] [(.long up), (.long ue)]))
  refine o_lsub (z := (ue - up)) X3 hx rfl (hb hby own_d4_23) rfl ?_
  refine o_aloadN X3 hx rfl (hb hby own_d4_24) rfl rfl ?_
  obtain ⟨T4, X4, e4, st4⟩ := getF X3 hx hZ hown (host := "") (Or.inl (hw _ (List.mem_of_getElem? (i := 44) rfl))) Via.refl e3 pre9 (g := (mkF m 25 #[.val (.ref a0), .val (.int p1), .val (.long q2), .second, .val (.long q3), .second, .val (.long q4), .second] [(.ref a0), (.long (ue - up))])) rfl rfl (hb hby own_d4_25)
  refine og_of st4 ?_
  show OG p e below _ _ (T4.setTop (mkF m 28 #[.val (.ref a0), .val (.int p1), .val (.long q2), .second, .val (.long q3), .second, .val (.long q4), .second] [(.int us), (.long (ue - up))]))
  refine o_i2l (z := (us.toInt64)) X4 hx rfl (hb hby own_d4_28) rfl ?_
  refine o_lsub (z := ((ue - up) - (us.toInt64))) X4 hx rfl (hb hby own_d4_29) rfl ?_
  refine o_ldc2L X4 hx rfl (hb hby own_d4_30) hZ hown (hw _ (List.mem_of_getElem? (i := 46) rfl)) ?_
  refine o_lcmp X4 hx rfl (hb hby own_d4_33) ?_
  have hk5 : ¬ ((1024 : Int64) < ((ue - up) - (us.toInt64))) := hT
  refine o_ifY (pc' := 66) X4 hx (hb hby own_d4_34) (lcN_gt hk5).2 (by decide) (by decide) ?_
  refine o_aloadN X4 hx rfl (hb hby own_d4_66) rfl rfl ?_
  refine o_dup X4 hx rfl (hb hby own_d4_67) rfl ?_
  obtain ⟨T6, X6, e6, st6⟩ := getF X4 hx hZ hown (host := "") (Or.inl (hw _ (List.mem_of_getElem? (i := 34) rfl))) Via.refl e4 pre6 (g := (mkF m 68 #[.val (.ref a0), .val (.int p1), .val (.long q2), .second, .val (.long q3), .second, .val (.long q4), .second] [(.ref a0), (.ref a0)])) rfl rfl (hb hby own_d4_68)
  refine og_of st6 ?_
  show OG p e below _ _ (T6.setTop (mkF m 71 #[.val (.ref a0), .val (.int p1), .val (.long q2), .second, .val (.long q3), .second, .val (.long q4), .second] [(.int (2 : Int32)), (.ref a0)]))
  refine o_iconst (z := (1 : Int32)) X6 hx rfl (hb hby own_d4_71) (by decide) ?_
  refine o_iadd (z := (3 : Int32)) X6 hx rfl (hb hby own_d4_72) (by decide) ?_
  obtain ⟨T7, h7, X7, e7, W7, st7⟩ := putF X6 hx hZ hown (host := "") (Or.inl (hw _ (List.mem_of_getElem? (i := 34) rfl))) Via.refl e6 pre6 pre0 (Or.inl (hw _ (List.mem_of_getElem? (i := 35) rfl))) (hw _ (List.mem_of_getElem? (i := 2) rfl)) (ty := .int) (by decide) rfl rfl (g := (mkF m 73 #[.val (.ref a0), .val (.int p1), .val (.long q2), .second, .val (.long q3), .second, .val (.long q4), .second] [(.int (3 : Int32)), (.ref a0)])) rfl rfl (hb hby own_d4_73)
  have Fw7 := pre6.same W7
  have N7 := Fr.snoc X7 N0 pre1
  have Kp8 : Keep h0 h7 [a0] := (Keep.refl h0 [a0]).wr W7 (Or.inl (List.mem_of_getElem? (i := 0) rfl))
  refine og_of st7 ?_
  show OG p e below _ _ (T7.setTop (mkF m 76 #[.val (.ref a0), .val (.int p1), .val (.long q2), .second, .val (.long q3), .second, .val (.long q4), .second] []))
  refine o_aloadN X7 hx rfl (hb hby own_d4_76) rfl rfl ?_
  refine o_dup X7 hx rfl (hb hby own_d4_77) rfl ?_
  have Fc9 : Fld Z h7 a0 "tidemark/log/RecordMarks$RunMarking" "end" "J" (.long ue) := (Fld.other W7 pre5 (Or.inr (slot_ne (Or.inl (hw _ (List.mem_of_getElem? (i := 28) rfl))) (Or.inl (hw _ (List.mem_of_getElem? (i := 35) rfl))) (by decide) (t := .long) (t' := .int) (by decide) (by decide))))
  obtain ⟨T10, X10, e10, st10⟩ := getF X7 hx hZ hown (host := "") (Or.inl (hw _ (List.mem_of_getElem? (i := 27) rfl))) Via.refl e7 Fc9 (g := (mkF m 78 #[.val (.ref a0), .val (.int p1), .val (.long q2), .second, .val (.long q3), .second, .val (.long q4), .second] [(.ref a0), (.ref a0)])) rfl rfl (hb hby own_d4_78)
  refine og_of st10 ?_
  show OG p e below _ _ (T10.setTop (mkF m 81 #[.val (.ref a0), .val (.int p1), .val (.long q2), .second, .val (.long q3), .second, .val (.long q4), .second] [(.long ue), (.ref a0)]))
  refine o_iloadN X10 hx rfl (hb hby own_d4_81) rfl ?_
  refine o_i2l (z := (p1.toInt64)) X10 hx rfl (hb hby own_d4_82) rfl ?_
  refine o_ladd (z := (ue + (p1.toInt64))) X10 hx rfl (hb hby own_d4_83) rfl ?_
  have Fc11 : Exa Z h7 a0 "tidemark/log/RecordMarks$RunMarking" := (Exa.wr W7 pre0)
  obtain ⟨T12, h12, X12, e12, W12, st12⟩ := putF X10 hx hZ hown (host := "") (Or.inl (hw _ (List.mem_of_getElem? (i := 27) rfl))) Via.refl e10 Fc9 Fc11 (Or.inl (hw _ (List.mem_of_getElem? (i := 28) rfl))) (hw _ (List.mem_of_getElem? (i := 2) rfl)) (ty := .long) (by decide) rfl rfl (g := (mkF m 84 #[.val (.ref a0), .val (.int p1), .val (.long q2), .second, .val (.long q3), .second, .val (.long q4), .second] [(.long (ue + (p1.toInt64))), (.ref a0)])) rfl rfl (hb hby own_d4_84)
  have Fw12 := Fc9.same W12
  have N12 := Fr.snoc X12 N7 pre1
  have Kp13 : Keep h0 h12 [a0] := Kp8.wr W12 (Or.inl (List.mem_of_getElem? (i := 0) rfl))
  refine og_of st12 ?_
  show OG p e below _ _ (T12.setTop (mkF m 87 #[.val (.ref a0), .val (.int p1), .val (.long q2), .second, .val (.long q3), .second, .val (.long q4), .second] []))
  refine o_aloadN X12 hx rfl (hb hby own_d4_87) rfl rfl ?_
  refine o_lload X12 hx rfl (hb hby own_d4_88) rfl ?_
  have Fc14 : Exa Z h12 a0 "tidemark/log/RecordMarks$RunMarking" := (Exa.wr W12 Fc11)
  have Fc15 : Fld Z h12 a0 "tidemark/log/RecordMarks$RunMarking" "nextOffset" "J" (.long un) := (Fld.other W12 (Fld.other W7 pre8 (Or.inr (slot_ne (Or.inl (hw _ (List.mem_of_getElem? (i := 39) rfl))) (Or.inl (hw _ (List.mem_of_getElem? (i := 35) rfl))) (by decide) (t := .long) (t' := .int) (by decide) (by decide)))) (Or.inr (slot_ne (Or.inl (hw _ (List.mem_of_getElem? (i := 39) rfl))) (Or.inl (hw _ (List.mem_of_getElem? (i := 28) rfl))) (by decide) (t := .long) (t' := .long) (by decide) (by decide))))
  obtain ⟨T16, h16, X16, e16, W16, st16⟩ := putF X12 hx hZ hown (host := "") (Or.inl (hw _ (List.mem_of_getElem? (i := 38) rfl))) Via.refl e12 Fc15 Fc14 (Or.inl (hw _ (List.mem_of_getElem? (i := 39) rfl))) (hw _ (List.mem_of_getElem? (i := 2) rfl)) (ty := .long) (by decide) rfl rfl (g := (mkF m 90 #[.val (.ref a0), .val (.int p1), .val (.long q2), .second, .val (.long q3), .second, .val (.long q4), .second] [(.long q3), (.ref a0)])) rfl rfl (hb hby own_d4_90)
  have Fw16 := Fc15.same W16
  have N16 := Fr.snoc X16 N12 pre1
  have Kp17 : Keep h0 h16 [a0] := Kp13.wr W16 (Or.inl (List.mem_of_getElem? (i := 0) rfl))
  refine og_of st16 ?_
  show OG p e below _ _ (T16.setTop (mkF m 93 #[.val (.ref a0), .val (.int p1), .val (.long q2), .second, .val (.long q3), .second, .val (.long q4), .second] []))
  refine o_aloadN X16 hx rfl (hb hby own_d4_93) rfl rfl ?_
  refine o_aloadN X16 hx rfl (hb hby own_d4_94) rfl rfl ?_
  have Fc18 : Fld Z h16 a0 "tidemark/log/RecordMarks$RunMarking" "largest" "J" (.long ul) := (Fld.other W16 (Fld.other W12 (Fld.other W7 pre3 (Or.inr (slot_ne (Or.inl (hw _ (List.mem_of_getElem? (i := 24) rfl))) (Or.inl (hw _ (List.mem_of_getElem? (i := 35) rfl))) (by decide) (t := .long) (t' := .int) (by decide) (by decide)))) (Or.inr (slot_ne (Or.inl (hw _ (List.mem_of_getElem? (i := 24) rfl))) (Or.inl (hw _ (List.mem_of_getElem? (i := 28) rfl))) (by decide) (t := .long) (t' := .long) (by decide) (by decide)))) (Or.inr (slot_ne (Or.inl (hw _ (List.mem_of_getElem? (i := 24) rfl))) (Or.inl (hw _ (List.mem_of_getElem? (i := 39) rfl))) (by decide) (t := .long) (t' := .long) (by decide) (by decide))))
  obtain ⟨T19, X19, e19, st19⟩ := getF X16 hx hZ hown (host := "") (Or.inl (hw _ (List.mem_of_getElem? (i := 23) rfl))) Via.refl e16 Fc18 (g := (mkF m 95 #[.val (.ref a0), .val (.int p1), .val (.long q2), .second, .val (.long q3), .second, .val (.long q4), .second] [(.ref a0), (.ref a0)])) rfl rfl (hb hby own_d4_95)
  refine og_of st19 ?_
  show OG p e below _ _ (T19.setTop (mkF m 98 #[.val (.ref a0), .val (.int p1), .val (.long q2), .second, .val (.long q3), .second, .val (.long q4), .second] [(.long ul), (.ref a0)]))
  refine o_lload X19 hx rfl (hb hby own_d4_98) rfl ?_
  obtain ⟨_, _, ⟨T20, L20, k20, n20⟩, -, X20, ⟨Lc20, hQ20, l20, y20, z20⟩, st20⟩ := Jvm.LawKit.callS X19 hx (y := (⟨"java/lang/Math", "max", "(JJ)J"⟩ : MethodName)) hown (mvT hZ (hw _ (List.mem_of_getElem? (i := 40) rfl))) (mvT hZ (hw _ (List.mem_of_getElem? (i := 41) rfl))) (mvT hZ (hw _ (List.mem_of_getElem? (i := 42) rfl))) (mvT hZ (hw _ (List.mem_of_getElem? (i := 43) rfl))) (by decide) (backOf (W := 1) (own_rm5 l Z aA hw [] ul q4 h16 n0 (Nat.le_trans (Nat.le_trans (Nat.le_trans Z0 (Keep.of_wr W7).1) (Keep.of_wr W12).1) (Keep.of_wr W16).1)) hZ (hw _ (List.mem_of_getElem? (i := 43) rfl)) (hw _ (List.mem_of_getElem? (i := 42) rfl)) (by decide) (by decide)) (g := (mkF m 100 #[.val (.ref a0), .val (.int p1), .val (.long q2), .second, .val (.long q3), .second, .val (.long q4), .second] [(.long q4), (.long ul), (.ref a0)])) rfl (by rw [hml]; rfl) (argsL := [(.long ul), (.long q4)]) (rest := [(.ref a0)]) (lenOf own_pd3 rfl) rfl (by show 2 * 0 + _ ≤ _; exact Nat.le_of_eq rfl) (hb hby own_d4_100) (fun _ _ => ⟨rfl, e19, Nat.le_of_ble_eq_true rfl, Nat.le_of_ble_eq_true rfl⟩)
  dsimp only [Pt.U, Pt.locs, Pt.cells, Pt.slots] at X20 l20 y20 z20 st20 hQ20
  subst l20 y20 z20
  obtain ⟨rfl, N20q, ee20⟩ := hQ20
  have N21 := Fr.app N16 N20q
  refine og_of st20 ?_
  show OG p e below _ _ (T20.setTop (mkF m 103 #[.val (.ref a0), .val (.int p1), .val (.long q2), .second, .val (.long q3), .second, .val (.long q4), .second] [(.long (own_f5 ul q4)), (.ref a0)]))
  have Fc22 : Exa Z h16 a0 "tidemark/log/RecordMarks$RunMarking" := (Exa.wr W16 Fc14)
  obtain ⟨T23, h23, X23, e23, W23, st23⟩ := putF X20 hx hZ hown (host := "") (Or.inl (hw _ (List.mem_of_getElem? (i := 23) rfl))) Via.refl ee20 Fc18 Fc22 (Or.inl (hw _ (List.mem_of_getElem? (i := 24) rfl))) (hw _ (List.mem_of_getElem? (i := 2) rfl)) (ty := .long) (by decide) rfl rfl (g := (mkF m 103 #[.val (.ref a0), .val (.int p1), .val (.long q2), .second, .val (.long q3), .second, .val (.long q4), .second] [(.long (own_f5 ul q4)), (.ref a0)])) rfl rfl (hb hby own_d4_103)
  have Fw23 := Fc18.same W23
  have N23 := Fr.snoc X23 N21 pre1
  have Kp24 : Keep h0 h23 [a0] := Kp17.wr W23 (Or.inl (List.mem_of_getElem? (i := 0) rfl))
  refine og_of st23 ?_
  show OG p e below _ _ (T23.setTop (mkF m 106 #[.val (.ref a0), .val (.int p1), .val (.long q2), .second, .val (.long q3), .second, .val (.long q4), .second] []))
  have Fc25 : Fld Z h23 a0 "tidemark/log/RecordMarks$RunMarking" "later" "Ltidemark/log/RecordMarks$LaterMarks;" (.ref lm) := (Fld.other W23 (Fld.other W16 (Fld.other W12 (Fld.other W7 pre2 (Or.inr (slot_ne (Or.inr (hw _ (List.mem_of_getElem? (i := 21) rfl))) (Or.inl (hw _ (List.mem_of_getElem? (i := 35) rfl))) (by decide) (t := (.object "tidemark/log/RecordMarks$LaterMarks")) (t' := .int) (by decide) (by decide)))) (Or.inr (slot_ne (Or.inr (hw _ (List.mem_of_getElem? (i := 21) rfl))) (Or.inl (hw _ (List.mem_of_getElem? (i := 28) rfl))) (by decide) (t := (.object "tidemark/log/RecordMarks$LaterMarks")) (t' := .long) (by decide) (by decide)))) (Or.inr (slot_ne (Or.inr (hw _ (List.mem_of_getElem? (i := 21) rfl))) (Or.inl (hw _ (List.mem_of_getElem? (i := 39) rfl))) (by decide) (t := (.object "tidemark/log/RecordMarks$LaterMarks")) (t' := .long) (by decide) (by decide)))) (Or.inr (slot_ne (Or.inr (hw _ (List.mem_of_getElem? (i := 21) rfl))) (Or.inl (hw _ (List.mem_of_getElem? (i := 24) rfl))) (by decide) (t := (.object "tidemark/log/RecordMarks$LaterMarks")) (t' := .long) (by decide) (by decide))))
  have Fc26 : Fld Z h23 a0 "tidemark/log/RecordMarks$RunMarking" "position" "J" (.long up) := (Fld.other W23 (Fld.other W16 (Fld.other W12 (Fld.other W7 pre4 (Or.inr (slot_ne (Or.inr (hw _ (List.mem_of_getElem? (i := 26) rfl))) (Or.inl (hw _ (List.mem_of_getElem? (i := 35) rfl))) (by decide) (t := .long) (t' := .int) (by decide) (by decide)))) (Or.inr (slot_ne (Or.inr (hw _ (List.mem_of_getElem? (i := 26) rfl))) (Or.inl (hw _ (List.mem_of_getElem? (i := 28) rfl))) (by decide) (t := .long) (t' := .long) (by decide) (by decide)))) (Or.inr (slot_ne (Or.inr (hw _ (List.mem_of_getElem? (i := 26) rfl))) (Or.inl (hw _ (List.mem_of_getElem? (i := 39) rfl))) (by decide) (t := .long) (t' := .long) (by decide) (by decide)))) (Or.inr (slot_ne (Or.inr (hw _ (List.mem_of_getElem? (i := 26) rfl))) (Or.inl (hw _ (List.mem_of_getElem? (i := 24) rfl))) (by decide) (t := .long) (t' := .long) (by decide) (by decide))))
  have Fc27 : Fld Z h23 a0 "tidemark/log/RecordMarks$RunMarking" "end" "J" (.long (ue + (p1.toInt64))) := (Fld.other W23 (Fld.other W16 Fw12 (Or.inr (slot_ne (Or.inl (hw _ (List.mem_of_getElem? (i := 28) rfl))) (Or.inl (hw _ (List.mem_of_getElem? (i := 39) rfl))) (by decide) (t := .long) (t' := .long) (by decide) (by decide)))) (Or.inr (slot_ne (Or.inl (hw _ (List.mem_of_getElem? (i := 28) rfl))) (Or.inl (hw _ (List.mem_of_getElem? (i := 24) rfl))) (by decide) (t := .long) (t' := .long) (by decide) (by decide))))
  have Fc28 : Fld Z h23 a0 "tidemark/log/RecordMarks$RunMarking" "batches" "I" (.int (3 : Int32)) := (Fld.other W23 (Fld.other W16 (Fld.other W12 Fw7 (Or.inr (slot_ne (Or.inl (hw _ (List.mem_of_getElem? (i := 35) rfl))) (Or.inl (hw _ (List.mem_of_getElem? (i := 28) rfl))) (by decide) (t := .int) (t' := .long) (by decide) (by decide)))) (Or.inr (slot_ne (Or.inl (hw _ (List.mem_of_getElem? (i := 35) rfl))) (Or.inl (hw _ (List.mem_of_getElem? (i := 39) rfl))) (by decide) (t := .int) (t' := .long) (by decide) (by decide)))) (Or.inr (slot_ne (Or.inl (hw _ (List.mem_of_getElem? (i := 35) rfl))) (Or.inl (hw _ (List.mem_of_getElem? (i := 24) rfl))) (by decide) (t := .int) (t' := .long) (by decide) (by decide))))
  have Fc29 : Fld Z h23 a0 "tidemark/log/RecordMarks$RunMarking" "baseOffset" "J" (.long ub) := (Fld.other W23 (Fld.other W16 (Fld.other W12 (Fld.other W7 pre7 (Or.inr (slot_ne (Or.inl (hw _ (List.mem_of_getElem? (i := 37) rfl))) (Or.inl (hw _ (List.mem_of_getElem? (i := 35) rfl))) (by decide) (t := .long) (t' := .int) (by decide) (by decide)))) (Or.inr (slot_ne (Or.inl (hw _ (List.mem_of_getElem? (i := 37) rfl))) (Or.inl (hw _ (List.mem_of_getElem? (i := 28) rfl))) (by decide) (t := .long) (t' := .long) (by decide) (by decide)))) (Or.inr (slot_ne (Or.inl (hw _ (List.mem_of_getElem? (i := 37) rfl))) (Or.inl (hw _ (List.mem_of_getElem? (i := 39) rfl))) (by decide) (t := .long) (t' := .long) (by decide) (by decide)))) (Or.inr (slot_ne (Or.inl (hw _ (List.mem_of_getElem? (i := 37) rfl))) (Or.inl (hw _ (List.mem_of_getElem? (i := 24) rfl))) (by decide) (t := .long) (t' := .long) (by decide) (by decide))))
  have Fc30 : Fld Z h23 a0 "tidemark/log/RecordMarks$RunMarking" "nextOffset" "J" (.long q3) := (Fld.other W23 Fw16 (Or.inr (slot_ne (Or.inl (hw _ (List.mem_of_getElem? (i := 39) rfl))) (Or.inl (hw _ (List.mem_of_getElem? (i := 24) rfl))) (by decide) (t := .long) (t' := .long) (by decide) (by decide))))
  have Fc31 : Fld Z h23 a0 "tidemark/log/RecordMarks$RunMarking" "lastStart" "I" (.int us) := (Fld.other W23 (Fld.other W16 (Fld.other W12 (Fld.other W7 pre9 (Or.inr (slot_ne (Or.inl (hw _ (List.mem_of_getElem? (i := 45) rfl))) (Or.inl (hw _ (List.mem_of_getElem? (i := 35) rfl))) (by decide) (t := .int) (t' := .int) (by decide) (by decide)))) (Or.inr (slot_ne (Or.inl (hw _ (List.mem_of_getElem? (i := 45) rfl))) (Or.inl (hw _ (List.mem_of_getElem? (i := 28) rfl))) (by decide) (t := .int) (t' := .long) (by decide) (by decide)))) (Or.inr (slot_ne (Or.inl (hw _ (List.mem_of_getElem? (i := 45) rfl))) (Or.inl (hw _ (List.mem_of_getElem? (i := 39) rfl))) (by decide) (t := .int) (t' := .long) (by decide) (by decide)))) (Or.inr (slot_ne (Or.inl (hw _ (List.mem_of_getElem? (i := 45) rfl))) (Or.inl (hw _ (List.mem_of_getElem? (i := 24) rfl))) (by decide) (t := .int) (t' := .long) (by decide) (by decide))))
  exact o_ret0 X23 hx Bd.returns (own_lv X23 hlk (by decide) (by decide)) (hb hby own_d4_106) ⟨rfl, N23, (by rw [e23]; exact Kp24), (by rw [e23]; exact Fc25), (by rw [e23]; exact Fw23), (by rw [e23]; exact Fc26), (by rw [e23]; exact Fc27), (by rw [e23]; exact Fc28), (by rw [e23]; exact Fc29), (by rw [e23]; exact Fc30), (by rw [e23]; exact Fc31)⟩
theorem own_efad2t0 (m : MethodId) (a0 : Addr) (p1 : Int32) (q2 : Int64) (q3 : Int64) (q4 : Int64) : entryFrame m #[(.ref a0), (.int p1), (.long q2), (.long q3), (.long q4)] 8 = mkF m 0 #[.val (.ref a0), .val (.int p1), .val (.long q2), .second, .val (.long q3), .second, .val (.long q4), .second] [] := by first | (simp [entryFrame, mkF, argsToLocals, Value.category]; done) | rfl
def own_Qad2t0 (Z : State) (a0 : Addr) (p1 : Int32) (q2 : Int64) (q3 : Int64) (q4 : Int64) (lm : Addr) (ul : Int64) (up : Int64) (ue : Int64) (ub : Int64) (un : Int64) (us : Int32) (ma : Addr) (k_ma : ClassId) (m0 : Int32) (m1 : Int32) (m2 : Int32) (m3 : Int32) (m4 : Int32) (m5 : Int32) (m6 : Int32) (m7 : Int32) (h0 : Heap) (n0 : Nat) (v : Option Value) (h : Heap) (L : List Loc) : Prop := v = none ∧ Fr n0 L ∧ Keep h0 h [a0, lm, ma] ∧ Fld Z h a0 "tidemark/log/RecordMarks$RunMarking" "later" "Ltidemark/log/RecordMarks$LaterMarks;" (.ref lm) ∧ Fld Z h a0 "tidemark/log/RecordMarks$RunMarking" "largest" "J" (.long (own_f5 ul q4)) ∧ Fld Z h a0 "tidemark/log/RecordMarks$RunMarking" "position" "J" (.long up) ∧ Fld Z h a0 "tidemark/log/RecordMarks$RunMarking" "end" "J" (.long (ue + (p1.toInt64))) ∧ Fld Z h a0 "tidemark/log/RecordMarks$RunMarking" "batches" "I" (.int (3 : Int32)) ∧ Fld Z h a0 "tidemark/log/RecordMarks$RunMarking" "baseOffset" "J" (.long ub) ∧ Fld Z h a0 "tidemark/log/RecordMarks$RunMarking" "nextOffset" "J" (.long q3) ∧ Fld Z h a0 "tidemark/log/RecordMarks$RunMarking" "lastStart" "I" (.int ((ue - up).toInt32)) ∧ Fld Z h lm "tidemark/log/RecordMarks$LaterMarks" "marks" "[I" (.ref ma) ∧ Fld Z h lm "tidemark/log/RecordMarks$LaterMarks" "count" "I" (.int (1 : Int32)) ∧ Arv Z h ma k_ma .int (12 : Int32) [(.int ((ue - up).toInt32)), (.int (((ul.toUInt64 >>> ((32 : Int32) &&& 0x3f).toInt64.toUInt64).toInt64).toInt32)), (.int (ul.toInt32)), (.int m3), (.int m4), (.int m5), (.int m6), (.int m7)] (.int (0 : Int32))
set_option maxRecDepth 65536 in
set_option maxHeartbeats 40000000 in
theorem own_rmad2t0 (l : Launch) (Z : State) (aA : Array Value) (hw : ∀ d ∈ tables_1, d.before aA Z = true) (ws : List Jvm.Cond) (a0 : Addr) (p1 : Int32) (q2 : Int64) (q3 : Int64) (q4 : Int64) (lm : Addr) (ul : Int64) (up : Int64) (ue : Int64) (ub : Int64) (un : Int64) (us : Int32) (ma : Addr) (k_ma : ClassId) (m0 : Int32) (m1 : Int32) (m2 : Int32) (m3 : Int32) (m4 : Int32) (m5 : Int32) (m6 : Int32) (m7 : Int32) (h0 : Heap) (n0 : Nat) (Z0 : n0 ≤ h0.size) (pre0 : Exa Z h0 a0 "tidemark/log/RecordMarks$RunMarking") (pre1 : n0 ≤ a0) (pre2 : Fld Z h0 a0 "tidemark/log/RecordMarks$RunMarking" "later" "Ltidemark/log/RecordMarks$LaterMarks;" (.ref lm)) (pre3 : Fld Z h0 a0 "tidemark/log/RecordMarks$RunMarking" "largest" "J" (.long ul)) (pre4 : Fld Z h0 a0 "tidemark/log/RecordMarks$RunMarking" "position" "J" (.long up)) (pre5 : Fld Z h0 a0 "tidemark/log/RecordMarks$RunMarking" "end" "J" (.long ue)) (pre6 : Fld Z h0 a0 "tidemark/log/RecordMarks$RunMarking" "batches" "I" (.int (2 : Int32))) (pre7 : Fld Z h0 a0 "tidemark/log/RecordMarks$RunMarking" "baseOffset" "J" (.long ub)) (pre8 : Fld Z h0 a0 "tidemark/log/RecordMarks$RunMarking" "nextOffset" "J" (.long un)) (pre9 : Fld Z h0 a0 "tidemark/log/RecordMarks$RunMarking" "lastStart" "I" (.int us)) (pre10 : Exa Z h0 lm "tidemark/log/RecordMarks$LaterMarks") (pre11 : Fld Z h0 lm "tidemark/log/RecordMarks$LaterMarks" "marks" "[I" (.ref ma)) (pre12 : Fld Z h0 lm "tidemark/log/RecordMarks$LaterMarks" "count" "I" (.int (0 : Int32))) (pre13 : Arv Z h0 ma k_ma .int (12 : Int32) [(.int m0), (.int m1), (.int m2), (.int m3), (.int m4), (.int m5), (.int m6), (.int m7)] (.int (0 : Int32))) (pre14 : n0 ≤ lm) (pre15 : n0 ≤ ma) (pre16 : a0 ≠ lm) (pre17 : a0 ≠ ma) (pre18 : lm ≠ ma) (hT : (1024 : Int64) < ((ue - up) - us.toInt64)) :
    MetFree l (⟨"tidemark/log/RecordMarks$RunMarking", "add", "(IJJJ)V"⟩ : MethodName) (head1 (Jvm.Cond.code (⟨"tidemark/log/RecordMarks$RunMarking", "add", "(IJJJ)V"⟩ : MethodName) prog_115_method_3_code 8 none :: ws) ({ frames := 1, cells := 0, slots := 0, locals := 16 } : Room)) (fun a U => a = #[(.ref a0), (.int p1), (.long q2), (.long q3), (.long q4)] ∧ Z.Warmed39 U.vm ∧ U.heap = h0) (fun _ _ _ _ _ => True) (fun _ U o U' => ∃ v L, o = .returned v ∧ own_Qad2t0 Z a0 p1 q2 q3 q4 lm ul up ue ub un us ma k_ma m0 m1 m2 m3 m4 m5 m6 m7 h0 n0 v U'.heap L ∧ FrameEnd U o U' L ({ frames := 1, cells := 0, slots := 0, locals := 16 } : Room).cells ({ frames := 1, cells := 0, slots := 0, locals := 16 } : Room).slots) := by
  refine MetFree.of_bodySF (plainFor_of_name own_pn113) hisR ?_
  intro p e s m args below meth c s₁ Bd hml0 hP hK
  obtain ⟨rfl, hZ, hh⟩ := hP
  have hx := Bd.exec
  have hby := Bd.bytes
  have hlk : meth.locks = false := Bd.notSynchronized
  have hml : c.maxLocals = 8 := hml0
  have hown : s.vm.findClass "tidemark/log/RecordMarks$RunMarking" = some m.cls := findClass_of_methodNamed Bd.named
  have hnm := (name_of_methodNamed Bd.named Bd.method).1
  have X0 : Stand p l e ({ frames := 1, cells := 0, slots := 0, locals := 16 } : Room) s m #[(.ref a0), (.int p1), (.long q2), (.long q3), (.long q4)] below meth c s₁ [] 0 0 := Stand.of_body Bd
  have e0 : s₁.heap = h0 := by rw [← hh, Bd.state]; rfl
  have N0 := Fr.nil n0
  show OG p e below (FE s ({ frames := 1, cells := 0, slots := 0, locals := 16 } : Room).cells ({ frames := 1, cells := 0, slots := 0, locals := 16 } : Room).slots) (own_Qad2t0 Z a0 p1 q2 q3 q4 lm ul up ue ub un us ma k_ma m0 m1 m2 m3 m4 m5 m6 m7 h0 n0) (s₁.setTop (entryFrame m #[(.ref a0), (.int p1), (.long q2), (.long q3), (.long q4)] 8))
  refine og_of (fun _ k => castTop (own_efad2t0 m a0 p1 q2 q3 q4) k) ?_
  refine o_aloadN X0 hx rfl (hb hby own_d4_0) rfl rfl ?_
  obtain ⟨T1, X1, e1, st1⟩ := getF X0 hx hZ hown (host := "") (Or.inl (hw _ (List.mem_of_getElem? (i := 34) rfl))) Via.refl e0 pre6 (g := (mkF m 1 #[.val (.ref a0), .val (.int p1), .val (.long q2), .second, .val (.long q3), .second, .val (.long q4), .second] [(.ref a0)])) rfl rfl (hb hby own_d4_1)
  refine og_of st1 ?_
  show OG p e below _ _ (T1.setTop (mkF m 4 #[.val (.ref a0), .val (.int p1), .val (.long q2), .second, .val (.long q3), .second, .val (.long q4), .second] [(.int (2 : Int32))]))
  refine o_ifY (pc' := 15) X1 hx (hb hby own_d4_4) ((if0 _ _).trans (feq (by decide : ¬ ((2 : Int32) = (0 : Int32)))).2) (by decide) (by decide) ?_
  refine o_aloadN X1 hx rfl (hb hby own_d4_15) rfl rfl ?_
  obtain ⟨T2, X2, e2, st2⟩ := getF X1 hx hZ hown (host := "") (Or.inl (hw _ (List.mem_of_getElem? (i := 27) rfl))) Via.refl e1 pre5 (g := (mkF m 16 #[.val (.ref a0), .val (.int p1), .val (.long q2), .second, .val (.long q3), .second, .val (.long q4), .second] [(.ref a0)])) rfl rfl (hb hby own_d4_16)
  refine og_of st2 ?_
  show OG p e below _ _ (T2.setTop (mkF m 19 #[.val (.ref a0), .val (.int p1), .val (.long q2), .second, .val (.long q3), .second, .val (.long q4), .second] [(.long ue)]))
  refine o_aloadN X2 hx rfl (hb hby own_d4_19) rfl rfl ?_
  obtain ⟨T3, X3, e3, st3⟩ := getF X2 hx hZ hown (host := "") (Or.inl (hw _ (List.mem_of_getElem? (i := 25) rfl))) Via.refl e2 pre4 (g := (mkF m 20 #[.val (.ref a0), .val (.int p1), .val (.long q2), .second, .val (.long q3), .second, .val (.long q4), .second] [(.ref a0), (.long ue)])) rfl rfl (hb hby own_d4_20)
  refine og_of st3 ?_
  show OG p e below _ _ (T3.setTop (mkF m 23 #[.val (.ref a0), .val (.int p1), .val (.long q2), .second, .val (.long q3), .second, .val (.long q4), .second] [(.long up), (.long ue)]))
  refine o_lsub (z := (ue - up)) X3 hx rfl (hb hby own_d4_23) rfl ?_
  refine o_aloadN X3 hx rfl (hb hby own_d4_24) rfl rfl ?_
  obtain ⟨T4, X4, e4, st4⟩ := getF X3 hx hZ hown (host := "") (Or.inl (hw _ (List.mem_of_getElem? (i := 44) rfl))) Via.refl e3 pre9 (g := (mkF m 25 #[.val (.ref a0), .val (.int p1), .val (.long q2), .second, .val (.long q3), .second, .val (.long q4), .second] [(.ref a0), (.long (ue - up))])) rfl rfl (hb hby own_d4_25)
  refine og_of st4 ?_
  show OG p e below _ _ (T4.setTop (mkF m 28 #[.val (.ref a0), .val (.int p1), .val (.long q2), .second, .val (.long q3), .second, .val (.long q4), .second] [(.int us), (.long (ue - up))]))
  refine o_i2l (z := (us.toInt64)) X4 hx rfl (hb hby own_d4_28) rfl ?_
  refine o_lsub (z := ((ue - up) - (us.toInt64))) X4 hx rfl (hb hby own_d4_29) rfl ?_
  refine o_ldc2L X4 hx rfl (hb hby own_d4_30) hZ hown (hw _ (List.mem_of_getElem? (i := 46) rfl)) ?_
  refine o_lcmp X4 hx rfl (hb hby own_d4_33) ?_
  have hk5 : (1024 : Int64) < ((ue - up) - (us.toInt64)) := hT
  refine o_ifN (pc' := 37) X4 hx rfl (hb hby own_d4_34) (lcY_gt hk5).2 ?_
  refine o_aloadN X4 hx rfl (hb hby own_d4_37) rfl rfl ?_
  refine o_aloadN X4 hx rfl (hb hby own_d4_38) rfl rfl ?_
  obtain ⟨T6, X6, e6, st6⟩ := getF X4 hx hZ hown (host := "") (Or.inl (hw _ (List.mem_of_getElem? (i := 27) rfl))) Via.refl e4 pre5 (g := (mkF m 39 #[.val (.ref a0), .val (.int p1), .val (.long q2), .second, .val (.long q3), .second, .val (.long q4), .second] [(.ref a0), (.ref a0)])) rfl rfl (hb hby own_d4_39)
  refine og_of st6 ?_
  show OG p e below _ _ (T6.setTop (mkF m 42 #[.val (.ref a0), .val (.int p1), .val (.long q2), .second, .val (.long q3), .second, .val (.long q4), .second] [(.long ue), (.ref a0)]))
  refine o_aloadN X6 hx rfl (hb hby own_d4_42) rfl rfl ?_
  obtain ⟨T7, X7, e7, st7⟩ := getF X6 hx hZ hown (host := "") (Or.inl (hw _ (List.mem_of_getElem? (i := 25) rfl))) Via.refl e6 pre4 (g := (mkF m 43 #[.val (.ref a0), .val (.int p1), .val (.long q2), .second, .val (.long q3), .second, .val (.long q4), .second] [(.ref a0), (.long ue), (.ref a0)])) rfl rfl (hb hby own_d4_43)
  refine og_of st7 ?_
  show OG p e below _ _ (T7.setTop (mkF m 46 #[.val (.ref a0), .val (.int p1), .val (.long q2), .second, .val (.long q3), .second, .val (.long q4), .second] [(.long up), (.long ue), (.ref a0)]))
  refine o_lsub (z := (ue - up)) X7 hx rfl (hb hby own_d4_46) rfl ?_
  refine o_l2i (z := ((ue - up).toInt32)) X7 hx rfl (hb hby own_d4_47) rfl ?_
  obtain ⟨T8, h8, X8, e8, W8, st8⟩ := putF X7 hx hZ hown (host := "") (Or.inl (hw _ (List.mem_of_getElem? (i := 44) rfl))) Via.refl e7 pre9 pre0 (Or.inl (hw _ (List.mem_of_getElem? (i := 45) rfl))) (hw _ (List.mem_of_getElem? (i := 2) rfl)) (ty := .int) (by decide) rfl rfl (g := (mkF m 48 #[.val (.ref a0), .val (.int p1), .val (.long q2), .second, .val (.long q3), .second, .val (.long q4), .second] [(.int ((ue - up).toInt32)), (.ref a0)])) rfl rfl (hb hby own_d4_48)
  have Fw8 := pre9.same W8
  have N8 := Fr.snoc X8 N0 pre1
  have Kp9 : Keep h0 h8 [a0, lm, ma] := (Keep.refl h0 [a0, lm, ma]).wr W8 (Or.inl (List.mem_of_getElem? (i := 0) rfl))
  refine og_of st8 ?_
  show OG p e below _ _ (T8.setTop (mkF m 51 #[.val (.ref a0), .val (.int p1), .val (.long q2), .second, .val (.long q3), .second, .val (.long q4), .second] []))
  refine o_aloadN X8 hx rfl (hb hby own_d4_51) rfl rfl ?_
  have Fc10 : Fld Z h8 a0 "tidemark/log/RecordMarks$RunMarking" "later" "Ltidemark/log/RecordMarks$LaterMarks;" (.ref lm) := (Fld.other W8 pre2 (Or.inr (slot_ne (Or.inr (hw _ (List.mem_of_getElem? (i := 21) rfl))) (Or.inl (hw _ (List.mem_of_getElem? (i := 45) rfl))) (by decide) (t := (.object "tidemark/log/RecordMarks$LaterMarks")) (t' := .int) (by decide) (by decide))))
  obtain ⟨T11, X11, e11, st11⟩ := getF X8 hx hZ hown (host := "") (Or.inl (hw _ (List.mem_of_getElem? (i := 20) rfl))) Via.refl e8 Fc10 (g := (mkF m 52 #[.val (.ref a0), .val (.int p1), .val (.long q2), .second, .val (.long q3), .second, .val (.long q4), .second] [(.ref a0)])) rfl rfl (hb hby own_d4_52)
  refine og_of st11 ?_
  show OG p e below _ _ (T11.setTop (mkF m 55 #[.val (.ref a0), .val (.int p1), .val (.long q2), .second, .val (.long q3), .second, .val (.long q4), .second] [(.ref lm)]))
  refine o_aloadN X11 hx rfl (hb hby own_d4_55) rfl rfl ?_
  obtain ⟨T12, X12, e12, st12⟩ := getF X11 hx hZ hown (host := "") (Or.inl (hw _ (List.mem_of_getElem? (i := 44) rfl))) Via.refl e11 Fw8 (g := (mkF m 56 #[.val (.ref a0), .val (.int p1), .val (.long q2), .second, .val (.long q3), .second, .val (.long q4), .second] [(.ref a0), (.ref lm)])) rfl rfl (hb hby own_d4_56)
  refine og_of st12 ?_
  show OG p e below _ _ (T12.setTop (mkF m 59 #[.val (.ref a0), .val (.int p1), .val (.long q2), .second, .val (.long q3), .second, .val (.long q4), .second] [(.int ((ue - up).toInt32)), (.ref lm)]))
  refine o_aloadN X12 hx rfl (hb hby own_d4_59) rfl rfl ?_
  have Fc13 : Fld Z h8 a0 "tidemark/log/RecordMarks$RunMarking" "largest" "J" (.long ul) := (Fld.other W8 pre3 (Or.inr (slot_ne (Or.inl (hw _ (List.mem_of_getElem? (i := 24) rfl))) (Or.inl (hw _ (List.mem_of_getElem? (i := 45) rfl))) (by decide) (t := .long) (t' := .int) (by decide) (by decide))))
  obtain ⟨T14, X14, e14, st14⟩ := getF X12 hx hZ hown (host := "") (Or.inl (hw _ (List.mem_of_getElem? (i := 23) rfl))) Via.refl e12 Fc13 (g := (mkF m 60 #[.val (.ref a0), .val (.int p1), .val (.long q2), .second, .val (.long q3), .second, .val (.long q4), .second] [(.ref a0), (.int ((ue - up).toInt32)), (.ref lm)])) rfl rfl (hb hby own_d4_60)
  refine og_of st14 ?_
  show OG p e below _ _ (T14.setTop (mkF m 63 #[.val (.ref a0), .val (.int p1), .val (.long q2), .second, .val (.long q3), .second, .val (.long q4), .second] [(.long ul), (.int ((ue - up).toInt32)), (.ref lm)]))
  have Fc16 : Exa Z h8 lm "tidemark/log/RecordMarks$LaterMarks" := (Exa.wr W8 pre10)
  have Fc17 : Fld Z h8 lm "tidemark/log/RecordMarks$LaterMarks" "count" "I" (.int (0 : Int32)) := (Fld.other W8 pre12 (Or.inl (Ne.symm pre16)))
  have Fc18 : Fld Z h8 lm "tidemark/log/RecordMarks$LaterMarks" "marks" "[I" (.ref ma) := (Fld.other W8 pre11 (Or.inl (Ne.symm pre16)))
  have Fc19 : Arv Z h8 ma k_ma .int (12 : Int32) [(.int m0), (.int m1), (.int m2), (.int m3), (.int m4), (.int m5), (.int m6), (.int m7)] (.int (0 : Int32)) := (pre13.other W8 (Ne.symm pre17))
  obtain ⟨cq15, kq15, q15a, q15b, q15c⟩ := isOf hZ e14 Fc16
  obtain ⟨_, _, ⟨T15, L15, k15, n15⟩, -, X15, ⟨Lc15, hQ15, l15, y15, z15⟩, st15⟩ := X14.virtualBack hx (y := (⟨"tidemark/log/RecordMarks$LaterMarks", "add", "(IJ)V"⟩ : MethodName)) (z := (⟨"tidemark/log/RecordMarks$LaterMarks", "add", "(IJ)V"⟩ : MethodName)) hown (mvT hZ (hw _ (List.mem_of_getElem? (i := 112) rfl))) (mvT hZ (hw _ (List.mem_of_getElem? (i := 113) rfl))) (notFace_of_selects (args := #[]) (mvT hZ (hw _ (List.mem_of_getElem? (i := 115) rfl)))) (mvT hZ (hw _ (List.mem_of_getElem? (i := 115) rfl))) (mvT hZ (hw _ (List.mem_of_getElem? (i := 114) rfl))) (by decide) (backOf (W := 0) (own_rmla0 l Z aA hw [] lm ((ue - up).toInt32) ul ma k_ma m0 m1 m2 m3 m4 m5 m6 m7 h8 n0 (Nat.le_trans Z0 (Keep.of_wr W8).1) Fc16 pre14 Fc17 Fc18 Fc19 pre15 pre18) hZ (hw _ (List.mem_of_getElem? (i := 116) rfl)) (hw _ (List.mem_of_getElem? (i := 12) rfl)) (by decide) (by decide)) q15a q15c (g := (mkF m 63 #[.val (.ref a0), .val (.int p1), .val (.long q2), .second, .val (.long q3), .second, .val (.long q4), .second] [(.long ul), (.int ((ue - up).toInt32)), (.ref lm)])) rfl (by rw [hml]; rfl) (Steps.refl _) (argsL := [(.int ((ue - up).toInt32)), (.long ul)]) (rest := []) (lenOf own_pd4 rfl) rfl (by show 2 * 0 + _ ≤ _; exact Nat.le_of_eq rfl) (hb hby own_d4_63) (fun _ _ => ⟨rfl, e14, Nat.le_of_ble_eq_true rfl, Nat.le_of_ble_eq_true rfl⟩)
  dsimp only [Pt.U, Pt.locs, Pt.cells, Pt.slots] at X15 l15 y15 z15 st15 hQ15
  subst l15 y15 z15
  obtain ⟨rfl, N15q, K15, f15_0, f15_1, f15_2⟩ := hQ15
  have N20 := Fr.app N8 N15q
  have Kp21 : Keep h0 T15.heap [a0, lm, ma] := Kp9.trans K15 (allS (Or.inl (List.mem_of_getElem? (i := 1) rfl)) (allS (Or.inl (List.mem_of_getElem? (i := 2) rfl)) all0))
  refine og_tr st15 ?_
  show OG p e below _ _ (T15.setTop (mkF m 66 #[.val (.ref a0), .val (.int p1), .val (.long q2), .second, .val (.long q3), .second, .val (.long q4), .second] []))
  refine o_aloadN X15 hx rfl (hb hby own_d4_66) rfl rfl ?_
  refine o_dup X15 hx rfl (hb hby own_d4_67) rfl ?_
  have Fc22 : Fld Z T15.heap a0 "tidemark/log/RecordMarks$RunMarking" "batches" "I" (.int (2 : Int32)) := ((Fld.other W8 pre6 (Or.inr (slot_ne (Or.inl (hw _ (List.mem_of_getElem? (i := 35) rfl))) (Or.inl (hw _ (List.mem_of_getElem? (i := 45) rfl))) (by decide) (t := .int) (t' := .int) (by decide) (by decide)))).keep K15 (ninS pre16 (ninS pre17 nin0)))
  obtain ⟨T23, X23, e23, st23⟩ := getF X15 hx hZ hown (host := "") (Or.inl (hw _ (List.mem_of_getElem? (i := 34) rfl))) Via.refl rfl Fc22 (g := (mkF m 68 #[.val (.ref a0), .val (.int p1), .val (.long q2), .second, .val (.long q3), .second, .val (.long q4), .second] [(.ref a0), (.ref a0)])) rfl rfl (hb hby own_d4_68)
  refine og_of st23 ?_
  show OG p e below _ _ (T23.setTop (mkF m 71 #[.val (.ref a0), .val (.int p1), .val (.long q2), .second, .val (.long q3), .second, .val (.long q4), .second] [(.int (2 : Int32)), (.ref a0)]))
  refine o_iconst (z := (1 : Int32)) X23 hx rfl (hb hby own_d4_71) (by decide) ?_
  refine o_iadd (z := (3 : Int32)) X23 hx rfl (hb hby own_d4_72) (by decide) ?_
  have Fc24 : Exa Z T15.heap a0 "tidemark/log/RecordMarks$RunMarking" := ((Exa.wr W8 pre0).keep K15)
  obtain ⟨T25, h25, X25, e25, W25, st25⟩ := putF X23 hx hZ hown (host := "") (Or.inl (hw _ (List.mem_of_getElem? (i := 34) rfl))) Via.refl e23 Fc22 Fc24 (Or.inl (hw _ (List.mem_of_getElem? (i := 35) rfl))) (hw _ (List.mem_of_getElem? (i := 2) rfl)) (ty := .int) (by decide) rfl rfl (g := (mkF m 73 #[.val (.ref a0), .val (.int p1), .val (.long q2), .second, .val (.long q3), .second, .val (.long q4), .second] [(.int (3 : Int32)), (.ref a0)])) rfl rfl (hb hby own_d4_73)
  have Fw25 := Fc22.same W25
  have N25 := Fr.snoc X25 N20 pre1
  have Kp26 : Keep h0 h25 [a0, lm, ma] := Kp21.wr W25 (Or.inl (List.mem_of_getElem? (i := 0) rfl))
  refine og_of st25 ?_
  show OG p e below _ _ (T25.setTop (mkF m 76 #[.val (.ref a0), .val (.int p1), .val (.long q2), .second, .val (.long q3), .second, .val (.long q4), .second] []))
  refine o_aloadN X25 hx rfl (hb hby own_d4_76) rfl rfl ?_
  refine o_dup X25 hx rfl (hb hby own_d4_77) rfl ?_
  have Fc27 : Fld Z h25 a0 "tidemark/log/RecordMarks$RunMarking" "end" "J" (.long ue) := (Fld.other W25 ((Fld.other W8 pre5 (Or.inr (slot_ne (Or.inl (hw _ (List.mem_of_getElem? (i := 28) rfl))) (Or.inl (hw _ (List.mem_of_getElem? (i := 45) rfl))) (by decide) (t := .long) (t' := .int) (by decide) (by decide)))).keep K15 (ninS pre16 (ninS pre17 nin0))) (Or.inr (slot_ne (Or.inl (hw _ (List.mem_of_getElem? (i := 28) rfl))) (Or.inl (hw _ (List.mem_of_getElem? (i := 35) rfl))) (by decide) (t := .long) (t' := .int) (by decide) (by decide))))
  obtain ⟨T28, X28, e28, st28⟩ := getF X25 hx hZ hown (host := "") (Or.inl (hw _ (List.mem_of_getElem? (i := 27) rfl))) Via.refl e25 Fc27 (g := (mkF m 78 #[.val (.ref a0), .val (.int p1), .val (.long q2), .second, .val (.long q3), .second, .val (.long q4), .second] [(.ref a0), (.ref a0)])) rfl rfl (hb hby own_d4_78)
  refine og_of st28 ?_
  show OG p e below _ _ (T28.setTop (mkF m 81 #[.val (.ref a0), .val (.int p1), .val (.long q2), .second, .val (.long q3), .second, .val (.long q4), .second] [(.long ue), (.ref a0)]))
  refine o_iloadN X28 hx rfl (hb hby own_d4_81) rfl ?_
  refine o_i2l (z := (p1.toInt64)) X28 hx rfl (hb hby own_d4_82) rfl ?_
  refine o_ladd (z := (ue + (p1.toInt64))) X28 hx rfl (hb hby own_d4_83) rfl ?_
  have Fc29 : Exa Z h25 a0 "tidemark/log/RecordMarks$RunMarking" := (Exa.wr W25 Fc24)
  obtain ⟨T30, h30, X30, e30, W30, st30⟩ := putF X28 hx hZ hown (host := "") (Or.inl (hw _ (List.mem_of_getElem? (i := 27) rfl))) Via.refl e28 Fc27 Fc29 (Or.inl (hw _ (List.mem_of_getElem? (i := 28) rfl))) (hw _ (List.mem_of_getElem? (i := 2) rfl)) (ty := .long) (by decide) rfl rfl (g := (mkF m 84 #[.val (.ref a0), .val (.int p1), .val (.long q2), .second, .val (.long q3), .second, .val (.long q4), .second] [(.long (ue + (p1.toInt64))), (.ref a0)])) rfl rfl (hb hby own_d4_84)
  have Fw30 := Fc27.same W30
  have N30 := Fr.snoc X30 N25 pre1
  have Kp31 : Keep h0 h30 [a0, lm, ma] := Kp26.wr W30 (Or.inl (List.mem_of_getElem? (i := 0) rfl))
  refine og_of st30 ?_
  show OG p e below _ _ (T30.setTop (mkF m 87 #[.val (.ref a0), .val (.int p1), .val (.long q2), .second, .val (.long q3), .second, .val (.long q4), .second] []))
  refine o_aloadN X30 hx rfl (hb hby own_d4_87) rfl rfl ?_
  refine o_lload X30 hx rfl (hb hby own_d4_88) rfl ?_
  have Fc32 : Exa Z h30 a0 "tidemark/log/RecordMarks$RunMarking" := (Exa.wr W30 Fc29)
  have Fc33 : Fld Z h30 a0 "tidemark/log/RecordMarks$RunMarking" "nextOffset" "J" (.long un) := (Fld.other W30 (Fld.other W25 ((Fld.other W8 pre8 (Or.inr (slot_ne (Or.inl (hw _ (List.mem_of_getElem? (i := 39) rfl))) (Or.inl (hw _ (List.mem_of_getElem? (i := 45) rfl))) (by decide) (t := .long) (t' := .int) (by decide) (by decide)))).keep K15 (ninS pre16 (ninS pre17 nin0))) (Or.inr (slot_ne (Or.inl (hw _ (List.mem_of_getElem? (i := 39) rfl))) (Or.inl (hw _ (List.mem_of_getElem? (i := 35) rfl))) (by decide) (t := .long) (t' := .int) (by decide) (by decide)))) (Or.inr (slot_ne (Or.inl (hw _ (List.mem_of_getElem? (i := 39) rfl))) (Or.inl (hw _ (List.mem_of_getElem? (i := 28) rfl))) (by decide) (t := .long) (t' := .long) (by decide) (by decide))))
  obtain ⟨T34, h34, X34, e34, W34, st34⟩ := putF X30 hx hZ hown (host := "") (Or.inl (hw _ (List.mem_of_getElem? (i := 38) rfl))) Via.refl e30 Fc33 Fc32 (Or.inl (hw _ (List.mem_of_getElem? (i := 39) rfl))) (hw _ (List.mem_of_getElem? (i := 2) rfl)) (ty := .long) (by decide) rfl rfl (g := (mkF m 90 #[.val (.ref a0), .val (.int p1), .val (.long q2), .second, .val (.long q3), .second, .val (.long q4), .second] [(.long q3), (.ref a0)])) rfl rfl (hb hby own_d4_90)
  have Fw34 := Fc33.same W34
  have N34 := Fr.snoc X34 N30 pre1
  have Kp35 : Keep h0 h34 [a0, lm, ma] := Kp31.wr W34 (Or.inl (List.mem_of_getElem? (i := 0) rfl))
  refine og_of st34 ?_
  show OG p e below _ _ (T34.setTop (mkF m 93 #[.val (.ref a0), .val (.int p1), .val (.long q2), .second, .val (.long q3), .second, .val (.long q4), .second] []))
  refine o_aloadN X34 hx rfl (hb hby own_d4_93) rfl rfl ?_
  refine o_aloadN X34 hx rfl (hb hby own_d4_94) rfl rfl ?_
  have Fc36 : Fld Z h34 a0 "tidemark/log/RecordMarks$RunMarking" "largest" "J" (.long ul) := (Fld.other W34 (Fld.other W30 (Fld.other W25 (Fc13.keep K15 (ninS pre16 (ninS pre17 nin0))) (Or.inr (slot_ne (Or.inl (hw _ (List.mem_of_getElem? (i := 24) rfl))) (Or.inl (hw _ (List.mem_of_getElem? (i := 35) rfl))) (by decide) (t := .long) (t' := .int) (by decide) (by decide)))) (Or.inr (slot_ne (Or.inl (hw _ (List.mem_of_getElem? (i := 24) rfl))) (Or.inl (hw _ (List.mem_of_getElem? (i := 28) rfl))) (by decide) (t := .long) (t' := .long) (by decide) (by decide)))) (Or.inr (slot_ne (Or.inl (hw _ (List.mem_of_getElem? (i := 24) rfl))) (Or.inl (hw _ (List.mem_of_getElem? (i := 39) rfl))) (by decide) (t := .long) (t' := .long) (by decide) (by decide))))
  obtain ⟨T37, X37, e37, st37⟩ := getF X34 hx hZ hown (host := "") (Or.inl (hw _ (List.mem_of_getElem? (i := 23) rfl))) Via.refl e34 Fc36 (g := (mkF m 95 #[.val (.ref a0), .val (.int p1), .val (.long q2), .second, .val (.long q3), .second, .val (.long q4), .second] [(.ref a0), (.ref a0)])) rfl rfl (hb hby own_d4_95)
  refine og_of st37 ?_
  show OG p e below _ _ (T37.setTop (mkF m 98 #[.val (.ref a0), .val (.int p1), .val (.long q2), .second, .val (.long q3), .second, .val (.long q4), .second] [(.long ul), (.ref a0)]))
  refine o_lload X37 hx rfl (hb hby own_d4_98) rfl ?_
  obtain ⟨_, _, ⟨T38, L38, k38, n38⟩, -, X38, ⟨Lc38, hQ38, l38, y38, z38⟩, st38⟩ := Jvm.LawKit.callS X37 hx (y := (⟨"java/lang/Math", "max", "(JJ)J"⟩ : MethodName)) hown (mvT hZ (hw _ (List.mem_of_getElem? (i := 40) rfl))) (mvT hZ (hw _ (List.mem_of_getElem? (i := 41) rfl))) (mvT hZ (hw _ (List.mem_of_getElem? (i := 42) rfl))) (mvT hZ (hw _ (List.mem_of_getElem? (i := 43) rfl))) (by decide) (backOf (W := 1) (own_rm5 l Z aA hw [] ul q4 h34 n0 (Nat.le_trans (Nat.le_trans (Nat.le_trans (Nat.le_trans (Nat.le_trans Z0 (Keep.of_wr W8).1) K15.1) (Keep.of_wr W25).1) (Keep.of_wr W30).1) (Keep.of_wr W34).1)) hZ (hw _ (List.mem_of_getElem? (i := 43) rfl)) (hw _ (List.mem_of_getElem? (i := 42) rfl)) (by decide) (by decide)) (g := (mkF m 100 #[.val (.ref a0), .val (.int p1), .val (.long q2), .second, .val (.long q3), .second, .val (.long q4), .second] [(.long q4), (.long ul), (.ref a0)])) rfl (by rw [hml]; rfl) (argsL := [(.long ul), (.long q4)]) (rest := [(.ref a0)]) (lenOf own_pd3 rfl) rfl (by show 2 * 0 + _ ≤ _; exact Nat.le_of_eq rfl) (hb hby own_d4_100) (fun _ _ => ⟨rfl, e37, Nat.le_of_ble_eq_true rfl, Nat.le_of_ble_eq_true rfl⟩)
  dsimp only [Pt.U, Pt.locs, Pt.cells, Pt.slots] at X38 l38 y38 z38 st38 hQ38
  subst l38 y38 z38
  obtain ⟨rfl, N38q, ee38⟩ := hQ38
  have N39 := Fr.app N34 N38q
  refine og_of st38 ?_
  show OG p e below _ _ (T38.setTop (mkF m 103 #[.val (.ref a0), .val (.int p1), .val (.long q2), .second, .val (.long q3), .second, .val (.long q4), .second] [(.long (own_f5 ul q4)), (.ref a0)]))
  have Fc40 : Exa Z h34 a0 "tidemark/log/RecordMarks$RunMarking" := (Exa.wr W34 Fc32)
  obtain ⟨T41, h41, X41, e41, W41, st41⟩ := putF X38 hx hZ hown (host := "") (Or.inl (hw _ (List.mem_of_getElem? (i := 23) rfl))) Via.refl ee38 Fc36 Fc40 (Or.inl (hw _ (List.mem_of_getElem? (i := 24) rfl))) (hw _ (List.mem_of_getElem? (i := 2) rfl)) (ty := .long) (by decide) rfl rfl (g := (mkF m 103 #[.val (.ref a0), .val (.int p1), .val (.long q2), .second, .val (.long q3), .second, .val (.long q4), .second] [(.long (own_f5 ul q4)), (.ref a0)])) rfl rfl (hb hby own_d4_103)
  have Fw41 := Fc36.same W41
  have N41 := Fr.snoc X41 N39 pre1
  have Kp42 : Keep h0 h41 [a0, lm, ma] := Kp35.wr W41 (Or.inl (List.mem_of_getElem? (i := 0) rfl))
  refine og_of st41 ?_
  show OG p e below _ _ (T41.setTop (mkF m 106 #[.val (.ref a0), .val (.int p1), .val (.long q2), .second, .val (.long q3), .second, .val (.long q4), .second] []))
  have Fc43 : Fld Z h41 a0 "tidemark/log/RecordMarks$RunMarking" "later" "Ltidemark/log/RecordMarks$LaterMarks;" (.ref lm) := (Fld.other W41 (Fld.other W34 (Fld.other W30 (Fld.other W25 (Fc10.keep K15 (ninS pre16 (ninS pre17 nin0))) (Or.inr (slot_ne (Or.inr (hw _ (List.mem_of_getElem? (i := 21) rfl))) (Or.inl (hw _ (List.mem_of_getElem? (i := 35) rfl))) (by decide) (t := (.object "tidemark/log/RecordMarks$LaterMarks")) (t' := .int) (by decide) (by decide)))) (Or.inr (slot_ne (Or.inr (hw _ (List.mem_of_getElem? (i := 21) rfl))) (Or.inl (hw _ (List.mem_of_getElem? (i := 28) rfl))) (by decide) (t := (.object "tidemark/log/RecordMarks$LaterMarks")) (t' := .long) (by decide) (by decide)))) (Or.inr (slot_ne (Or.inr (hw _ (List.mem_of_getElem? (i := 21) rfl))) (Or.inl (hw _ (List.mem_of_getElem? (i := 39) rfl))) (by decide) (t := (.object "tidemark/log/RecordMarks$LaterMarks")) (t' := .long) (by decide) (by decide)))) (Or.inr (slot_ne (Or.inr (hw _ (List.mem_of_getElem? (i := 21) rfl))) (Or.inl (hw _ (List.mem_of_getElem? (i := 24) rfl))) (by decide) (t := (.object "tidemark/log/RecordMarks$LaterMarks")) (t' := .long) (by decide) (by decide))))
  have Fc44 : Fld Z h41 a0 "tidemark/log/RecordMarks$RunMarking" "position" "J" (.long up) := (Fld.other W41 (Fld.other W34 (Fld.other W30 (Fld.other W25 ((Fld.other W8 pre4 (Or.inr (slot_ne (Or.inr (hw _ (List.mem_of_getElem? (i := 26) rfl))) (Or.inl (hw _ (List.mem_of_getElem? (i := 45) rfl))) (by decide) (t := .long) (t' := .int) (by decide) (by decide)))).keep K15 (ninS pre16 (ninS pre17 nin0))) (Or.inr (slot_ne (Or.inr (hw _ (List.mem_of_getElem? (i := 26) rfl))) (Or.inl (hw _ (List.mem_of_getElem? (i := 35) rfl))) (by decide) (t := .long) (t' := .int) (by decide) (by decide)))) (Or.inr (slot_ne (Or.inr (hw _ (List.mem_of_getElem? (i := 26) rfl))) (Or.inl (hw _ (List.mem_of_getElem? (i := 28) rfl))) (by decide) (t := .long) (t' := .long) (by decide) (by decide)))) (Or.inr (slot_ne (Or.inr (hw _ (List.mem_of_getElem? (i := 26) rfl))) (Or.inl (hw _ (List.mem_of_getElem? (i := 39) rfl))) (by decide) (t := .long) (t' := .long) (by decide) (by decide)))) (Or.inr (slot_ne (Or.inr (hw _ (List.mem_of_getElem? (i := 26) rfl))) (Or.inl (hw _ (List.mem_of_getElem? (i := 24) rfl))) (by decide) (t := .long) (t' := .long) (by decide) (by decide))))
  have Fc45 : Fld Z h41 a0 "tidemark/log/RecordMarks$RunMarking" "end" "J" (.long (ue + (p1.toInt64))) := (Fld.other W41 (Fld.other W34 Fw30 (Or.inr (slot_ne (Or.inl (hw _ (List.mem_of_getElem? (i := 28) rfl))) (Or.inl (hw _ (List.mem_of_getElem? (i := 39) rfl))) (by decide) (t := .long) (t' := .long) (by decide) (by decide)))) (Or.inr (slot_ne (Or.inl (hw _ (List.mem_of_getElem? (i := 28) rfl))) (Or.inl (hw _ (List.mem_of_getElem? (i := 24) rfl))) (by decide) (t := .long) (t' := .long) (by decide) (by decide))))
  have Fc46 : Fld Z h41 a0 "tidemark/log/RecordMarks$RunMarking" "batches" "I" (.int (3 : Int32)) := (Fld.other W41 (Fld.other W34 (Fld.other W30 Fw25 (Or.inr (slot_ne (Or.inl (hw _ (List.mem_of_getElem? (i := 35) rfl))) (Or.inl (hw _ (List.mem_of_getElem? (i := 28) rfl))) (by decide) (t := .int) (t' := .long) (by decide) (by decide)))) (Or.inr (slot_ne (Or.inl (hw _ (List.mem_of_getElem? (i := 35) rfl))) (Or.inl (hw _ (List.mem_of_getElem? (i := 39) rfl))) (by decide) (t := .int) (t' := .long) (by decide) (by decide)))) (Or.inr (slot_ne (Or.inl (hw _ (List.mem_of_getElem? (i := 35) rfl))) (Or.inl (hw _ (List.mem_of_getElem? (i := 24) rfl))) (by decide) (t := .int) (t' := .long) (by decide) (by decide))))
  have Fc47 : Fld Z h41 a0 "tidemark/log/RecordMarks$RunMarking" "baseOffset" "J" (.long ub) := (Fld.other W41 (Fld.other W34 (Fld.other W30 (Fld.other W25 ((Fld.other W8 pre7 (Or.inr (slot_ne (Or.inl (hw _ (List.mem_of_getElem? (i := 37) rfl))) (Or.inl (hw _ (List.mem_of_getElem? (i := 45) rfl))) (by decide) (t := .long) (t' := .int) (by decide) (by decide)))).keep K15 (ninS pre16 (ninS pre17 nin0))) (Or.inr (slot_ne (Or.inl (hw _ (List.mem_of_getElem? (i := 37) rfl))) (Or.inl (hw _ (List.mem_of_getElem? (i := 35) rfl))) (by decide) (t := .long) (t' := .int) (by decide) (by decide)))) (Or.inr (slot_ne (Or.inl (hw _ (List.mem_of_getElem? (i := 37) rfl))) (Or.inl (hw _ (List.mem_of_getElem? (i := 28) rfl))) (by decide) (t := .long) (t' := .long) (by decide) (by decide)))) (Or.inr (slot_ne (Or.inl (hw _ (List.mem_of_getElem? (i := 37) rfl))) (Or.inl (hw _ (List.mem_of_getElem? (i := 39) rfl))) (by decide) (t := .long) (t' := .long) (by decide) (by decide)))) (Or.inr (slot_ne (Or.inl (hw _ (List.mem_of_getElem? (i := 37) rfl))) (Or.inl (hw _ (List.mem_of_getElem? (i := 24) rfl))) (by decide) (t := .long) (t' := .long) (by decide) (by decide))))
  have Fc48 : Fld Z h41 a0 "tidemark/log/RecordMarks$RunMarking" "nextOffset" "J" (.long q3) := (Fld.other W41 Fw34 (Or.inr (slot_ne (Or.inl (hw _ (List.mem_of_getElem? (i := 39) rfl))) (Or.inl (hw _ (List.mem_of_getElem? (i := 24) rfl))) (by decide) (t := .long) (t' := .long) (by decide) (by decide))))
  have Fc49 : Fld Z h41 a0 "tidemark/log/RecordMarks$RunMarking" "lastStart" "I" (.int ((ue - up).toInt32)) := (Fld.other W41 (Fld.other W34 (Fld.other W30 (Fld.other W25 (Fw8.keep K15 (ninS pre16 (ninS pre17 nin0))) (Or.inr (slot_ne (Or.inl (hw _ (List.mem_of_getElem? (i := 45) rfl))) (Or.inl (hw _ (List.mem_of_getElem? (i := 35) rfl))) (by decide) (t := .int) (t' := .int) (by decide) (by decide)))) (Or.inr (slot_ne (Or.inl (hw _ (List.mem_of_getElem? (i := 45) rfl))) (Or.inl (hw _ (List.mem_of_getElem? (i := 28) rfl))) (by decide) (t := .int) (t' := .long) (by decide) (by decide)))) (Or.inr (slot_ne (Or.inl (hw _ (List.mem_of_getElem? (i := 45) rfl))) (Or.inl (hw _ (List.mem_of_getElem? (i := 39) rfl))) (by decide) (t := .int) (t' := .long) (by decide) (by decide)))) (Or.inr (slot_ne (Or.inl (hw _ (List.mem_of_getElem? (i := 45) rfl))) (Or.inl (hw _ (List.mem_of_getElem? (i := 24) rfl))) (by decide) (t := .int) (t' := .long) (by decide) (by decide))))
  have Fc50 : Fld Z h41 lm "tidemark/log/RecordMarks$LaterMarks" "marks" "[I" (.ref ma) := (Fld.other W41 (Fld.other W34 (Fld.other W30 (Fld.other W25 f15_1 (Or.inl (Ne.symm pre16))) (Or.inl (Ne.symm pre16))) (Or.inl (Ne.symm pre16))) (Or.inl (Ne.symm pre16)))
  have Fc51 : Fld Z h41 lm "tidemark/log/RecordMarks$LaterMarks" "count" "I" (.int (1 : Int32)) := (Fld.other W41 (Fld.other W34 (Fld.other W30 (Fld.other W25 f15_0 (Or.inl (Ne.symm pre16))) (Or.inl (Ne.symm pre16))) (Or.inl (Ne.symm pre16))) (Or.inl (Ne.symm pre16)))
  have Fc52 : Arv Z h41 ma k_ma .int (12 : Int32) [(.int ((ue - up).toInt32)), (.int (((ul.toUInt64 >>> ((32 : Int32) &&& 0x3f).toInt64.toUInt64).toInt64).toInt32)), (.int (ul.toInt32)), (.int m3), (.int m4), (.int m5), (.int m6), (.int m7)] (.int (0 : Int32)) := ((((f15_2.other W25 (Ne.symm pre17)).other W30 (Ne.symm pre17)).other W34 (Ne.symm pre17)).other W41 (Ne.symm pre17))
  exact o_ret0 X41 hx Bd.returns (own_lv X41 hlk (by decide) (by decide)) (hb hby own_d4_106) ⟨rfl, N41, (by rw [e41]; exact Kp42), (by rw [e41]; exact Fc43), (by rw [e41]; exact Fw41), (by rw [e41]; exact Fc44), (by rw [e41]; exact Fc45), (by rw [e41]; exact Fc46), (by rw [e41]; exact Fc47), (by rw [e41]; exact Fc48), (by rw [e41]; exact Fc49), (by rw [e41]; exact Fc50), (by rw [e41]; exact Fc51), (by rw [e41]; exact Fc52)⟩
theorem own_efad2t1 (m : MethodId) (a0 : Addr) (p1 : Int32) (q2 : Int64) (q3 : Int64) (q4 : Int64) : entryFrame m #[(.ref a0), (.int p1), (.long q2), (.long q3), (.long q4)] 8 = mkF m 0 #[.val (.ref a0), .val (.int p1), .val (.long q2), .second, .val (.long q3), .second, .val (.long q4), .second] [] := by first | (simp [entryFrame, mkF, argsToLocals, Value.category]; done) | rfl
def own_Qad2t1 (Z : State) (a0 : Addr) (p1 : Int32) (q2 : Int64) (q3 : Int64) (q4 : Int64) (lm : Addr) (ul : Int64) (up : Int64) (ue : Int64) (ub : Int64) (un : Int64) (us : Int32) (ma : Addr) (k_ma : ClassId) (m0 : Int32) (m1 : Int32) (m2 : Int32) (m3 : Int32) (m4 : Int32) (m5 : Int32) (m6 : Int32) (m7 : Int32) (h0 : Heap) (n0 : Nat) (v : Option Value) (h : Heap) (L : List Loc) : Prop := v = none ∧ Fr n0 L ∧ Keep h0 h [a0, lm, ma] ∧ Fld Z h a0 "tidemark/log/RecordMarks$RunMarking" "later" "Ltidemark/log/RecordMarks$LaterMarks;" (.ref lm) ∧ Fld Z h a0 "tidemark/log/RecordMarks$RunMarking" "largest" "J" (.long (own_f5 ul q4)) ∧ Fld Z h a0 "tidemark/log/RecordMarks$RunMarking" "position" "J" (.long up) ∧ Fld Z h a0 "tidemark/log/RecordMarks$RunMarking" "end" "J" (.long (ue + (p1.toInt64))) ∧ Fld Z h a0 "tidemark/log/RecordMarks$RunMarking" "batches" "I" (.int (3 : Int32)) ∧ Fld Z h a0 "tidemark/log/RecordMarks$RunMarking" "baseOffset" "J" (.long ub) ∧ Fld Z h a0 "tidemark/log/RecordMarks$RunMarking" "nextOffset" "J" (.long q3) ∧ Fld Z h a0 "tidemark/log/RecordMarks$RunMarking" "lastStart" "I" (.int ((ue - up).toInt32)) ∧ Fld Z h lm "tidemark/log/RecordMarks$LaterMarks" "marks" "[I" (.ref ma) ∧ Fld Z h lm "tidemark/log/RecordMarks$LaterMarks" "count" "I" (.int (2 : Int32)) ∧ Arv Z h ma k_ma .int (12 : Int32) [(.int m0), (.int m1), (.int m2), (.int ((ue - up).toInt32)), (.int (((ul.toUInt64 >>> ((32 : Int32) &&& 0x3f).toInt64.toUInt64).toInt64).toInt32)), (.int (ul.toInt32)), (.int m6), (.int m7)] (.int (0 : Int32))
set_option maxRecDepth 65536 in
set_option maxHeartbeats 40000000 in
theorem own_rmad2t1 (l : Launch) (Z : State) (aA : Array Value) (hw : ∀ d ∈ tables_1, d.before aA Z = true) (ws : List Jvm.Cond) (a0 : Addr) (p1 : Int32) (q2 : Int64) (q3 : Int64) (q4 : Int64) (lm : Addr) (ul : Int64) (up : Int64) (ue : Int64) (ub : Int64) (un : Int64) (us : Int32) (ma : Addr) (k_ma : ClassId) (m0 : Int32) (m1 : Int32) (m2 : Int32) (m3 : Int32) (m4 : Int32) (m5 : Int32) (m6 : Int32) (m7 : Int32) (h0 : Heap) (n0 : Nat) (Z0 : n0 ≤ h0.size) (pre0 : Exa Z h0 a0 "tidemark/log/RecordMarks$RunMarking") (pre1 : n0 ≤ a0) (pre2 : Fld Z h0 a0 "tidemark/log/RecordMarks$RunMarking" "later" "Ltidemark/log/RecordMarks$LaterMarks;" (.ref lm)) (pre3 : Fld Z h0 a0 "tidemark/log/RecordMarks$RunMarking" "largest" "J" (.long ul)) (pre4 : Fld Z h0 a0 "tidemark/log/RecordMarks$RunMarking" "position" "J" (.long up)) (pre5 : Fld Z h0 a0 "tidemark/log/RecordMarks$RunMarking" "end" "J" (.long ue)) (pre6 : Fld Z h0 a0 "tidemark/log/RecordMarks$RunMarking" "batches" "I" (.int (2 : Int32))) (pre7 : Fld Z h0 a0 "tidemark/log/RecordMarks$RunMarking" "baseOffset" "J" (.long ub)) (pre8 : Fld Z h0 a0 "tidemark/log/RecordMarks$RunMarking" "nextOffset" "J" (.long un)) (pre9 : Fld Z h0 a0 "tidemark/log/RecordMarks$RunMarking" "lastStart" "I" (.int us)) (pre10 : Exa Z h0 lm "tidemark/log/RecordMarks$LaterMarks") (pre11 : Fld Z h0 lm "tidemark/log/RecordMarks$LaterMarks" "marks" "[I" (.ref ma)) (pre12 : Fld Z h0 lm "tidemark/log/RecordMarks$LaterMarks" "count" "I" (.int (1 : Int32))) (pre13 : Arv Z h0 ma k_ma .int (12 : Int32) [(.int m0), (.int m1), (.int m2), (.int m3), (.int m4), (.int m5), (.int m6), (.int m7)] (.int (0 : Int32))) (pre14 : n0 ≤ lm) (pre15 : n0 ≤ ma) (pre16 : a0 ≠ lm) (pre17 : a0 ≠ ma) (pre18 : lm ≠ ma) (hT : (1024 : Int64) < ((ue - up) - us.toInt64)) :
    MetFree l (⟨"tidemark/log/RecordMarks$RunMarking", "add", "(IJJJ)V"⟩ : MethodName) (head1 (Jvm.Cond.code (⟨"tidemark/log/RecordMarks$RunMarking", "add", "(IJJJ)V"⟩ : MethodName) prog_115_method_3_code 8 none :: ws) ({ frames := 1, cells := 0, slots := 0, locals := 16 } : Room)) (fun a U => a = #[(.ref a0), (.int p1), (.long q2), (.long q3), (.long q4)] ∧ Z.Warmed39 U.vm ∧ U.heap = h0) (fun _ _ _ _ _ => True) (fun _ U o U' => ∃ v L, o = .returned v ∧ own_Qad2t1 Z a0 p1 q2 q3 q4 lm ul up ue ub un us ma k_ma m0 m1 m2 m3 m4 m5 m6 m7 h0 n0 v U'.heap L ∧ FrameEnd U o U' L ({ frames := 1, cells := 0, slots := 0, locals := 16 } : Room).cells ({ frames := 1, cells := 0, slots := 0, locals := 16 } : Room).slots) := by
  refine MetFree.of_bodySF (plainFor_of_name own_pn113) hisR ?_
  intro p e s m args below meth c s₁ Bd hml0 hP hK
  obtain ⟨rfl, hZ, hh⟩ := hP
  have hx := Bd.exec
  have hby := Bd.bytes
  have hlk : meth.locks = false := Bd.notSynchronized
  have hml : c.maxLocals = 8 := hml0
  have hown : s.vm.findClass "tidemark/log/RecordMarks$RunMarking" = some m.cls := findClass_of_methodNamed Bd.named
  have hnm := (name_of_methodNamed Bd.named Bd.method).1
  have X0 : Stand p l e ({ frames := 1, cells := 0, slots := 0, locals := 16 } : Room) s m #[(.ref a0), (.int p1), (.long q2), (.long q3), (.long q4)] below meth c s₁ [] 0 0 := Stand.of_body Bd
  have e0 : s₁.heap = h0 := by rw [← hh, Bd.state]; rfl
  have N0 := Fr.nil n0
  show OG p e below (FE s ({ frames := 1, cells := 0, slots := 0, locals := 16 } : Room).cells ({ frames := 1, cells := 0, slots := 0, locals := 16 } : Room).slots) (own_Qad2t1 Z a0 p1 q2 q3 q4 lm ul up ue ub un us ma k_ma m0 m1 m2 m3 m4 m5 m6 m7 h0 n0) (s₁.setTop (entryFrame m #[(.ref a0), (.int p1), (.long q2), (.long q3), (.long q4)] 8))
  refine og_of (fun _ k => castTop (own_efad2t1 m a0 p1 q2 q3 q4) k) ?_
  refine o_aloadN X0 hx rfl (hb hby own_d4_0) rfl rfl ?_
  obtain ⟨T1, X1, e1, st1⟩ := getF X0 hx hZ hown (host := "") (Or.inl (hw _ (List.mem_of_getElem? (i := 34) rfl))) Via.refl e0 pre6 (g := (mkF m 1 #[.val (.ref a0), .val (.int p1), .val (.long q2), .second, .val (.long q3), .second, .val (.long q4), .second] [(.ref a0)])) rfl rfl (hb hby own_d4_1)
  refine og_of st1 ?_
  show OG p e below _ _ (T1.setTop (mkF m 4 #[.val (.ref a0), .val (.int p1), .val (.long q2), .second, .val (.long q3), .second, .val (.long q4), .second] [(.int (2 : Int32))]))
  refine o_ifY (pc' := 15) X1 hx (hb hby own_d4_4) ((if0 _ _).trans (feq (by decide : ¬ ((2 : Int32) = (0 : Int32)))).2) (by decide) (by decide) ?_
  refine o_aloadN X1 hx rfl (hb hby own_d4_15) rfl rfl ?_
  obtain ⟨T2, X2, e2, st2⟩ := getF X1 hx hZ hown (host := "") (Or.inl (hw _ (List.mem_of_getElem? (i := 27) rfl))) Via.refl e1 pre5 (g := (mkF m 16 #[.val (.ref a0), .val (.int p1), .val (.long q2), .second, .val (.long q3), .second, .val (.long q4), .second] [(.ref a0)])) rfl rfl (hb hby own_d4_16)
  refine og_of st2 ?_
  show OG p e below _ _ (T2.setTop (mkF m 19 #[.val (.ref a0), .val (.int p1), .val (.long q2), .second, .val (.long q3), .second, .val (.long q4), .second] [(.long ue)]))
  refine o_aloadN X2 hx rfl (hb hby own_d4_19) rfl rfl ?_
  obtain ⟨T3, X3, e3, st3⟩ := getF X2 hx hZ hown (host := "") (Or.inl (hw _ (List.mem_of_getElem? (i := 25) rfl))) Via.refl e2 pre4 (g := (mkF m 20 #[.val (.ref a0), .val (.int p1), .val (.long q2), .second, .val (.long q3), .second, .val (.long q4), .second] [(.ref a0), (.long ue)])) rfl rfl (hb hby own_d4_20)
  refine og_of st3 ?_
  show OG p e below _ _ (T3.setTop (mkF m 23 #[.val (.ref a0), .val (.int p1), .val (.long q2), .second, .val (.long q3), .second, .val (.long q4), .second] [(.long up), (.long ue)]))
  refine o_lsub (z := (ue - up)) X3 hx rfl (hb hby own_d4_23) rfl ?_
  refine o_aloadN X3 hx rfl (hb hby own_d4_24) rfl rfl ?_
  obtain ⟨T4, X4, e4, st4⟩ := getF X3 hx hZ hown (host := "") (Or.inl (hw _ (List.mem_of_getElem? (i := 44) rfl))) Via.refl e3 pre9 (g := (mkF m 25 #[.val (.ref a0), .val (.int p1), .val (.long q2), .second, .val (.long q3), .second, .val (.long q4), .second] [(.ref a0), (.long (ue - up))])) rfl rfl (hb hby own_d4_25)
  refine og_of st4 ?_
  show OG p e below _ _ (T4.setTop (mkF m 28 #[.val (.ref a0), .val (.int p1), .val (.long q2), .second, .val (.long q3), .second, .val (.long q4), .second] [(.int us), (.long (ue - up))]))
  refine o_i2l (z := (us.toInt64)) X4 hx rfl (hb hby own_d4_28) rfl ?_
  refine o_lsub (z := ((ue - up) - (us.toInt64))) X4 hx rfl (hb hby own_d4_29) rfl ?_
  refine o_ldc2L X4 hx rfl (hb hby own_d4_30) hZ hown (hw _ (List.mem_of_getElem? (i := 46) rfl)) ?_
  refine o_lcmp X4 hx rfl (hb hby own_d4_33) ?_
  have hk5 : (1024 : Int64) < ((ue - up) - (us.toInt64)) := hT
  refine o_ifN (pc' := 37) X4 hx rfl (hb hby own_d4_34) (lcY_gt hk5).2 ?_
  refine o_aloadN X4 hx rfl (hb hby own_d4_37) rfl rfl ?_
  refine o_aloadN X4 hx rfl (hb hby own_d4_38) rfl rfl ?_
  obtain ⟨T6, X6, e6, st6⟩ := getF X4 hx hZ hown (host := "") (Or.inl (hw _ (List.mem_of_getElem? (i := 27) rfl))) Via.refl e4 pre5 (g := (mkF m 39 #[.val (.ref a0), .val (.int p1), .val (.long q2), .second, .val (.long q3), .second, .val (.long q4), .second] [(.ref a0), (.ref a0)])) rfl rfl (hb hby own_d4_39)
  refine og_of st6 ?_
  show OG p e below _ _ (T6.setTop (mkF m 42 #[.val (.ref a0), .val (.int p1), .val (.long q2), .second, .val (.long q3), .second, .val (.long q4), .second] [(.long ue), (.ref a0)]))
  refine o_aloadN X6 hx rfl (hb hby own_d4_42) rfl rfl ?_
  obtain ⟨T7, X7, e7, st7⟩ := getF X6 hx hZ hown (host := "") (Or.inl (hw _ (List.mem_of_getElem? (i := 25) rfl))) Via.refl e6 pre4 (g := (mkF m 43 #[.val (.ref a0), .val (.int p1), .val (.long q2), .second, .val (.long q3), .second, .val (.long q4), .second] [(.ref a0), (.long ue), (.ref a0)])) rfl rfl (hb hby own_d4_43)
  refine og_of st7 ?_
  show OG p e below _ _ (T7.setTop (mkF m 46 #[.val (.ref a0), .val (.int p1), .val (.long q2), .second, .val (.long q3), .second, .val (.long q4), .second] [(.long up), (.long ue), (.ref a0)]))
  refine o_lsub (z := (ue - up)) X7 hx rfl (hb hby own_d4_46) rfl ?_
  refine o_l2i (z := ((ue - up).toInt32)) X7 hx rfl (hb hby own_d4_47) rfl ?_
  obtain ⟨T8, h8, X8, e8, W8, st8⟩ := putF X7 hx hZ hown (host := "") (Or.inl (hw _ (List.mem_of_getElem? (i := 44) rfl))) Via.refl e7 pre9 pre0 (Or.inl (hw _ (List.mem_of_getElem? (i := 45) rfl))) (hw _ (List.mem_of_getElem? (i := 2) rfl)) (ty := .int) (by decide) rfl rfl (g := (mkF m 48 #[.val (.ref a0), .val (.int p1), .val (.long q2), .second, .val (.long q3), .second, .val (.long q4), .second] [(.int ((ue - up).toInt32)), (.ref a0)])) rfl rfl (hb hby own_d4_48)
  have Fw8 := pre9.same W8
  have N8 := Fr.snoc X8 N0 pre1
  have Kp9 : Keep h0 h8 [a0, lm, ma] := (Keep.refl h0 [a0, lm, ma]).wr W8 (Or.inl (List.mem_of_getElem? (i := 0) rfl))
  refine og_of st8 ?_
  show OG p e below _ _ (T8.setTop (mkF m 51 #[.val (.ref a0), .val (.int p1), .val (.long q2), .second, .val (.long q3), .second, .val (.long q4), .second] []))
  refine o_aloadN X8 hx rfl (hb hby own_d4_51) rfl rfl ?_
  have Fc10 : Fld Z h8 a0 "tidemark/log/RecordMarks$RunMarking" "later" "Ltidemark/log/RecordMarks$LaterMarks;" (.ref lm) := (Fld.other W8 pre2 (Or.inr (slot_ne (Or.inr (hw _ (List.mem_of_getElem? (i := 21) rfl))) (Or.inl (hw _ (List.mem_of_getElem? (i := 45) rfl))) (by decide) (t := (.object "tidemark/log/RecordMarks$LaterMarks")) (t' := .int) (by decide) (by decide))))
  obtain ⟨T11, X11, e11, st11⟩ := getF X8 hx hZ hown (host := "") (Or.inl (hw _ (List.mem_of_getElem? (i := 20) rfl))) Via.refl e8 Fc10 (g := (mkF m 52 #[.val (.ref a0), .val (.int p1), .val (.long q2), .second, .val (.long q3), .second, .val (.long q4), .second] [(.ref a0)])) rfl rfl (hb hby own_d4_52)
  refine og_of st11 ?_
  show OG p e below _ _ (T11.setTop (mkF m 55 #[.val (.ref a0), .val (.int p1), .val (.long q2), .second, .val (.long q3), .second, .val (.long q4), .second] [(.ref lm)]))
  refine o_aloadN X11 hx rfl (hb hby own_d4_55) rfl rfl ?_
  obtain ⟨T12, X12, e12, st12⟩ := getF X11 hx hZ hown (host := "") (Or.inl (hw _ (List.mem_of_getElem? (i := 44) rfl))) Via.refl e11 Fw8 (g := (mkF m 56 #[.val (.ref a0), .val (.int p1), .val (.long q2), .second, .val (.long q3), .second, .val (.long q4), .second] [(.ref a0), (.ref lm)])) rfl rfl (hb hby own_d4_56)
  refine og_of st12 ?_
  show OG p e below _ _ (T12.setTop (mkF m 59 #[.val (.ref a0), .val (.int p1), .val (.long q2), .second, .val (.long q3), .second, .val (.long q4), .second] [(.int ((ue - up).toInt32)), (.ref lm)]))
  refine o_aloadN X12 hx rfl (hb hby own_d4_59) rfl rfl ?_
  have Fc13 : Fld Z h8 a0 "tidemark/log/RecordMarks$RunMarking" "largest" "J" (.long ul) := (Fld.other W8 pre3 (Or.inr (slot_ne (Or.inl (hw _ (List.mem_of_getElem? (i := 24) rfl))) (Or.inl (hw _ (List.mem_of_getElem? (i := 45) rfl))) (by decide) (t := .long) (t' := .int) (by decide) (by decide))))
  obtain ⟨T14, X14, e14, st14⟩ := getF X12 hx hZ hown (host := "") (Or.inl (hw _ (List.mem_of_getElem? (i := 23) rfl))) Via.refl e12 Fc13 (g := (mkF m 60 #[.val (.ref a0), .val (.int p1), .val (.long q2), .second, .val (.long q3), .second, .val (.long q4), .second] [(.ref a0), (.int ((ue - up).toInt32)), (.ref lm)])) rfl rfl (hb hby own_d4_60)
  refine og_of st14 ?_
  show OG p e below _ _ (T14.setTop (mkF m 63 #[.val (.ref a0), .val (.int p1), .val (.long q2), .second, .val (.long q3), .second, .val (.long q4), .second] [(.long ul), (.int ((ue - up).toInt32)), (.ref lm)]))
  have Fc16 : Exa Z h8 lm "tidemark/log/RecordMarks$LaterMarks" := (Exa.wr W8 pre10)
  have Fc17 : Fld Z h8 lm "tidemark/log/RecordMarks$LaterMarks" "count" "I" (.int (1 : Int32)) := (Fld.other W8 pre12 (Or.inl (Ne.symm pre16)))
  have Fc18 : Fld Z h8 lm "tidemark/log/RecordMarks$LaterMarks" "marks" "[I" (.ref ma) := (Fld.other W8 pre11 (Or.inl (Ne.symm pre16)))
  have Fc19 : Arv Z h8 ma k_ma .int (12 : Int32) [(.int m0), (.int m1), (.int m2), (.int m3), (.int m4), (.int m5), (.int m6), (.int m7)] (.int (0 : Int32)) := (pre13.other W8 (Ne.symm pre17))
  obtain ⟨cq15, kq15, q15a, q15b, q15c⟩ := isOf hZ e14 Fc16
  obtain ⟨_, _, ⟨T15, L15, k15, n15⟩, -, X15, ⟨Lc15, hQ15, l15, y15, z15⟩, st15⟩ := X14.virtualBack hx (y := (⟨"tidemark/log/RecordMarks$LaterMarks", "add", "(IJ)V"⟩ : MethodName)) (z := (⟨"tidemark/log/RecordMarks$LaterMarks", "add", "(IJ)V"⟩ : MethodName)) hown (mvT hZ (hw _ (List.mem_of_getElem? (i := 112) rfl))) (mvT hZ (hw _ (List.mem_of_getElem? (i := 113) rfl))) (notFace_of_selects (args := #[]) (mvT hZ (hw _ (List.mem_of_getElem? (i := 115) rfl)))) (mvT hZ (hw _ (List.mem_of_getElem? (i := 115) rfl))) (mvT hZ (hw _ (List.mem_of_getElem? (i := 114) rfl))) (by decide) (backOf (W := 0) (own_rmla1 l Z aA hw [] lm ((ue - up).toInt32) ul ma k_ma m0 m1 m2 m3 m4 m5 m6 m7 h8 n0 (Nat.le_trans Z0 (Keep.of_wr W8).1) Fc16 pre14 Fc17 Fc18 Fc19 pre15 pre18) hZ (hw _ (List.mem_of_getElem? (i := 116) rfl)) (hw _ (List.mem_of_getElem? (i := 12) rfl)) (by decide) (by decide)) q15a q15c (g := (mkF m 63 #[.val (.ref a0), .val (.int p1), .val (.long q2), .second, .val (.long q3), .second, .val (.long q4), .second] [(.long ul), (.int ((ue - up).toInt32)), (.ref lm)])) rfl (by rw [hml]; rfl) (Steps.refl _) (argsL := [(.int ((ue - up).toInt32)), (.long ul)]) (rest := []) (lenOf own_pd4 rfl) rfl (by show 2 * 0 + _ ≤ _; exact Nat.le_of_eq rfl) (hb hby own_d4_63) (fun _ _ => ⟨rfl, e14, Nat.le_of_ble_eq_true rfl, Nat.le_of_ble_eq_true rfl⟩)
  dsimp only [Pt.U, Pt.locs, Pt.cells, Pt.slots] at X15 l15 y15 z15 st15 hQ15
  subst l15 y15 z15
  obtain ⟨rfl, N15q, K15, f15_0, f15_1, f15_2⟩ := hQ15
  have N20 := Fr.app N8 N15q
  have Kp21 : Keep h0 T15.heap [a0, lm, ma] := Kp9.trans K15 (allS (Or.inl (List.mem_of_getElem? (i := 1) rfl)) (allS (Or.inl (List.mem_of_getElem? (i := 2) rfl)) all0))
  refine og_tr st15 ?_
  show OG p e below _ _ (T15.setTop (mkF m 66 #[.val (.ref a0), .val (.int p1), .val (.long q2), .second, .val (.long q3), .second, .val (.long q4), .second] []))
  refine o_aloadN X15 hx rfl (hb hby own_d4_66) rfl rfl ?_
  refine o_dup X15 hx rfl (hb hby own_d4_67) rfl ?_
  have Fc22 : Fld Z T15.heap a0 "tidemark/log/RecordMarks$RunMarking" "batches" "I" (.int (2 : Int32)) := ((Fld.other W8 pre6 (Or.inr (slot_ne (Or.inl (hw _ (List.mem_of_getElem? (i := 35) rfl))) (Or.inl (hw _ (List.mem_of_getElem? (i := 45) rfl))) (by decide) (t := .int) (t' := .int) (by decide) (by decide)))).keep K15 (ninS pre16 (ninS pre17 nin0)))
  obtain ⟨T23, X23, e23, st23⟩ := getF X15 hx hZ hown (host := "") (Or.inl (hw _ (List.mem_of_getElem? (i := 34) rfl))) Via.refl rfl Fc22 (g := (mkF m 68 #[.val (.ref a0), .val (.int p1), .val (.long q2), .second, .val (.long q3), .second, .val (.long q4), .second] [(.ref a0), (.ref a0)])) rfl rfl (hb hby own_d4_68)
  refine og_of st23 ?_
  show OG p e below _ _ (T23.setTop (mkF m 71 #[.val (.ref a0), .val (.int p1), .val (.long q2), .second, .val (.long q3), .second, .val (.long q4), .second] [(.int (2 : Int32)), (.ref a0)]))
  refine o_iconst (z := (1 : Int32)) X23 hx rfl (hb hby own_d4_71) (by decide) ?_
  refine o_iadd (z := (3 : Int32)) X23 hx rfl (hb hby own_d4_72) (by decide) ?_
  have Fc24 : Exa Z T15.heap a0 "tidemark/log/RecordMarks$RunMarking" := ((Exa.wr W8 pre0).keep K15)
  obtain ⟨T25, h25, X25, e25, W25, st25⟩ := putF X23 hx hZ hown (host := "") (Or.inl (hw _ (List.mem_of_getElem? (i := 34) rfl))) Via.refl e23 Fc22 Fc24 (Or.inl (hw _ (List.mem_of_getElem? (i := 35) rfl))) (hw _ (List.mem_of_getElem? (i := 2) rfl)) (ty := .int) (by decide) rfl rfl (g := (mkF m 73 #[.val (.ref a0), .val (.int p1), .val (.long q2), .second, .val (.long q3), .second, .val (.long q4), .second] [(.int (3 : Int32)), (.ref a0)])) rfl rfl (hb hby own_d4_73)
  have Fw25 := Fc22.same W25
  have N25 := Fr.snoc X25 N20 pre1
  have Kp26 : Keep h0 h25 [a0, lm, ma] := Kp21.wr W25 (Or.inl (List.mem_of_getElem? (i := 0) rfl))
  refine og_of st25 ?_
  show OG p e below _ _ (T25.setTop (mkF m 76 #[.val (.ref a0), .val (.int p1), .val (.long q2), .second, .val (.long q3), .second, .val (.long q4), .second] []))
  refine o_aloadN X25 hx rfl (hb hby own_d4_76) rfl rfl ?_
  refine o_dup X25 hx rfl (hb hby own_d4_77) rfl ?_
  have Fc27 : Fld Z h25 a0 "tidemark/log/RecordMarks$RunMarking" "end" "J" (.long ue) := (Fld.other W25 ((Fld.other W8 pre5 (Or.inr (slot_ne (Or.inl (hw _ (List.mem_of_getElem? (i := 28) rfl))) (Or.inl (hw _ (List.mem_of_getElem? (i := 45) rfl))) (by decide) (t := .long) (t' := .int) (by decide) (by decide)))).keep K15 (ninS pre16 (ninS pre17 nin0))) (Or.inr (slot_ne (Or.inl (hw _ (List.mem_of_getElem? (i := 28) rfl))) (Or.inl (hw _ (List.mem_of_getElem? (i := 35) rfl))) (by decide) (t := .long) (t' := .int) (by decide) (by decide))))
  obtain ⟨T28, X28, e28, st28⟩ := getF X25 hx hZ hown (host := "") (Or.inl (hw _ (List.mem_of_getElem? (i := 27) rfl))) Via.refl e25 Fc27 (g := (mkF m 78 #[.val (.ref a0), .val (.int p1), .val (.long q2), .second, .val (.long q3), .second, .val (.long q4), .second] [(.ref a0), (.ref a0)])) rfl rfl (hb hby own_d4_78)
  refine og_of st28 ?_
  show OG p e below _ _ (T28.setTop (mkF m 81 #[.val (.ref a0), .val (.int p1), .val (.long q2), .second, .val (.long q3), .second, .val (.long q4), .second] [(.long ue), (.ref a0)]))
  refine o_iloadN X28 hx rfl (hb hby own_d4_81) rfl ?_
  refine o_i2l (z := (p1.toInt64)) X28 hx rfl (hb hby own_d4_82) rfl ?_
  refine o_ladd (z := (ue + (p1.toInt64))) X28 hx rfl (hb hby own_d4_83) rfl ?_
  have Fc29 : Exa Z h25 a0 "tidemark/log/RecordMarks$RunMarking" := (Exa.wr W25 Fc24)
  obtain ⟨T30, h30, X30, e30, W30, st30⟩ := putF X28 hx hZ hown (host := "") (Or.inl (hw _ (List.mem_of_getElem? (i := 27) rfl))) Via.refl e28 Fc27 Fc29 (Or.inl (hw _ (List.mem_of_getElem? (i := 28) rfl))) (hw _ (List.mem_of_getElem? (i := 2) rfl)) (ty := .long) (by decide) rfl rfl (g := (mkF m 84 #[.val (.ref a0), .val (.int p1), .val (.long q2), .second, .val (.long q3), .second, .val (.long q4), .second] [(.long (ue + (p1.toInt64))), (.ref a0)])) rfl rfl (hb hby own_d4_84)
  have Fw30 := Fc27.same W30
  have N30 := Fr.snoc X30 N25 pre1
  have Kp31 : Keep h0 h30 [a0, lm, ma] := Kp26.wr W30 (Or.inl (List.mem_of_getElem? (i := 0) rfl))
  refine og_of st30 ?_
  show OG p e below _ _ (T30.setTop (mkF m 87 #[.val (.ref a0), .val (.int p1), .val (.long q2), .second, .val (.long q3), .second, .val (.long q4), .second] []))
  refine o_aloadN X30 hx rfl (hb hby own_d4_87) rfl rfl ?_
  refine o_lload X30 hx rfl (hb hby own_d4_88) rfl ?_
  have Fc32 : Exa Z h30 a0 "tidemark/log/RecordMarks$RunMarking" := (Exa.wr W30 Fc29)
  have Fc33 : Fld Z h30 a0 "tidemark/log/RecordMarks$RunMarking" "nextOffset" "J" (.long un) := (Fld.other W30 (Fld.other W25 ((Fld.other W8 pre8 (Or.inr (slot_ne (Or.inl (hw _ (List.mem_of_getElem? (i := 39) rfl))) (Or.inl (hw _ (List.mem_of_getElem? (i := 45) rfl))) (by decide) (t := .long) (t' := .int) (by decide) (by decide)))).keep K15 (ninS pre16 (ninS pre17 nin0))) (Or.inr (slot_ne (Or.inl (hw _ (List.mem_of_getElem? (i := 39) rfl))) (Or.inl (hw _ (List.mem_of_getElem? (i := 35) rfl))) (by decide) (t := .long) (t' := .int) (by decide) (by decide)))) (Or.inr (slot_ne (Or.inl (hw _ (List.mem_of_getElem? (i := 39) rfl))) (Or.inl (hw _ (List.mem_of_getElem? (i := 28) rfl))) (by decide) (t := .long) (t' := .long) (by decide) (by decide))))
  obtain ⟨T34, h34, X34, e34, W34, st34⟩ := putF X30 hx hZ hown (host := "") (Or.inl (hw _ (List.mem_of_getElem? (i := 38) rfl))) Via.refl e30 Fc33 Fc32 (Or.inl (hw _ (List.mem_of_getElem? (i := 39) rfl))) (hw _ (List.mem_of_getElem? (i := 2) rfl)) (ty := .long) (by decide) rfl rfl (g := (mkF m 90 #[.val (.ref a0), .val (.int p1), .val (.long q2), .second, .val (.long q3), .second, .val (.long q4), .second] [(.long q3), (.ref a0)])) rfl rfl (hb hby own_d4_90)
  have Fw34 := Fc33.same W34
  have N34 := Fr.snoc X34 N30 pre1
  have Kp35 : Keep h0 h34 [a0, lm, ma] := Kp31.wr W34 (Or.inl (List.mem_of_getElem? (i := 0) rfl))
  refine og_of st34 ?_
  show OG p e below _ _ (T34.setTop (mkF m 93 #[.val (.ref a0), .val (.int p1), .val (.long q2), .second, .val (.long q3), .second, .val (.long q4), .second] []))
  refine o_aloadN X34 hx rfl (hb hby own_d4_93) rfl rfl ?_
  refine o_aloadN X34 hx rfl (hb hby own_d4_94) rfl rfl ?_
  have Fc36 : Fld Z h34 a0 "tidemark/log/RecordMarks$RunMarking" "largest" "J" (.long ul) := (Fld.other W34 (Fld.other W30 (Fld.other W25 (Fc13.keep K15 (ninS pre16 (ninS pre17 nin0))) (Or.inr (slot_ne (Or.inl (hw _ (List.mem_of_getElem? (i := 24) rfl))) (Or.inl (hw _ (List.mem_of_getElem? (i := 35) rfl))) (by decide) (t := .long) (t' := .int) (by decide) (by decide)))) (Or.inr (slot_ne (Or.inl (hw _ (List.mem_of_getElem? (i := 24) rfl))) (Or.inl (hw _ (List.mem_of_getElem? (i := 28) rfl))) (by decide) (t := .long) (t' := .long) (by decide) (by decide)))) (Or.inr (slot_ne (Or.inl (hw _ (List.mem_of_getElem? (i := 24) rfl))) (Or.inl (hw _ (List.mem_of_getElem? (i := 39) rfl))) (by decide) (t := .long) (t' := .long) (by decide) (by decide))))
  obtain ⟨T37, X37, e37, st37⟩ := getF X34 hx hZ hown (host := "") (Or.inl (hw _ (List.mem_of_getElem? (i := 23) rfl))) Via.refl e34 Fc36 (g := (mkF m 95 #[.val (.ref a0), .val (.int p1), .val (.long q2), .second, .val (.long q3), .second, .val (.long q4), .second] [(.ref a0), (.ref a0)])) rfl rfl (hb hby own_d4_95)
  refine og_of st37 ?_
  show OG p e below _ _ (T37.setTop (mkF m 98 #[.val (.ref a0), .val (.int p1), .val (.long q2), .second, .val (.long q3), .second, .val (.long q4), .second] [(.long ul), (.ref a0)]))
  refine o_lload X37 hx rfl (hb hby own_d4_98) rfl ?_
  obtain ⟨_, _, ⟨T38, L38, k38, n38⟩, -, X38, ⟨Lc38, hQ38, l38, y38, z38⟩, st38⟩ := Jvm.LawKit.callS X37 hx (y := (⟨"java/lang/Math", "max", "(JJ)J"⟩ : MethodName)) hown (mvT hZ (hw _ (List.mem_of_getElem? (i := 40) rfl))) (mvT hZ (hw _ (List.mem_of_getElem? (i := 41) rfl))) (mvT hZ (hw _ (List.mem_of_getElem? (i := 42) rfl))) (mvT hZ (hw _ (List.mem_of_getElem? (i := 43) rfl))) (by decide) (backOf (W := 1) (own_rm5 l Z aA hw [] ul q4 h34 n0 (Nat.le_trans (Nat.le_trans (Nat.le_trans (Nat.le_trans (Nat.le_trans Z0 (Keep.of_wr W8).1) K15.1) (Keep.of_wr W25).1) (Keep.of_wr W30).1) (Keep.of_wr W34).1)) hZ (hw _ (List.mem_of_getElem? (i := 43) rfl)) (hw _ (List.mem_of_getElem? (i := 42) rfl)) (by decide) (by decide)) (g := (mkF m 100 #[.val (.ref a0), .val (.int p1), .val (.long q2), .second, .val (.long q3), .second, .val (.long q4), .second] [(.long q4), (.long ul), (.ref a0)])) rfl (by rw [hml]; rfl) (argsL := [(.long ul), (.long q4)]) (rest := [(.ref a0)]) (lenOf own_pd3 rfl) rfl (by show 2 * 0 + _ ≤ _; exact Nat.le_of_eq rfl) (hb hby own_d4_100) (fun _ _ => ⟨rfl, e37, Nat.le_of_ble_eq_true rfl, Nat.le_of_ble_eq_true rfl⟩)
  dsimp only [Pt.U, Pt.locs, Pt.cells, Pt.slots] at X38 l38 y38 z38 st38 hQ38
  subst l38 y38 z38
  obtain ⟨rfl, N38q, ee38⟩ := hQ38
  have N39 := Fr.app N34 N38q
  refine og_of st38 ?_
  show OG p e below _ _ (T38.setTop (mkF m 103 #[.val (.ref a0), .val (.int p1), .val (.long q2), .second, .val (.long q3), .second, .val (.long q4), .second] [(.long (own_f5 ul q4)), (.ref a0)]))
  have Fc40 : Exa Z h34 a0 "tidemark/log/RecordMarks$RunMarking" := (Exa.wr W34 Fc32)
  obtain ⟨T41, h41, X41, e41, W41, st41⟩ := putF X38 hx hZ hown (host := "") (Or.inl (hw _ (List.mem_of_getElem? (i := 23) rfl))) Via.refl ee38 Fc36 Fc40 (Or.inl (hw _ (List.mem_of_getElem? (i := 24) rfl))) (hw _ (List.mem_of_getElem? (i := 2) rfl)) (ty := .long) (by decide) rfl rfl (g := (mkF m 103 #[.val (.ref a0), .val (.int p1), .val (.long q2), .second, .val (.long q3), .second, .val (.long q4), .second] [(.long (own_f5 ul q4)), (.ref a0)])) rfl rfl (hb hby own_d4_103)
  have Fw41 := Fc36.same W41
  have N41 := Fr.snoc X41 N39 pre1
  have Kp42 : Keep h0 h41 [a0, lm, ma] := Kp35.wr W41 (Or.inl (List.mem_of_getElem? (i := 0) rfl))
  refine og_of st41 ?_
  show OG p e below _ _ (T41.setTop (mkF m 106 #[.val (.ref a0), .val (.int p1), .val (.long q2), .second, .val (.long q3), .second, .val (.long q4), .second] []))
  have Fc43 : Fld Z h41 a0 "tidemark/log/RecordMarks$RunMarking" "later" "Ltidemark/log/RecordMarks$LaterMarks;" (.ref lm) := (Fld.other W41 (Fld.other W34 (Fld.other W30 (Fld.other W25 (Fc10.keep K15 (ninS pre16 (ninS pre17 nin0))) (Or.inr (slot_ne (Or.inr (hw _ (List.mem_of_getElem? (i := 21) rfl))) (Or.inl (hw _ (List.mem_of_getElem? (i := 35) rfl))) (by decide) (t := (.object "tidemark/log/RecordMarks$LaterMarks")) (t' := .int) (by decide) (by decide)))) (Or.inr (slot_ne (Or.inr (hw _ (List.mem_of_getElem? (i := 21) rfl))) (Or.inl (hw _ (List.mem_of_getElem? (i := 28) rfl))) (by decide) (t := (.object "tidemark/log/RecordMarks$LaterMarks")) (t' := .long) (by decide) (by decide)))) (Or.inr (slot_ne (Or.inr (hw _ (List.mem_of_getElem? (i := 21) rfl))) (Or.inl (hw _ (List.mem_of_getElem? (i := 39) rfl))) (by decide) (t := (.object "tidemark/log/RecordMarks$LaterMarks")) (t' := .long) (by decide) (by decide)))) (Or.inr (slot_ne (Or.inr (hw _ (List.mem_of_getElem? (i := 21) rfl))) (Or.inl (hw _ (List.mem_of_getElem? (i := 24) rfl))) (by decide) (t := (.object "tidemark/log/RecordMarks$LaterMarks")) (t' := .long) (by decide) (by decide))))
  have Fc44 : Fld Z h41 a0 "tidemark/log/RecordMarks$RunMarking" "position" "J" (.long up) := (Fld.other W41 (Fld.other W34 (Fld.other W30 (Fld.other W25 ((Fld.other W8 pre4 (Or.inr (slot_ne (Or.inr (hw _ (List.mem_of_getElem? (i := 26) rfl))) (Or.inl (hw _ (List.mem_of_getElem? (i := 45) rfl))) (by decide) (t := .long) (t' := .int) (by decide) (by decide)))).keep K15 (ninS pre16 (ninS pre17 nin0))) (Or.inr (slot_ne (Or.inr (hw _ (List.mem_of_getElem? (i := 26) rfl))) (Or.inl (hw _ (List.mem_of_getElem? (i := 35) rfl))) (by decide) (t := .long) (t' := .int) (by decide) (by decide)))) (Or.inr (slot_ne (Or.inr (hw _ (List.mem_of_getElem? (i := 26) rfl))) (Or.inl (hw _ (List.mem_of_getElem? (i := 28) rfl))) (by decide) (t := .long) (t' := .long) (by decide) (by decide)))) (Or.inr (slot_ne (Or.inr (hw _ (List.mem_of_getElem? (i := 26) rfl))) (Or.inl (hw _ (List.mem_of_getElem? (i := 39) rfl))) (by decide) (t := .long) (t' := .long) (by decide) (by decide)))) (Or.inr (slot_ne (Or.inr (hw _ (List.mem_of_getElem? (i := 26) rfl))) (Or.inl (hw _ (List.mem_of_getElem? (i := 24) rfl))) (by decide) (t := .long) (t' := .long) (by decide) (by decide))))
  have Fc45 : Fld Z h41 a0 "tidemark/log/RecordMarks$RunMarking" "end" "J" (.long (ue + (p1.toInt64))) := (Fld.other W41 (Fld.other W34 Fw30 (Or.inr (slot_ne (Or.inl (hw _ (List.mem_of_getElem? (i := 28) rfl))) (Or.inl (hw _ (List.mem_of_getElem? (i := 39) rfl))) (by decide) (t := .long) (t' := .long) (by decide) (by decide)))) (Or.inr (slot_ne (Or.inl (hw _ (List.mem_of_getElem? (i := 28) rfl))) (Or.inl (hw _ (List.mem_of_getElem? (i := 24) rfl))) (by decide) (t := .long) (t' := .long) (by decide) (by decide))))
  have Fc46 : Fld Z h41 a0 "tidemark/log/RecordMarks$RunMarking" "batches" "I" (.int (3 : Int32)) := (Fld.other W41 (Fld.other W34 (Fld.other W30 Fw25 (Or.inr (slot_ne (Or.inl (hw _ (List.mem_of_getElem? (i := 35) rfl))) (Or.inl (hw _ (List.mem_of_getElem? (i := 28) rfl))) (by decide) (t := .int) (t' := .long) (by decide) (by decide)))) (Or.inr (slot_ne (Or.inl (hw _ (List.mem_of_getElem? (i := 35) rfl))) (Or.inl (hw _ (List.mem_of_getElem? (i := 39) rfl))) (by decide) (t := .int) (t' := .long) (by decide) (by decide)))) (Or.inr (slot_ne (Or.inl (hw _ (List.mem_of_getElem? (i := 35) rfl))) (Or.inl (hw _ (List.mem_of_getElem? (i := 24) rfl))) (by decide) (t := .int) (t' := .long) (by decide) (by decide))))
  have Fc47 : Fld Z h41 a0 "tidemark/log/RecordMarks$RunMarking" "baseOffset" "J" (.long ub) := (Fld.other W41 (Fld.other W34 (Fld.other W30 (Fld.other W25 ((Fld.other W8 pre7 (Or.inr (slot_ne (Or.inl (hw _ (List.mem_of_getElem? (i := 37) rfl))) (Or.inl (hw _ (List.mem_of_getElem? (i := 45) rfl))) (by decide) (t := .long) (t' := .int) (by decide) (by decide)))).keep K15 (ninS pre16 (ninS pre17 nin0))) (Or.inr (slot_ne (Or.inl (hw _ (List.mem_of_getElem? (i := 37) rfl))) (Or.inl (hw _ (List.mem_of_getElem? (i := 35) rfl))) (by decide) (t := .long) (t' := .int) (by decide) (by decide)))) (Or.inr (slot_ne (Or.inl (hw _ (List.mem_of_getElem? (i := 37) rfl))) (Or.inl (hw _ (List.mem_of_getElem? (i := 28) rfl))) (by decide) (t := .long) (t' := .long) (by decide) (by decide)))) (Or.inr (slot_ne (Or.inl (hw _ (List.mem_of_getElem? (i := 37) rfl))) (Or.inl (hw _ (List.mem_of_getElem? (i := 39) rfl))) (by decide) (t := .long) (t' := .long) (by decide) (by decide)))) (Or.inr (slot_ne (Or.inl (hw _ (List.mem_of_getElem? (i := 37) rfl))) (Or.inl (hw _ (List.mem_of_getElem? (i := 24) rfl))) (by decide) (t := .long) (t' := .long) (by decide) (by decide))))
  have Fc48 : Fld Z h41 a0 "tidemark/log/RecordMarks$RunMarking" "nextOffset" "J" (.long q3) := (Fld.other W41 Fw34 (Or.inr (slot_ne (Or.inl (hw _ (List.mem_of_getElem? (i := 39) rfl))) (Or.inl (hw _ (List.mem_of_getElem? (i := 24) rfl))) (by decide) (t := .long) (t' := .long) (by decide) (by decide))))
  have Fc49 : Fld Z h41 a0 "tidemark/log/RecordMarks$RunMarking" "lastStart" "I" (.int ((ue - up).toInt32)) := (Fld.other W41 (Fld.other W34 (Fld.other W30 (Fld.other W25 (Fw8.keep K15 (ninS pre16 (ninS pre17 nin0))) (Or.inr (slot_ne (Or.inl (hw _ (List.mem_of_getElem? (i := 45) rfl))) (Or.inl (hw _ (List.mem_of_getElem? (i := 35) rfl))) (by decide) (t := .int) (t' := .int) (by decide) (by decide)))) (Or.inr (slot_ne (Or.inl (hw _ (List.mem_of_getElem? (i := 45) rfl))) (Or.inl (hw _ (List.mem_of_getElem? (i := 28) rfl))) (by decide) (t := .int) (t' := .long) (by decide) (by decide)))) (Or.inr (slot_ne (Or.inl (hw _ (List.mem_of_getElem? (i := 45) rfl))) (Or.inl (hw _ (List.mem_of_getElem? (i := 39) rfl))) (by decide) (t := .int) (t' := .long) (by decide) (by decide)))) (Or.inr (slot_ne (Or.inl (hw _ (List.mem_of_getElem? (i := 45) rfl))) (Or.inl (hw _ (List.mem_of_getElem? (i := 24) rfl))) (by decide) (t := .int) (t' := .long) (by decide) (by decide))))
  have Fc50 : Fld Z h41 lm "tidemark/log/RecordMarks$LaterMarks" "marks" "[I" (.ref ma) := (Fld.other W41 (Fld.other W34 (Fld.other W30 (Fld.other W25 f15_1 (Or.inl (Ne.symm pre16))) (Or.inl (Ne.symm pre16))) (Or.inl (Ne.symm pre16))) (Or.inl (Ne.symm pre16)))
  have Fc51 : Fld Z h41 lm "tidemark/log/RecordMarks$LaterMarks" "count" "I" (.int (2 : Int32)) := (Fld.other W41 (Fld.other W34 (Fld.other W30 (Fld.other W25 f15_0 (Or.inl (Ne.symm pre16))) (Or.inl (Ne.symm pre16))) (Or.inl (Ne.symm pre16))) (Or.inl (Ne.symm pre16)))
  have Fc52 : Arv Z h41 ma k_ma .int (12 : Int32) [(.int m0), (.int m1), (.int m2), (.int ((ue - up).toInt32)), (.int (((ul.toUInt64 >>> ((32 : Int32) &&& 0x3f).toInt64.toUInt64).toInt64).toInt32)), (.int (ul.toInt32)), (.int m6), (.int m7)] (.int (0 : Int32)) := ((((f15_2.other W25 (Ne.symm pre17)).other W30 (Ne.symm pre17)).other W34 (Ne.symm pre17)).other W41 (Ne.symm pre17))
  exact o_ret0 X41 hx Bd.returns (own_lv X41 hlk (by decide) (by decide)) (hb hby own_d4_106) ⟨rfl, N41, (by rw [e41]; exact Kp42), (by rw [e41]; exact Fc43), (by rw [e41]; exact Fw41), (by rw [e41]; exact Fc44), (by rw [e41]; exact Fc45), (by rw [e41]; exact Fc46), (by rw [e41]; exact Fc47), (by rw [e41]; exact Fc48), (by rw [e41]; exact Fc49), (by rw [e41]; exact Fc50), (by rw [e41]; exact Fc51), (by rw [e41]; exact Fc52)⟩
theorem own_d6_0 : decode prog_115_method_2_code 0 = .ok (.lload_n 1, 1) := by decide +kernel
theorem own_d6_1 : decode prog_115_method_2_code 1 = .ok (.lconst 1, 1) := by decide +kernel
theorem own_d6_2 : decode prog_115_method_2_code 2 = .ok (.lsub, 1) := by decide +kernel
theorem own_d6_3 : decode prog_115_method_2_code 3 = .ok (.aload_n 0, 1) := by decide +kernel
theorem own_d6_4 : decode prog_115_method_2_code 4 = .ok (.getfield 34, 3) := by decide +kernel
theorem own_d6_7 : decode prog_115_method_2_code 7 = .ok (.lsub, 1) := by decide +kernel
theorem own_d6_8 : decode prog_115_method_2_code 8 = .ok (.lstore_n 3, 1) := by decide +kernel
theorem own_d6_9 : decode prog_115_method_2_code 9 = .ok (.aload_n 0, 1) := by decide +kernel
theorem own_d6_10 : decode prog_115_method_2_code 10 = .ok (.getfield 37, 3) := by decide +kernel
theorem own_d6_13 : decode prog_115_method_2_code 13 = .ok (.ifCond .eq 11, 3) := by decide +kernel
theorem own_d6_16 : decode prog_115_method_2_code 16 = .ok (.lload_n 3, 1) := by decide +kernel
theorem own_d6_17 : decode prog_115_method_2_code 17 = .ok (.lload_n 3, 1) := by decide +kernel
theorem own_d6_18 : decode prog_115_method_2_code 18 = .ok (.l2i, 1) := by decide +kernel
theorem own_d6_19 : decode prog_115_method_2_code 19 = .ok (.i2l, 1) := by decide +kernel
theorem own_d6_20 : decode prog_115_method_2_code 20 = .ok (.lcmp, 1) := by decide +kernel
theorem own_d6_21 : decode prog_115_method_2_code 21 = .ok (.ifCond .ne 7, 3) := by decide +kernel
theorem own_d6_24 : decode prog_115_method_2_code 24 = .ok (.iconst 1, 1) := by decide +kernel
theorem own_d6_25 : decode prog_115_method_2_code 25 = .ok (.goto 4, 3) := by decide +kernel
theorem own_d6_28 : decode prog_115_method_2_code 28 = .ok (.iconst 0, 1) := by decide +kernel
theorem own_d6_29 : decode prog_115_method_2_code 29 = .ok (.ireturn, 1) := by decide +kernel
def own_f6 (a0 : Addr) (q1 : Int64) (w1 : Int64) (w2 : Int32) : Int32 := (if w2 = (0 : Int32) then (1 : Int32) else (if ((q1 - (1 : Int64)) - w1) = ((((q1 - (1 : Int64)) - w1).toInt32).toInt64) then (1 : Int32) else (0 : Int32)))
theorem own_ef6 (m : MethodId) (a0 : Addr) (q1 : Int64) : entryFrame m #[(.ref a0), (.long q1)] 5 = mkF m 0 #[.val (.ref a0), .val (.long q1), .second, .unset, .unset] [] := by first | (simp [entryFrame, mkF, argsToLocals, Value.category]; done) | rfl
def own_Q6 (Z : State) (a0 : Addr) (q1 : Int64) (w1 : Int64) (w2 : Int32) (h0 : Heap) (n0 : Nat) (v : Option Value) (h : Heap) (L : List Loc) : Prop := v = some (.int (own_f6 a0 q1 w1 w2)) ∧ Fr n0 L ∧ h = h0
set_option maxRecDepth 65536 in
set_option maxHeartbeats 40000000 in
theorem own_rm6 (l : Launch) (Z : State) (aA : Array Value) (hw : ∀ d ∈ tables_1, d.before aA Z = true) (ws : List Jvm.Cond) (a0 : Addr) (q1 : Int64) (w1 : Int64) (w2 : Int32) (h0 : Heap) (n0 : Nat) (Z0 : n0 ≤ h0.size) (pre0 : Fld Z h0 a0 "tidemark/log/RecordMarks$RunMarking" "baseOffset" "J" (.long w1)) (pre1 : Fld Z h0 a0 "tidemark/log/RecordMarks$RunMarking" "batches" "I" (.int w2)) :
    MetFree l (⟨"tidemark/log/RecordMarks$RunMarking", "takes", "(J)Z"⟩ : MethodName) (head1 (Jvm.Cond.code (⟨"tidemark/log/RecordMarks$RunMarking", "takes", "(J)Z"⟩ : MethodName) prog_115_method_2_code 5 (some .boolean) :: ws) ({ frames := 0, cells := 0, slots := 0, locals := 0 } : Room)) (fun a U => a = #[(.ref a0), (.long q1)] ∧ Z.Warmed39 U.vm ∧ U.heap = h0) (fun _ _ _ _ _ => True) (fun _ U o U' => ∃ v L, o = .returned v ∧ own_Q6 Z a0 q1 w1 w2 h0 n0 v U'.heap L ∧ FrameEnd U o U' L ({ frames := 0, cells := 0, slots := 0, locals := 0 } : Room).cells ({ frames := 0, cells := 0, slots := 0, locals := 0 } : Room).slots) := by
  refine MetFree.of_bodySF (plainFor_of_name own_pn113) hisR ?_
  intro p e s m args below meth c s₁ Bd hml0 hP hK
  obtain ⟨rfl, hZ, hh⟩ := hP
  have hx := Bd.exec
  have hby := Bd.bytes
  have hlk : meth.locks = false := Bd.notSynchronized
  have hml : c.maxLocals = 5 := hml0
  have hown : s.vm.findClass "tidemark/log/RecordMarks$RunMarking" = some m.cls := findClass_of_methodNamed Bd.named
  have hnm := (name_of_methodNamed Bd.named Bd.method).1
  have X0 : Stand p l e ({ frames := 0, cells := 0, slots := 0, locals := 0 } : Room) s m #[(.ref a0), (.long q1)] below meth c s₁ [] 0 0 := Stand.of_body Bd
  have e0 : s₁.heap = h0 := by rw [← hh, Bd.state]; rfl
  have N0 := Fr.nil n0
  show OG p e below (FE s ({ frames := 0, cells := 0, slots := 0, locals := 0 } : Room).cells ({ frames := 0, cells := 0, slots := 0, locals := 0 } : Room).slots) (own_Q6 Z a0 q1 w1 w2 h0 n0) (s₁.setTop (entryFrame m #[(.ref a0), (.long q1)] 5))
  refine og_of (fun _ k => castTop (own_ef6 m a0 q1) k) ?_
  refine o_lloadN X0 hx rfl (hb hby own_d6_0) rfl ?_
  refine o_lconst (z := (1 : Int64)) X0 hx rfl (hb hby own_d6_1) (by decide) ?_
  obtain ⟨z1, hz1⟩ : ∃ z : Int64, q1 - (1 : Int64) = z := ⟨_, rfl⟩
  refine o_lsub (z := z1) X0 hx rfl (hb hby own_d6_2) hz1 ?_
  refine o_aloadN X0 hx rfl (hb hby own_d6_3) rfl rfl ?_
  obtain ⟨T2, X2, e2, st2⟩ := getF X0 hx hZ hown (host := "") (Or.inl (hw _ (List.mem_of_getElem? (i := 36) rfl))) Via.refl e0 pre0 (g := (mkF m 4 #[.val (.ref a0), .val (.long q1), .second, .unset, .unset] [(.ref a0), (.long z1)])) rfl rfl (hb hby own_d6_4)
  refine og_of st2 ?_
  show OG p e below _ _ (T2.setTop (mkF m 7 #[.val (.ref a0), .val (.long q1), .second, .unset, .unset] [(.long w1), (.long z1)]))
  obtain ⟨z3, hz3⟩ : ∃ z : Int64, z1 - w1 = z := ⟨_, rfl⟩
  refine o_lsub (z := z3) X2 hx rfl (hb hby own_d6_7) hz3 ?_
  refine o_lstoreN X2 hx rfl (hb hby own_d6_8) (L' := #[.val (.ref a0), .val (.long q1), .second, .val (.long z3), .second]) rfl ?_
  refine o_aloadN X2 hx rfl (hb hby own_d6_9) rfl rfl ?_
  obtain ⟨T4, X4, e4, st4⟩ := getF X2 hx hZ hown (host := "") (Or.inl (hw _ (List.mem_of_getElem? (i := 34) rfl))) Via.refl e2 pre1 (g := (mkF m 10 #[.val (.ref a0), .val (.long q1), .second, .val (.long z3), .second] [(.ref a0)])) rfl rfl (hb hby own_d6_10)
  refine og_of st4 ?_
  show OG p e below _ _ (T4.setTop (mkF m 13 #[.val (.ref a0), .val (.long q1), .second, .val (.long z3), .second] [(.int w2)]))
  by_cases hc5 : w2 = (0 : Int32)
  · skip
    refine o_ifY (pc' := 24) X4 hx (hb hby own_d6_13) ((if0 _ _).trans (teq hc5).1) (by decide) (by decide) ?_
    refine o_iconst (z := (1 : Int32)) X4 hx rfl (hb hby own_d6_24) (by decide) ?_
    refine o_goto (pc' := 29) X4 hx (hb hby own_d6_25) (by decide) (by decide) ?_
    subst hz1 hz3
    exact o_retB X4 hx Bd.returns (own_lv X4 hlk (by decide) (by decide)) (hb hby own_d6_29) (by decide) ⟨(by rw [own_f6, if_pos hc5]), N0, e4⟩
  · skip
    refine o_ifN (pc' := 16) X4 hx rfl (hb hby own_d6_13) ((if0 _ _).trans (feq hc5).1) ?_
    refine o_lloadN X4 hx rfl (hb hby own_d6_16) rfl ?_
    refine o_lloadN X4 hx rfl (hb hby own_d6_17) rfl ?_
    obtain ⟨z6, hz6⟩ : ∃ z : Int32, z3.toInt32 = z := ⟨_, rfl⟩
    refine o_l2i (z := z6) X4 hx rfl (hb hby own_d6_18) hz6 ?_
    obtain ⟨z7, hz7⟩ : ∃ z : Int64, z6.toInt64 = z := ⟨_, rfl⟩
    refine o_i2l (z := z7) X4 hx rfl (hb hby own_d6_19) hz7 ?_
    refine o_lcmp X4 hx rfl (hb hby own_d6_20) ?_
    by_cases hc8 : z3 = z7
    · skip
      refine o_ifN (pc' := 24) X4 hx rfl (hb hby own_d6_21) (lcY_eq hc8).2 ?_
      refine o_iconst (z := (1 : Int32)) X4 hx rfl (hb hby own_d6_24) (by decide) ?_
      refine o_goto (pc' := 29) X4 hx (hb hby own_d6_25) (by decide) (by decide) ?_
      subst hz1 hz3 hz6 hz7
      exact o_retB X4 hx Bd.returns (own_lv X4 hlk (by decide) (by decide)) (hb hby own_d6_29) (by decide) ⟨(by rw [own_f6, if_neg hc5, if_pos hc8]), N0, e4⟩
    · skip
      refine o_ifY (pc' := 28) X4 hx (hb hby own_d6_21) (lcN_eq hc8).2 (by decide) (by decide) ?_
      refine o_iconst (z := (0 : Int32)) X4 hx rfl (hb hby own_d6_28) (by decide) ?_
      subst hz1 hz3 hz6 hz7
      exact o_retB X4 hx Bd.returns (own_lv X4 hlk (by decide) (by decide)) (hb hby own_d6_29) (by decide) ⟨(by rw [own_f6, if_neg hc5, if_neg hc8]), N0, e4⟩
theorem own_d11_0 : decode prog_105_method_1_code 0 = .ok (.aload_n 0, 1) := by decide +kernel
theorem own_d11_1 : decode prog_105_method_1_code 1 = .ok (.invokespecial 5, 3) := by decide +kernel
theorem own_d11_4 : decode prog_105_method_1_code 4 = .ok (.return_, 1) := by decide +kernel
theorem own_ef11 (m : MethodId) (a0 : Addr) : entryFrame m #[(.ref a0)] 1 = mkF m 0 #[.val (.ref a0)] [] := by first | (simp [entryFrame, mkF, argsToLocals, Value.category]; done) | rfl
def own_Q11 (Z : State) (a0 : Addr) (h0 : Heap) (n0 : Nat) (v : Option Value) (h : Heap) (L : List Loc) : Prop := v = none ∧ Fr n0 L ∧ h = h0
theorem own_pn194 : plainName "tidemark/log/RecordMarks" = true := by first | (simp [plainName, overriddenIn]; done) | decide +kernel
set_option maxRecDepth 65536 in
set_option maxHeartbeats 40000000 in
theorem own_rm11 (l : Launch) (Z : State) (aA : Array Value) (hw : ∀ d ∈ tables_1, d.before aA Z = true) (ws : List Jvm.Cond) (a0 : Addr) (h0 : Heap) (n0 : Nat) (Z0 : n0 ≤ h0.size) :
    MetFree l (⟨"tidemark/log/RecordMarks", "<init>", "()V"⟩ : MethodName) (head1 (Jvm.Cond.code (⟨"tidemark/log/RecordMarks", "<init>", "()V"⟩ : MethodName) prog_105_method_1_code 1 none :: ws) ({ frames := 1, cells := 0, slots := 0, locals := 12 } : Room)) (fun a U => a = #[(.ref a0)] ∧ Z.Warmed39 U.vm ∧ U.heap = h0) (fun _ _ _ _ _ => True) (fun _ U o U' => ∃ v L, o = .returned v ∧ own_Q11 Z a0 h0 n0 v U'.heap L ∧ FrameEnd U o U' L ({ frames := 1, cells := 0, slots := 0, locals := 12 } : Room).cells ({ frames := 1, cells := 0, slots := 0, locals := 12 } : Room).slots) := by
  refine MetFree.of_bodySF (plainFor_of_name own_pn194) hisR ?_
  intro p e s m args below meth c s₁ Bd hml0 hP hK
  obtain ⟨rfl, hZ, hh⟩ := hP
  have hx := Bd.exec
  have hby := Bd.bytes
  have hlk : meth.locks = false := Bd.notSynchronized
  have hml : c.maxLocals = 1 := hml0
  have hown : s.vm.findClass "tidemark/log/RecordMarks" = some m.cls := findClass_of_methodNamed Bd.named
  have hnm := (name_of_methodNamed Bd.named Bd.method).1
  have X0 : Stand p l e ({ frames := 1, cells := 0, slots := 0, locals := 12 } : Room) s m #[(.ref a0)] below meth c s₁ [] 0 0 := Stand.of_body Bd
  have e0 : s₁.heap = h0 := by rw [← hh, Bd.state]; rfl
  have N0 := Fr.nil n0
  show OG p e below (FE s ({ frames := 1, cells := 0, slots := 0, locals := 12 } : Room).cells ({ frames := 1, cells := 0, slots := 0, locals := 12 } : Room).slots) (own_Q11 Z a0 h0 n0) (s₁.setTop (entryFrame m #[(.ref a0)] 1))
  refine og_of (fun _ k => castTop (own_ef11 m a0) k) ?_
  refine o_aloadN X0 hx rfl (hb hby own_d11_0) rfl rfl ?_
  obtain ⟨T1, X1, e1, st1⟩ := initO X0 hx hZ hown (hw _ (List.mem_of_getElem? (i := 86) rfl)) (hw _ (List.mem_of_getElem? (i := 8) rfl)) (hw _ (List.mem_of_getElem? (i := 9) rfl)) e0 (g := (mkF m 1 #[.val (.ref a0)] [(.ref a0)])) rfl (by rw [hml]; rfl) rfl (hb hby own_d11_1) (by decide) (W := 0) (by show 2 * 0 + _ ≤ _; exact Nat.le_of_eq rfl) (by decide)
  refine og_of st1 ?_
  show OG p e below _ _ (T1.setTop (mkF m 4 #[.val (.ref a0)] []))
  exact o_ret0 X1 hx Bd.returns (own_lv X1 hlk (by decide) (by decide)) (hb hby own_d11_4) ⟨rfl, N0, e1⟩
theorem own_d12_0 : decode jdk_29_method_43_code 0 = .ok (.lload_n 0, 1) := by decide +kernel
theorem own_d12_1 : decode jdk_29_method_43_code 1 = .ok (.l2i, 1) := by decide +kernel
theorem own_d12_2 : decode jdk_29_method_43_code 2 = .ok (.i2l, 1) := by decide +kernel
theorem own_d12_3 : decode jdk_29_method_43_code 3 = .ok (.lload_n 0, 1) := by decide +kernel
theorem own_d12_4 : decode jdk_29_method_43_code 4 = .ok (.lcmp, 1) := by decide +kernel
theorem own_d12_5 : decode jdk_29_method_43_code 5 = .ok (.ifCond .eq 13, 3) := by decide +kernel
theorem own_d12_18 : decode jdk_29_method_43_code 18 = .ok (.lload_n 0, 1) := by decide +kernel
theorem own_d12_19 : decode jdk_29_method_43_code 19 = .ok (.l2i, 1) := by decide +kernel
theorem own_d12_20 : decode jdk_29_method_43_code 20 = .ok (.ireturn, 1) := by decide +kernel
theorem own_ef12 (m : MethodId) (q0 : Int64) : entryFrame m #[(.long q0)] 2 = mkF m 0 #[.val (.long q0), .second] [] := by first | (simp [entryFrame, mkF, argsToLocals, Value.category]; done) | rfl
def own_Q12 (Z : State) (q0 : Int64) (h0 : Heap) (n0 : Nat) (v : Option Value) (h : Heap) (L : List Loc) : Prop := v = some (.int (q0.toInt32)) ∧ Fr n0 L ∧ h = h0
set_option maxRecDepth 65536 in
set_option maxHeartbeats 40000000 in
theorem own_rm12 (l : Launch) (Z : State) (aA : Array Value) (hw : ∀ d ∈ tables_1, d.before aA Z = true) (ws : List Jvm.Cond) (q0 : Int64) (h0 : Heap) (n0 : Nat) (Z0 : n0 ≤ h0.size) (hX : q0.toInt32.toInt64 = q0) :
    MetFree l (⟨"java/lang/Math", "toIntExact", "(J)I"⟩ : MethodName) (head1 (Jvm.Cond.code (⟨"java/lang/Math", "toIntExact", "(J)I"⟩ : MethodName) jdk_29_method_43_code 2 (some .int) :: ws) ({ frames := 0, cells := 0, slots := 0, locals := 0 } : Room)) (fun a U => a = #[(.long q0)] ∧ Z.Warmed39 U.vm ∧ U.heap = h0) (fun _ _ _ _ _ => True) (fun _ U o U' => ∃ v L, o = .returned v ∧ own_Q12 Z q0 h0 n0 v U'.heap L ∧ FrameEnd U o U' L ({ frames := 0, cells := 0, slots := 0, locals := 0 } : Room).cells ({ frames := 0, cells := 0, slots := 0, locals := 0 } : Room).slots) := by
  refine MetFree.of_bodySF (Jvm.Free.JP.mathPlain rfl (by decide +kernel)) hisR ?_
  intro p e s m args below meth c s₁ Bd hml0 hP hK
  obtain ⟨rfl, hZ, hh⟩ := hP
  have hx := Bd.exec
  have hby := Bd.bytes
  have hlk : meth.locks = false := Bd.notSynchronized
  have hml : c.maxLocals = 2 := hml0
  have hown : s.vm.findClass "java/lang/Math" = some m.cls := findClass_of_methodNamed Bd.named
  have hnm := (name_of_methodNamed Bd.named Bd.method).1
  have X0 : Stand p l e ({ frames := 0, cells := 0, slots := 0, locals := 0 } : Room) s m #[(.long q0)] below meth c s₁ [] 0 0 := Stand.of_body Bd
  have e0 : s₁.heap = h0 := by rw [← hh, Bd.state]; rfl
  have N0 := Fr.nil n0
  show OG p e below (FE s ({ frames := 0, cells := 0, slots := 0, locals := 0 } : Room).cells ({ frames := 0, cells := 0, slots := 0, locals := 0 } : Room).slots) (own_Q12 Z q0 h0 n0) (s₁.setTop (entryFrame m #[(.long q0)] 2))
  refine og_of (fun _ k => castTop (own_ef12 m q0) k) ?_
  refine o_lloadN X0 hx rfl (hb hby own_d12_0) rfl ?_
  refine o_l2i (z := (q0.toInt32)) X0 hx rfl (hb hby own_d12_1) rfl ?_
  refine o_i2l (z := ((q0.toInt32).toInt64)) X0 hx rfl (hb hby own_d12_2) rfl ?_
  refine o_lloadN X0 hx rfl (hb hby own_d12_3) rfl ?_
  refine o_lcmp X0 hx rfl (hb hby own_d12_4) ?_
  have hk1 : ((q0.toInt32).toInt64) = q0 := hX
  refine o_ifY (pc' := 18) X0 hx (hb hby own_d12_5) (lcY_eq hk1).1 (by decide) (by decide) ?_
  refine o_lloadN X0 hx rfl (hb hby own_d12_18) rfl ?_
  refine o_l2i (z := (q0.toInt32)) X0 hx rfl (hb hby own_d12_19) rfl ?_
  exact o_retI X0 hx Bd.returns (own_lv X0 hlk (by decide) (by decide)) (hb hby own_d12_20) ⟨rfl, N0, e0⟩
theorem own_pd5 : parseMethodDescriptor "()V" = some ⟨[], none⟩ := by decide +kernel
theorem own_pd6 : parseMethodDescriptor "(J)I" = some ⟨[.long], some .int⟩ := by decide +kernel
theorem own_d10_0 : decode prog_116_method_1_code 0 = .ok (.aload_n 0, 1) := by decide +kernel
theorem own_d10_1 : decode prog_116_method_1_code 1 = .ok (.invokespecial 3, 3) := by decide +kernel
theorem own_d10_4 : decode prog_116_method_1_code 4 = .ok (.aload_n 0, 1) := by decide +kernel
theorem own_d10_5 : decode prog_116_method_1_code 5 = .ok (.lload_n 1, 1) := by decide +kernel
theorem own_d10_6 : decode prog_116_method_1_code 6 = .ok (.putfield 7, 3) := by decide +kernel
theorem own_d10_9 : decode prog_116_method_1_code 9 = .ok (.aload_n 0, 1) := by decide +kernel
theorem own_d10_10 : decode prog_116_method_1_code 10 = .ok (.iload_n 3, 1) := by decide +kernel
theorem own_d10_11 : decode prog_116_method_1_code 11 = .ok (.putfield 13, 3) := by decide +kernel
theorem own_d10_14 : decode prog_116_method_1_code 14 = .ok (.aload_n 0, 1) := by decide +kernel
theorem own_d10_15 : decode prog_116_method_1_code 15 = .ok (.lload 4, 2) := by decide +kernel
theorem own_d10_17 : decode prog_116_method_1_code 17 = .ok (.putfield 17, 3) := by decide +kernel
theorem own_d10_20 : decode prog_116_method_1_code 20 = .ok (.aload_n 0, 1) := by decide +kernel
theorem own_d10_21 : decode prog_116_method_1_code 21 = .ok (.lload 6, 2) := by decide +kernel
theorem own_d10_23 : decode prog_116_method_1_code 23 = .ok (.lconst 1, 1) := by decide +kernel
theorem own_d10_24 : decode prog_116_method_1_code 24 = .ok (.lsub, 1) := by decide +kernel
theorem own_d10_25 : decode prog_116_method_1_code 25 = .ok (.lload 4, 2) := by decide +kernel
theorem own_d10_27 : decode prog_116_method_1_code 27 = .ok (.lsub, 1) := by decide +kernel
theorem own_d10_28 : decode prog_116_method_1_code 28 = .ok (.invokestatic 20, 3) := by decide +kernel
theorem own_d10_31 : decode prog_116_method_1_code 31 = .ok (.putfield 26, 3) := by decide +kernel
theorem own_d10_34 : decode prog_116_method_1_code 34 = .ok (.aload_n 0, 1) := by decide +kernel
theorem own_d10_35 : decode prog_116_method_1_code 35 = .ok (.lload 8, 2) := by decide +kernel
theorem own_d10_37 : decode prog_116_method_1_code 37 = .ok (.putfield 29, 3) := by decide +kernel
theorem own_d10_40 : decode prog_116_method_1_code 40 = .ok (.aload_n 0, 1) := by decide +kernel
theorem own_d10_41 : decode prog_116_method_1_code 41 = .ok (.aload 10, 2) := by decide +kernel
theorem own_d10_43 : decode prog_116_method_1_code 43 = .ok (.putfield 32, 3) := by decide +kernel
theorem own_d10_46 : decode prog_116_method_1_code 46 = .ok (.return_, 1) := by decide +kernel
theorem own_ef10 (m : MethodId) (a0 : Addr) (q1 : Int64) (p2 : Int32) (q3 : Int64) (q4 : Int64) (q5 : Int64) (a6 : Addr) : entryFrame m #[(.ref a0), (.long q1), (.int p2), (.long q3), (.long q4), (.long q5), (.ref a6)] 11 = mkF m 0 #[.val (.ref a0), .val (.long q1), .second, .val (.int p2), .val (.long q3), .second, .val (.long q4), .second, .val (.long q5), .second, .val (.ref a6)] [] := by first | (simp [entryFrame, mkF, argsToLocals, Value.category]; done) | rfl
def own_Q10 (Z : State) (a0 : Addr) (q1 : Int64) (p2 : Int32) (q3 : Int64) (q4 : Int64) (q5 : Int64) (a6 : Addr) (h0 : Heap) (n0 : Nat) (v : Option Value) (h : Heap) (L : List Loc) : Prop := v = none ∧ Fr n0 L ∧ Keep h0 h [a0] ∧ Fld Z h a0 "tidemark/log/RecordMarks$Span" "position" "J" (.long q1) ∧ Fld Z h a0 "tidemark/log/RecordMarks$Span" "size" "I" (.int p2) ∧ Fld Z h a0 "tidemark/log/RecordMarks$Span" "baseOffset" "J" (.long q3) ∧ Fld Z h a0 "tidemark/log/RecordMarks$Span" "lastOffsetDelta" "I" (.int (((q4 - (1 : Int64)) - q3).toInt32)) ∧ Fld Z h a0 "tidemark/log/RecordMarks$Span" "maxTimestamp" "J" (.long q5) ∧ Fld Z h a0 "tidemark/log/RecordMarks$Span" "later" "[I" (.ref a6)
theorem own_pn230 : plainName "tidemark/log/RecordMarks$Span" = true := by first | (simp [plainName, overriddenIn]; done) | decide +kernel
set_option maxRecDepth 65536 in
set_option maxHeartbeats 40000000 in
theorem own_rm10 (l : Launch) (Z : State) (aA : Array Value) (hw : ∀ d ∈ tables_1, d.before aA Z = true) (ws : List Jvm.Cond) (a0 : Addr) (q1 : Int64) (p2 : Int32) (q3 : Int64) (q4 : Int64) (q5 : Int64) (a6 : Addr) (h0 : Heap) (n0 : Nat) (Z0 : n0 ≤ h0.size) (pre0 : Exa Z h0 a0 "tidemark/log/RecordMarks$InRun") (pre1 : n0 ≤ a0) (pre2 : Fld Z h0 a0 "tidemark/log/RecordMarks$Span" "position" "J" (.long (0 : Int64))) (pre3 : Fld Z h0 a0 "tidemark/log/RecordMarks$Span" "size" "I" (.int (0 : Int32))) (pre4 : Fld Z h0 a0 "tidemark/log/RecordMarks$Span" "baseOffset" "J" (.long (0 : Int64))) (pre5 : Fld Z h0 a0 "tidemark/log/RecordMarks$Span" "lastOffsetDelta" "I" (.int (0 : Int32))) (pre6 : Fld Z h0 a0 "tidemark/log/RecordMarks$Span" "maxTimestamp" "J" (.long (0 : Int64))) (pre7 : Fld Z h0 a0 "tidemark/log/RecordMarks$Span" "later" "[I" .null) (hX : (((q4 - (1 : Int64)) - q3).toInt32).toInt64 = ((q4 - (1 : Int64)) - q3)) :
    MetFree l (⟨"tidemark/log/RecordMarks$Span", "<init>", "(JIJJJ[I)V"⟩ : MethodName) (head1 (Jvm.Cond.code (⟨"tidemark/log/RecordMarks$Span", "<init>", "(JIJJJ[I)V"⟩ : MethodName) prog_116_method_1_code 11 none :: ws) ({ frames := 2, cells := 0, slots := 0, locals := 24 } : Room)) (fun a U => a = #[(.ref a0), (.long q1), (.int p2), (.long q3), (.long q4), (.long q5), (.ref a6)] ∧ Z.Warmed39 U.vm ∧ U.heap = h0) (fun _ _ _ _ _ => True) (fun _ U o U' => ∃ v L, o = .returned v ∧ own_Q10 Z a0 q1 p2 q3 q4 q5 a6 h0 n0 v U'.heap L ∧ FrameEnd U o U' L ({ frames := 2, cells := 0, slots := 0, locals := 24 } : Room).cells ({ frames := 2, cells := 0, slots := 0, locals := 24 } : Room).slots) := by
  refine MetFree.of_bodySF (plainFor_of_name own_pn230) hisR ?_
  intro p e s m args below meth c s₁ Bd hml0 hP hK
  obtain ⟨rfl, hZ, hh⟩ := hP
  have hx := Bd.exec
  have hby := Bd.bytes
  have hlk : meth.locks = false := Bd.notSynchronized
  have hml : c.maxLocals = 11 := hml0
  have hown : s.vm.findClass "tidemark/log/RecordMarks$Span" = some m.cls := findClass_of_methodNamed Bd.named
  have hnm := (name_of_methodNamed Bd.named Bd.method).1
  have X0 : Stand p l e ({ frames := 2, cells := 0, slots := 0, locals := 24 } : Room) s m #[(.ref a0), (.long q1), (.int p2), (.long q3), (.long q4), (.long q5), (.ref a6)] below meth c s₁ [] 0 0 := Stand.of_body Bd
  have e0 : s₁.heap = h0 := by rw [← hh, Bd.state]; rfl
  have N0 := Fr.nil n0
  show OG p e below (FE s ({ frames := 2, cells := 0, slots := 0, locals := 24 } : Room).cells ({ frames := 2, cells := 0, slots := 0, locals := 24 } : Room).slots) (own_Q10 Z a0 q1 p2 q3 q4 q5 a6 h0 n0) (s₁.setTop (entryFrame m #[(.ref a0), (.long q1), (.int p2), (.long q3), (.long q4), (.long q5), (.ref a6)] 11))
  refine og_of (fun _ k => castTop (own_ef10 m a0 q1 p2 q3 q4 q5 a6) k) ?_
  refine o_aloadN X0 hx rfl (hb hby own_d10_0) rfl rfl ?_
  obtain ⟨_, _, ⟨T1, L1, k1, n1⟩, -, X1, ⟨Lc1, hQ1, l1, y1, z1⟩, st1⟩ := X0.specialBackNest hx (y := (⟨"tidemark/log/RecordMarks", "<init>", "()V"⟩ : MethodName)) rfl hown (own_mvM hZ (hw _ (List.mem_of_getElem? (i := 82) rfl))) (mvT hZ (hw _ (List.mem_of_getElem? (i := 83) rfl))) (mvT hZ (hw _ (List.mem_of_getElem? (i := 85) rfl))) (by decide) (backOf (W := 0) (own_rm11 l Z aA hw [] a0 h0 n0 Z0) hZ (hw _ (List.mem_of_getElem? (i := 85) rfl)) (hw _ (List.mem_of_getElem? (i := 72) rfl)) (by decide) (by decide)) (g := (mkF m 1 #[.val (.ref a0), .val (.long q1), .second, .val (.int p2), .val (.long q3), .second, .val (.long q4), .second, .val (.long q5), .second, .val (.ref a6)] [(.ref a0)])) rfl (by rw [hml]; rfl) (Steps.refl _) (a := a0) (argsL := []) (rest := []) (lenOf own_pd5 rfl) rfl (by show 2 * 0 + _ ≤ _; exact Nat.le_of_eq rfl) (hb hby own_d10_1) (fun _ _ => ⟨rfl, e0, Nat.le_of_ble_eq_true rfl, Nat.le_of_ble_eq_true rfl⟩)
  dsimp only [Pt.U, Pt.locs, Pt.cells, Pt.slots] at X1 l1 y1 z1 st1 hQ1
  subst l1 y1 z1
  obtain ⟨rfl, N1q, ee1⟩ := hQ1
  have N2 := Fr.app N0 N1q
  refine og_tr st1 ?_
  show OG p e below _ _ (T1.setTop (mkF m 4 #[.val (.ref a0), .val (.long q1), .second, .val (.int p2), .val (.long q3), .second, .val (.long q4), .second, .val (.long q5), .second, .val (.ref a6)] []))
  refine o_aloadN X1 hx rfl (hb hby own_d10_4) rfl rfl ?_
  refine o_lloadN X1 hx rfl (hb hby own_d10_5) rfl ?_
  obtain ⟨T3, h3, X3, e3, W3, st3⟩ := putF X1 hx hZ hown (host := "") (Or.inl (hw _ (List.mem_of_getElem? (i := 87) rfl))) Via.refl ee1 pre2 pre0 (Or.inr ⟨(hw _ (List.mem_of_getElem? (i := 88) rfl)), rfl, hnm⟩) (hw _ (List.mem_of_getElem? (i := 62) rfl)) (ty := .long) (by decide) rfl rfl (g := (mkF m 6 #[.val (.ref a0), .val (.long q1), .second, .val (.int p2), .val (.long q3), .second, .val (.long q4), .second, .val (.long q5), .second, .val (.ref a6)] [(.long q1), (.ref a0)])) rfl rfl (hb hby own_d10_6)
  have Fw3 := pre2.same W3
  have N3 := Fr.snoc X3 N2 pre1
  have Kp4 : Keep h0 h3 [a0] := (Keep.refl h0 [a0]).wr W3 (Or.inl (List.mem_of_getElem? (i := 0) rfl))
  refine og_of st3 ?_
  show OG p e below _ _ (T3.setTop (mkF m 9 #[.val (.ref a0), .val (.long q1), .second, .val (.int p2), .val (.long q3), .second, .val (.long q4), .second, .val (.long q5), .second, .val (.ref a6)] []))
  refine o_aloadN X3 hx rfl (hb hby own_d10_9) rfl rfl ?_
  refine o_iloadN X3 hx rfl (hb hby own_d10_10) rfl ?_
  have Fc5 : Exa Z h3 a0 "tidemark/log/RecordMarks$InRun" := (Exa.wr W3 pre0)
  have Fc6 : Fld Z h3 a0 "tidemark/log/RecordMarks$Span" "size" "I" (.int (0 : Int32)) := (Fld.other W3 pre3 (Or.inr (slot_ne (Or.inr (hw _ (List.mem_of_getElem? (i := 90) rfl))) (Or.inr (hw _ (List.mem_of_getElem? (i := 88) rfl))) (by decide) (t := .int) (t' := .long) (by decide) (by decide))))
  obtain ⟨T7, h7, X7, e7, W7, st7⟩ := putF X3 hx hZ hown (host := "") (Or.inl (hw _ (List.mem_of_getElem? (i := 89) rfl))) Via.refl e3 Fc6 Fc5 (Or.inr ⟨(hw _ (List.mem_of_getElem? (i := 90) rfl)), rfl, hnm⟩) (hw _ (List.mem_of_getElem? (i := 62) rfl)) (ty := .int) (by decide) rfl rfl (g := (mkF m 11 #[.val (.ref a0), .val (.long q1), .second, .val (.int p2), .val (.long q3), .second, .val (.long q4), .second, .val (.long q5), .second, .val (.ref a6)] [(.int p2), (.ref a0)])) rfl rfl (hb hby own_d10_11)
  have Fw7 := Fc6.same W7
  have N7 := Fr.snoc X7 N3 pre1
  have Kp8 : Keep h0 h7 [a0] := Kp4.wr W7 (Or.inl (List.mem_of_getElem? (i := 0) rfl))
  refine og_of st7 ?_
  show OG p e below _ _ (T7.setTop (mkF m 14 #[.val (.ref a0), .val (.long q1), .second, .val (.int p2), .val (.long q3), .second, .val (.long q4), .second, .val (.long q5), .second, .val (.ref a6)] []))
  refine o_aloadN X7 hx rfl (hb hby own_d10_14) rfl rfl ?_
  refine o_lload X7 hx rfl (hb hby own_d10_15) rfl ?_
  have Fc9 : Exa Z h7 a0 "tidemark/log/RecordMarks$InRun" := (Exa.wr W7 Fc5)
  have Fc10 : Fld Z h7 a0 "tidemark/log/RecordMarks$Span" "baseOffset" "J" (.long (0 : Int64)) := (Fld.other W7 (Fld.other W3 pre4 (Or.inr (slot_ne (Or.inr (hw _ (List.mem_of_getElem? (i := 92) rfl))) (Or.inr (hw _ (List.mem_of_getElem? (i := 88) rfl))) (by decide) (t := .long) (t' := .long) (by decide) (by decide)))) (Or.inr (slot_ne (Or.inr (hw _ (List.mem_of_getElem? (i := 92) rfl))) (Or.inr (hw _ (List.mem_of_getElem? (i := 90) rfl))) (by decide) (t := .long) (t' := .int) (by decide) (by decide))))
  obtain ⟨T11, h11, X11, e11, W11, st11⟩ := putF X7 hx hZ hown (host := "") (Or.inl (hw _ (List.mem_of_getElem? (i := 91) rfl))) Via.refl e7 Fc10 Fc9 (Or.inr ⟨(hw _ (List.mem_of_getElem? (i := 92) rfl)), rfl, hnm⟩) (hw _ (List.mem_of_getElem? (i := 62) rfl)) (ty := .long) (by decide) rfl rfl (g := (mkF m 17 #[.val (.ref a0), .val (.long q1), .second, .val (.int p2), .val (.long q3), .second, .val (.long q4), .second, .val (.long q5), .second, .val (.ref a6)] [(.long q3), (.ref a0)])) rfl rfl (hb hby own_d10_17)
  have Fw11 := Fc10.same W11
  have N11 := Fr.snoc X11 N7 pre1
  have Kp12 : Keep h0 h11 [a0] := Kp8.wr W11 (Or.inl (List.mem_of_getElem? (i := 0) rfl))
  refine og_of st11 ?_
  show OG p e below _ _ (T11.setTop (mkF m 20 #[.val (.ref a0), .val (.long q1), .second, .val (.int p2), .val (.long q3), .second, .val (.long q4), .second, .val (.long q5), .second, .val (.ref a6)] []))
  refine o_aloadN X11 hx rfl (hb hby own_d10_20) rfl rfl ?_
  refine o_lload X11 hx rfl (hb hby own_d10_21) rfl ?_
  refine o_lconst (z := (1 : Int64)) X11 hx rfl (hb hby own_d10_23) (by decide) ?_
  refine o_lsub (z := (q4 - (1 : Int64))) X11 hx rfl (hb hby own_d10_24) rfl ?_
  refine o_lload X11 hx rfl (hb hby own_d10_25) rfl ?_
  refine o_lsub (z := ((q4 - (1 : Int64)) - q3)) X11 hx rfl (hb hby own_d10_27) rfl ?_
  have hw_14 : ((q4 - (1 : Int64)) - q3).toInt32.toInt64 = ((q4 - (1 : Int64)) - q3) := hX
  obtain ⟨_, _, ⟨T13, L13, k13, n13⟩, -, X13, ⟨Lc13, hQ13, l13, y13, z13⟩, st13⟩ := Jvm.LawKit.callS X11 hx (y := (⟨"java/lang/Math", "toIntExact", "(J)I"⟩ : MethodName)) hown (mvT hZ (hw _ (List.mem_of_getElem? (i := 93) rfl))) (mvT hZ (hw _ (List.mem_of_getElem? (i := 94) rfl))) (mvT hZ (hw _ (List.mem_of_getElem? (i := 42) rfl))) (mvT hZ (hw _ (List.mem_of_getElem? (i := 95) rfl))) (by decide) (backOf (W := 1) (own_rm12 l Z aA hw [] ((q4 - (1 : Int64)) - q3) h11 n0 (Nat.le_trans (Nat.le_trans (Nat.le_trans Z0 (Keep.of_wr W3).1) (Keep.of_wr W7).1) (Keep.of_wr W11).1) hw_14) hZ (hw _ (List.mem_of_getElem? (i := 95) rfl)) (hw _ (List.mem_of_getElem? (i := 42) rfl)) (by decide) (by decide)) (g := (mkF m 28 #[.val (.ref a0), .val (.long q1), .second, .val (.int p2), .val (.long q3), .second, .val (.long q4), .second, .val (.long q5), .second, .val (.ref a6)] [(.long ((q4 - (1 : Int64)) - q3)), (.ref a0)])) rfl (by rw [hml]; rfl) (argsL := [(.long ((q4 - (1 : Int64)) - q3))]) (rest := [(.ref a0)]) (lenOf own_pd6 rfl) rfl (by show 2 * 0 + _ ≤ _; exact Nat.le_of_eq rfl) (hb hby own_d10_28) (fun _ _ => ⟨rfl, e11, Nat.le_of_ble_eq_true rfl, Nat.le_of_ble_eq_true rfl⟩)
  dsimp only [Pt.U, Pt.locs, Pt.cells, Pt.slots] at X13 l13 y13 z13 st13 hQ13
  subst l13 y13 z13
  obtain ⟨rfl, N13q, ee13⟩ := hQ13
  have N15 := Fr.app N11 N13q
  refine og_of st13 ?_
  show OG p e below _ _ (T13.setTop (mkF m 31 #[.val (.ref a0), .val (.long q1), .second, .val (.int p2), .val (.long q3), .second, .val (.long q4), .second, .val (.long q5), .second, .val (.ref a6)] [(.int (((q4 - (1 : Int64)) - q3).toInt32)), (.ref a0)]))
  have Fc16 : Exa Z h11 a0 "tidemark/log/RecordMarks$InRun" := (Exa.wr W11 Fc9)
  have Fc17 : Fld Z h11 a0 "tidemark/log/RecordMarks$Span" "lastOffsetDelta" "I" (.int (0 : Int32)) := (Fld.other W11 (Fld.other W7 (Fld.other W3 pre5 (Or.inr (slot_ne (Or.inr (hw _ (List.mem_of_getElem? (i := 97) rfl))) (Or.inr (hw _ (List.mem_of_getElem? (i := 88) rfl))) (by decide) (t := .int) (t' := .long) (by decide) (by decide)))) (Or.inr (slot_ne (Or.inr (hw _ (List.mem_of_getElem? (i := 97) rfl))) (Or.inr (hw _ (List.mem_of_getElem? (i := 90) rfl))) (by decide) (t := .int) (t' := .int) (by decide) (by decide)))) (Or.inr (slot_ne (Or.inr (hw _ (List.mem_of_getElem? (i := 97) rfl))) (Or.inr (hw _ (List.mem_of_getElem? (i := 92) rfl))) (by decide) (t := .int) (t' := .long) (by decide) (by decide))))
  obtain ⟨T18, h18, X18, e18, W18, st18⟩ := putF X13 hx hZ hown (host := "") (Or.inl (hw _ (List.mem_of_getElem? (i := 96) rfl))) Via.refl ee13 Fc17 Fc16 (Or.inr ⟨(hw _ (List.mem_of_getElem? (i := 97) rfl)), rfl, hnm⟩) (hw _ (List.mem_of_getElem? (i := 62) rfl)) (ty := .int) (by decide) rfl rfl (g := (mkF m 31 #[.val (.ref a0), .val (.long q1), .second, .val (.int p2), .val (.long q3), .second, .val (.long q4), .second, .val (.long q5), .second, .val (.ref a6)] [(.int (((q4 - (1 : Int64)) - q3).toInt32)), (.ref a0)])) rfl rfl (hb hby own_d10_31)
  have Fw18 := Fc17.same W18
  have N18 := Fr.snoc X18 N15 pre1
  have Kp19 : Keep h0 h18 [a0] := Kp12.wr W18 (Or.inl (List.mem_of_getElem? (i := 0) rfl))
  refine og_of st18 ?_
  show OG p e below _ _ (T18.setTop (mkF m 34 #[.val (.ref a0), .val (.long q1), .second, .val (.int p2), .val (.long q3), .second, .val (.long q4), .second, .val (.long q5), .second, .val (.ref a6)] []))
  refine o_aloadN X18 hx rfl (hb hby own_d10_34) rfl rfl ?_
  refine o_lload X18 hx rfl (hb hby own_d10_35) rfl ?_
  have Fc20 : Exa Z h18 a0 "tidemark/log/RecordMarks$InRun" := (Exa.wr W18 Fc16)
  have Fc21 : Fld Z h18 a0 "tidemark/log/RecordMarks$Span" "maxTimestamp" "J" (.long (0 : Int64)) := (Fld.other W18 (Fld.other W11 (Fld.other W7 (Fld.other W3 pre6 (Or.inr (slot_ne (Or.inr (hw _ (List.mem_of_getElem? (i := 99) rfl))) (Or.inr (hw _ (List.mem_of_getElem? (i := 88) rfl))) (by decide) (t := .long) (t' := .long) (by decide) (by decide)))) (Or.inr (slot_ne (Or.inr (hw _ (List.mem_of_getElem? (i := 99) rfl))) (Or.inr (hw _ (List.mem_of_getElem? (i := 90) rfl))) (by decide) (t := .long) (t' := .int) (by decide) (by decide)))) (Or.inr (slot_ne (Or.inr (hw _ (List.mem_of_getElem? (i := 99) rfl))) (Or.inr (hw _ (List.mem_of_getElem? (i := 92) rfl))) (by decide) (t := .long) (t' := .long) (by decide) (by decide)))) (Or.inr (slot_ne (Or.inr (hw _ (List.mem_of_getElem? (i := 99) rfl))) (Or.inr (hw _ (List.mem_of_getElem? (i := 97) rfl))) (by decide) (t := .long) (t' := .int) (by decide) (by decide))))
  obtain ⟨T22, h22, X22, e22, W22, st22⟩ := putF X18 hx hZ hown (host := "") (Or.inl (hw _ (List.mem_of_getElem? (i := 98) rfl))) Via.refl e18 Fc21 Fc20 (Or.inr ⟨(hw _ (List.mem_of_getElem? (i := 99) rfl)), rfl, hnm⟩) (hw _ (List.mem_of_getElem? (i := 62) rfl)) (ty := .long) (by decide) rfl rfl (g := (mkF m 37 #[.val (.ref a0), .val (.long q1), .second, .val (.int p2), .val (.long q3), .second, .val (.long q4), .second, .val (.long q5), .second, .val (.ref a6)] [(.long q5), (.ref a0)])) rfl rfl (hb hby own_d10_37)
  have Fw22 := Fc21.same W22
  have N22 := Fr.snoc X22 N18 pre1
  have Kp23 : Keep h0 h22 [a0] := Kp19.wr W22 (Or.inl (List.mem_of_getElem? (i := 0) rfl))
  refine og_of st22 ?_
  show OG p e below _ _ (T22.setTop (mkF m 40 #[.val (.ref a0), .val (.long q1), .second, .val (.int p2), .val (.long q3), .second, .val (.long q4), .second, .val (.long q5), .second, .val (.ref a6)] []))
  refine o_aloadN X22 hx rfl (hb hby own_d10_40) rfl rfl ?_
  refine o_aload X22 hx rfl (hb hby own_d10_41) rfl rfl ?_
  have Fc24 : Exa Z h22 a0 "tidemark/log/RecordMarks$InRun" := (Exa.wr W22 Fc20)
  have Fc25 : Fld Z h22 a0 "tidemark/log/RecordMarks$Span" "later" "[I" .null := (Fld.other W22 (Fld.other W18 (Fld.other W11 (Fld.other W7 (Fld.other W3 pre7 (Or.inr (slot_ne (Or.inr (hw _ (List.mem_of_getElem? (i := 101) rfl))) (Or.inr (hw _ (List.mem_of_getElem? (i := 88) rfl))) (by decide) (t := (.array .int)) (t' := .long) (by decide) (by decide)))) (Or.inr (slot_ne (Or.inr (hw _ (List.mem_of_getElem? (i := 101) rfl))) (Or.inr (hw _ (List.mem_of_getElem? (i := 90) rfl))) (by decide) (t := (.array .int)) (t' := .int) (by decide) (by decide)))) (Or.inr (slot_ne (Or.inr (hw _ (List.mem_of_getElem? (i := 101) rfl))) (Or.inr (hw _ (List.mem_of_getElem? (i := 92) rfl))) (by decide) (t := (.array .int)) (t' := .long) (by decide) (by decide)))) (Or.inr (slot_ne (Or.inr (hw _ (List.mem_of_getElem? (i := 101) rfl))) (Or.inr (hw _ (List.mem_of_getElem? (i := 97) rfl))) (by decide) (t := (.array .int)) (t' := .int) (by decide) (by decide)))) (Or.inr (slot_ne (Or.inr (hw _ (List.mem_of_getElem? (i := 101) rfl))) (Or.inr (hw _ (List.mem_of_getElem? (i := 99) rfl))) (by decide) (t := (.array .int)) (t' := .long) (by decide) (by decide))))
  obtain ⟨T26, h26, X26, e26, W26, st26⟩ := putF X22 hx hZ hown (host := "") (Or.inl (hw _ (List.mem_of_getElem? (i := 100) rfl))) Via.refl e22 Fc25 Fc24 (Or.inr ⟨(hw _ (List.mem_of_getElem? (i := 101) rfl)), rfl, hnm⟩) (hw _ (List.mem_of_getElem? (i := 62) rfl)) (ty := (.array .int)) (by decide) rfl rfl (g := (mkF m 43 #[.val (.ref a0), .val (.long q1), .second, .val (.int p2), .val (.long q3), .second, .val (.long q4), .second, .val (.long q5), .second, .val (.ref a6)] [(.ref a6), (.ref a0)])) rfl rfl (hb hby own_d10_43)
  have Fw26 := Fc25.same W26
  have N26 := Fr.snoc X26 N22 pre1
  have Kp27 : Keep h0 h26 [a0] := Kp23.wr W26 (Or.inl (List.mem_of_getElem? (i := 0) rfl))
  refine og_of st26 ?_
  show OG p e below _ _ (T26.setTop (mkF m 46 #[.val (.ref a0), .val (.long q1), .second, .val (.int p2), .val (.long q3), .second, .val (.long q4), .second, .val (.long q5), .second, .val (.ref a6)] []))
  have Fc28 : Fld Z h26 a0 "tidemark/log/RecordMarks$Span" "position" "J" (.long q1) := (Fld.other W26 (Fld.other W22 (Fld.other W18 (Fld.other W11 (Fld.other W7 Fw3 (Or.inr (slot_ne (Or.inr (hw _ (List.mem_of_getElem? (i := 88) rfl))) (Or.inr (hw _ (List.mem_of_getElem? (i := 90) rfl))) (by decide) (t := .long) (t' := .int) (by decide) (by decide)))) (Or.inr (slot_ne (Or.inr (hw _ (List.mem_of_getElem? (i := 88) rfl))) (Or.inr (hw _ (List.mem_of_getElem? (i := 92) rfl))) (by decide) (t := .long) (t' := .long) (by decide) (by decide)))) (Or.inr (slot_ne (Or.inr (hw _ (List.mem_of_getElem? (i := 88) rfl))) (Or.inr (hw _ (List.mem_of_getElem? (i := 97) rfl))) (by decide) (t := .long) (t' := .int) (by decide) (by decide)))) (Or.inr (slot_ne (Or.inr (hw _ (List.mem_of_getElem? (i := 88) rfl))) (Or.inr (hw _ (List.mem_of_getElem? (i := 99) rfl))) (by decide) (t := .long) (t' := .long) (by decide) (by decide)))) (Or.inr (slot_ne (Or.inr (hw _ (List.mem_of_getElem? (i := 88) rfl))) (Or.inr (hw _ (List.mem_of_getElem? (i := 101) rfl))) (by decide) (t := .long) (t' := (.array .int)) (by decide) (by decide))))
  have Fc29 : Fld Z h26 a0 "tidemark/log/RecordMarks$Span" "size" "I" (.int p2) := (Fld.other W26 (Fld.other W22 (Fld.other W18 (Fld.other W11 Fw7 (Or.inr (slot_ne (Or.inr (hw _ (List.mem_of_getElem? (i := 90) rfl))) (Or.inr (hw _ (List.mem_of_getElem? (i := 92) rfl))) (by decide) (t := .int) (t' := .long) (by decide) (by decide)))) (Or.inr (slot_ne (Or.inr (hw _ (List.mem_of_getElem? (i := 90) rfl))) (Or.inr (hw _ (List.mem_of_getElem? (i := 97) rfl))) (by decide) (t := .int) (t' := .int) (by decide) (by decide)))) (Or.inr (slot_ne (Or.inr (hw _ (List.mem_of_getElem? (i := 90) rfl))) (Or.inr (hw _ (List.mem_of_getElem? (i := 99) rfl))) (by decide) (t := .int) (t' := .long) (by decide) (by decide)))) (Or.inr (slot_ne (Or.inr (hw _ (List.mem_of_getElem? (i := 90) rfl))) (Or.inr (hw _ (List.mem_of_getElem? (i := 101) rfl))) (by decide) (t := .int) (t' := (.array .int)) (by decide) (by decide))))
  have Fc30 : Fld Z h26 a0 "tidemark/log/RecordMarks$Span" "baseOffset" "J" (.long q3) := (Fld.other W26 (Fld.other W22 (Fld.other W18 Fw11 (Or.inr (slot_ne (Or.inr (hw _ (List.mem_of_getElem? (i := 92) rfl))) (Or.inr (hw _ (List.mem_of_getElem? (i := 97) rfl))) (by decide) (t := .long) (t' := .int) (by decide) (by decide)))) (Or.inr (slot_ne (Or.inr (hw _ (List.mem_of_getElem? (i := 92) rfl))) (Or.inr (hw _ (List.mem_of_getElem? (i := 99) rfl))) (by decide) (t := .long) (t' := .long) (by decide) (by decide)))) (Or.inr (slot_ne (Or.inr (hw _ (List.mem_of_getElem? (i := 92) rfl))) (Or.inr (hw _ (List.mem_of_getElem? (i := 101) rfl))) (by decide) (t := .long) (t' := (.array .int)) (by decide) (by decide))))
  have Fc31 : Fld Z h26 a0 "tidemark/log/RecordMarks$Span" "lastOffsetDelta" "I" (.int (((q4 - (1 : Int64)) - q3).toInt32)) := (Fld.other W26 (Fld.other W22 Fw18 (Or.inr (slot_ne (Or.inr (hw _ (List.mem_of_getElem? (i := 97) rfl))) (Or.inr (hw _ (List.mem_of_getElem? (i := 99) rfl))) (by decide) (t := .int) (t' := .long) (by decide) (by decide)))) (Or.inr (slot_ne (Or.inr (hw _ (List.mem_of_getElem? (i := 97) rfl))) (Or.inr (hw _ (List.mem_of_getElem? (i := 101) rfl))) (by decide) (t := .int) (t' := (.array .int)) (by decide) (by decide))))
  have Fc32 : Fld Z h26 a0 "tidemark/log/RecordMarks$Span" "maxTimestamp" "J" (.long q5) := (Fld.other W26 Fw22 (Or.inr (slot_ne (Or.inr (hw _ (List.mem_of_getElem? (i := 99) rfl))) (Or.inr (hw _ (List.mem_of_getElem? (i := 101) rfl))) (by decide) (t := .long) (t' := (.array .int)) (by decide) (by decide))))
  exact o_ret0 X26 hx Bd.returns (own_lv X26 hlk (by decide) (by decide)) (hb hby own_d10_46) ⟨rfl, N26, (by rw [e26]; exact Kp27), (by rw [e26]; exact Fc28), (by rw [e26]; exact Fc29), (by rw [e26]; exact Fc30), (by rw [e26]; exact Fc31), (by rw [e26]; exact Fc32), (by rw [e26]; exact Fw26)⟩
theorem own_pd7 : parseMethodDescriptor "(JIJJJ[I)V" = some ⟨[.long, .int, .long, .long, .long, (.array .int)], none⟩ := by decide +kernel
theorem own_d9_0 : decode prog_110_method_1_code 0 = .ok (.aload_n 0, 1) := by decide +kernel
theorem own_d9_1 : decode prog_110_method_1_code 1 = .ok (.lload_n 1, 1) := by decide +kernel
theorem own_d9_2 : decode prog_110_method_1_code 2 = .ok (.iload_n 3, 1) := by decide +kernel
theorem own_d9_3 : decode prog_110_method_1_code 3 = .ok (.lload 4, 2) := by decide +kernel
theorem own_d9_5 : decode prog_110_method_1_code 5 = .ok (.lload 6, 2) := by decide +kernel
theorem own_d9_7 : decode prog_110_method_1_code 7 = .ok (.lload 8, 2) := by decide +kernel
theorem own_d9_9 : decode prog_110_method_1_code 9 = .ok (.aload 10, 2) := by decide +kernel
theorem own_d9_11 : decode prog_110_method_1_code 11 = .ok (.invokespecial 1, 3) := by decide +kernel
theorem own_d9_14 : decode prog_110_method_1_code 14 = .ok (.return_, 1) := by decide +kernel
theorem own_ef9 (m : MethodId) (a0 : Addr) (q1 : Int64) (p2 : Int32) (q3 : Int64) (q4 : Int64) (q5 : Int64) (a6 : Addr) : entryFrame m #[(.ref a0), (.long q1), (.int p2), (.long q3), (.long q4), (.long q5), (.ref a6)] 11 = mkF m 0 #[.val (.ref a0), .val (.long q1), .second, .val (.int p2), .val (.long q3), .second, .val (.long q4), .second, .val (.long q5), .second, .val (.ref a6)] [] := by first | (simp [entryFrame, mkF, argsToLocals, Value.category]; done) | rfl
def own_Q9 (Z : State) (a0 : Addr) (q1 : Int64) (p2 : Int32) (q3 : Int64) (q4 : Int64) (q5 : Int64) (a6 : Addr) (h0 : Heap) (n0 : Nat) (v : Option Value) (h : Heap) (L : List Loc) : Prop := v = none ∧ Fr n0 L ∧ Keep h0 h [a0] ∧ Fld Z h a0 "tidemark/log/RecordMarks$Span" "position" "J" (.long q1) ∧ Fld Z h a0 "tidemark/log/RecordMarks$Span" "size" "I" (.int p2) ∧ Fld Z h a0 "tidemark/log/RecordMarks$Span" "baseOffset" "J" (.long q3) ∧ Fld Z h a0 "tidemark/log/RecordMarks$Span" "lastOffsetDelta" "I" (.int (((q4 - (1 : Int64)) - q3).toInt32)) ∧ Fld Z h a0 "tidemark/log/RecordMarks$Span" "maxTimestamp" "J" (.long q5) ∧ Fld Z h a0 "tidemark/log/RecordMarks$Span" "later" "[I" (.ref a6)
theorem own_pn240 : plainName "tidemark/log/RecordMarks$InRun" = true := by first | (simp [plainName, overriddenIn]; done) | decide +kernel
set_option maxRecDepth 65536 in
set_option maxHeartbeats 40000000 in
theorem own_rm9 (l : Launch) (Z : State) (aA : Array Value) (hw : ∀ d ∈ tables_1, d.before aA Z = true) (ws : List Jvm.Cond) (a0 : Addr) (q1 : Int64) (p2 : Int32) (q3 : Int64) (q4 : Int64) (q5 : Int64) (a6 : Addr) (h0 : Heap) (n0 : Nat) (Z0 : n0 ≤ h0.size) (pre0 : Exa Z h0 a0 "tidemark/log/RecordMarks$InRun") (pre1 : n0 ≤ a0) (pre2 : Fld Z h0 a0 "tidemark/log/RecordMarks$Span" "position" "J" (.long (0 : Int64))) (pre3 : Fld Z h0 a0 "tidemark/log/RecordMarks$Span" "size" "I" (.int (0 : Int32))) (pre4 : Fld Z h0 a0 "tidemark/log/RecordMarks$Span" "baseOffset" "J" (.long (0 : Int64))) (pre5 : Fld Z h0 a0 "tidemark/log/RecordMarks$Span" "lastOffsetDelta" "I" (.int (0 : Int32))) (pre6 : Fld Z h0 a0 "tidemark/log/RecordMarks$Span" "maxTimestamp" "J" (.long (0 : Int64))) (pre7 : Fld Z h0 a0 "tidemark/log/RecordMarks$Span" "later" "[I" .null) (hX : (((q4 - (1 : Int64)) - q3).toInt32).toInt64 = ((q4 - (1 : Int64)) - q3)) :
    MetFree l (⟨"tidemark/log/RecordMarks$InRun", "<init>", "(JIJJJ[I)V"⟩ : MethodName) (head1 (Jvm.Cond.code (⟨"tidemark/log/RecordMarks$InRun", "<init>", "(JIJJJ[I)V"⟩ : MethodName) prog_110_method_1_code 11 none :: ws) ({ frames := 3, cells := 0, slots := 0, locals := 46 } : Room)) (fun a U => a = #[(.ref a0), (.long q1), (.int p2), (.long q3), (.long q4), (.long q5), (.ref a6)] ∧ Z.Warmed39 U.vm ∧ U.heap = h0) (fun _ _ _ _ _ => True) (fun _ U o U' => ∃ v L, o = .returned v ∧ own_Q9 Z a0 q1 p2 q3 q4 q5 a6 h0 n0 v U'.heap L ∧ FrameEnd U o U' L ({ frames := 3, cells := 0, slots := 0, locals := 46 } : Room).cells ({ frames := 3, cells := 0, slots := 0, locals := 46 } : Room).slots) := by
  refine MetFree.of_bodySF (plainFor_of_name own_pn240) hisR ?_
  intro p e s m args below meth c s₁ Bd hml0 hP hK
  obtain ⟨rfl, hZ, hh⟩ := hP
  have hx := Bd.exec
  have hby := Bd.bytes
  have hlk : meth.locks = false := Bd.notSynchronized
  have hml : c.maxLocals = 11 := hml0
  have hown : s.vm.findClass "tidemark/log/RecordMarks$InRun" = some m.cls := findClass_of_methodNamed Bd.named
  have hnm := (name_of_methodNamed Bd.named Bd.method).1
  have X0 : Stand p l e ({ frames := 3, cells := 0, slots := 0, locals := 46 } : Room) s m #[(.ref a0), (.long q1), (.int p2), (.long q3), (.long q4), (.long q5), (.ref a6)] below meth c s₁ [] 0 0 := Stand.of_body Bd
  have e0 : s₁.heap = h0 := by rw [← hh, Bd.state]; rfl
  have N0 := Fr.nil n0
  show OG p e below (FE s ({ frames := 3, cells := 0, slots := 0, locals := 46 } : Room).cells ({ frames := 3, cells := 0, slots := 0, locals := 46 } : Room).slots) (own_Q9 Z a0 q1 p2 q3 q4 q5 a6 h0 n0) (s₁.setTop (entryFrame m #[(.ref a0), (.long q1), (.int p2), (.long q3), (.long q4), (.long q5), (.ref a6)] 11))
  refine og_of (fun _ k => castTop (own_ef9 m a0 q1 p2 q3 q4 q5 a6) k) ?_
  refine o_aloadN X0 hx rfl (hb hby own_d9_0) rfl rfl ?_
  refine o_lloadN X0 hx rfl (hb hby own_d9_1) rfl ?_
  refine o_iloadN X0 hx rfl (hb hby own_d9_2) rfl ?_
  refine o_lload X0 hx rfl (hb hby own_d9_3) rfl ?_
  refine o_lload X0 hx rfl (hb hby own_d9_5) rfl ?_
  refine o_lload X0 hx rfl (hb hby own_d9_7) rfl ?_
  refine o_aload X0 hx rfl (hb hby own_d9_9) rfl rfl ?_
  have hw_2 : (((q4 - (1 : Int64)) - q3).toInt32).toInt64 = ((q4 - (1 : Int64)) - q3) := hX
  obtain ⟨_, _, ⟨T1, L1, k1, n1⟩, -, X1, ⟨Lc1, hQ1, l1, y1, z1⟩, st1⟩ := X0.specialBackNest hx (y := (⟨"tidemark/log/RecordMarks$Span", "<init>", "(JIJJJ[I)V"⟩ : MethodName)) rfl hown (own_mvM hZ (hw _ (List.mem_of_getElem? (i := 77) rfl))) (mvT hZ (hw _ (List.mem_of_getElem? (i := 78) rfl))) (mvT hZ (hw _ (List.mem_of_getElem? (i := 81) rfl))) (by decide) (backOf (W := 0) (own_rm10 l Z aA hw [] a0 q1 p2 q3 q4 q5 a6 h0 n0 Z0 pre0 pre1 pre2 pre3 pre4 pre5 pre6 pre7 hw_2) hZ (hw _ (List.mem_of_getElem? (i := 81) rfl)) (hw _ (List.mem_of_getElem? (i := 80) rfl)) (by decide) (by decide)) (g := (mkF m 11 #[.val (.ref a0), .val (.long q1), .second, .val (.int p2), .val (.long q3), .second, .val (.long q4), .second, .val (.long q5), .second, .val (.ref a6)] [(.ref a6), (.long q5), (.long q4), (.long q3), (.int p2), (.long q1), (.ref a0)])) rfl (by rw [hml]; rfl) (Steps.refl _) (a := a0) (argsL := [(.long q1), (.int p2), (.long q3), (.long q4), (.long q5), (.ref a6)]) (rest := []) (lenOf own_pd7 rfl) rfl (by show 2 * 0 + _ ≤ _; exact Nat.le_of_eq rfl) (hb hby own_d9_11) (fun _ _ => ⟨rfl, e0, Nat.le_of_ble_eq_true rfl, Nat.le_of_ble_eq_true rfl⟩)
  dsimp only [Pt.U, Pt.locs, Pt.cells, Pt.slots] at X1 l1 y1 z1 st1 hQ1
  subst l1 y1 z1
  obtain ⟨rfl, N1q, K1, f1_0, f1_1, f1_2, f1_3, f1_4, f1_5⟩ := hQ1
  have N3 := Fr.app N0 N1q
  have Kp4 : Keep h0 T1.heap [a0] := (Keep.refl h0 [a0]).trans K1 (allS (Or.inl (List.mem_of_getElem? (i := 0) rfl)) all0)
  refine og_tr st1 ?_
  show OG p e below _ _ (T1.setTop (mkF m 14 #[.val (.ref a0), .val (.long q1), .second, .val (.int p2), .val (.long q3), .second, .val (.long q4), .second, .val (.long q5), .second, .val (.ref a6)] []))
  exact o_ret0 X1 hx Bd.returns (own_lv X1 hlk (by decide) (by decide)) (hb hby own_d9_14) ⟨rfl, N3, (Kp4), f1_0, f1_1, f1_2, f1_3, f1_4, f1_5⟩
theorem own_pd8 : parseMethodDescriptor "()[I" = some ⟨[], some (.array .int)⟩ := by decide +kernel
theorem own_d7_0 : decode prog_115_method_6_code 0 = .ok (.new 59, 3) := by decide +kernel
theorem own_d7_3 : decode prog_115_method_6_code 3 = .ok (.dup, 1) := by decide +kernel
theorem own_d7_4 : decode prog_115_method_6_code 4 = .ok (.aload_n 0, 1) := by decide +kernel
theorem own_d7_5 : decode prog_115_method_6_code 5 = .ok (.getfield 28, 3) := by decide +kernel
theorem own_d7_8 : decode prog_115_method_6_code 8 = .ok (.aload_n 0, 1) := by decide +kernel
theorem own_d7_9 : decode prog_115_method_6_code 9 = .ok (.getfield 31, 3) := by decide +kernel
theorem own_d7_12 : decode prog_115_method_6_code 12 = .ok (.aload_n 0, 1) := by decide +kernel
theorem own_d7_13 : decode prog_115_method_6_code 13 = .ok (.getfield 28, 3) := by decide +kernel
theorem own_d7_16 : decode prog_115_method_6_code 16 = .ok (.lsub, 1) := by decide +kernel
theorem own_d7_17 : decode prog_115_method_6_code 17 = .ok (.l2i, 1) := by decide +kernel
theorem own_d7_18 : decode prog_115_method_6_code 18 = .ok (.aload_n 0, 1) := by decide +kernel
theorem own_d7_19 : decode prog_115_method_6_code 19 = .ok (.getfield 34, 3) := by decide +kernel
theorem own_d7_22 : decode prog_115_method_6_code 22 = .ok (.aload_n 0, 1) := by decide +kernel
theorem own_d7_23 : decode prog_115_method_6_code 23 = .ok (.getfield 50, 3) := by decide +kernel
theorem own_d7_26 : decode prog_115_method_6_code 26 = .ok (.aload_n 0, 1) := by decide +kernel
theorem own_d7_27 : decode prog_115_method_6_code 27 = .ok (.getfield 24, 3) := by decide +kernel
theorem own_d7_30 : decode prog_115_method_6_code 30 = .ok (.aload_n 0, 1) := by decide +kernel
theorem own_d7_31 : decode prog_115_method_6_code 31 = .ok (.getfield 14, 3) := by decide +kernel
theorem own_d7_34 : decode prog_115_method_6_code 34 = .ok (.invokevirtual 61, 3) := by decide +kernel
theorem own_d7_37 : decode prog_115_method_6_code 37 = .ok (.invokespecial 65, 3) := by decide +kernel
theorem own_d7_40 : decode prog_115_method_6_code 40 = .ok (.areturn, 1) := by decide +kernel
theorem own_efmk0 (m : MethodId) (a0 : Addr) : entryFrame m #[(.ref a0)] 1 = mkF m 0 #[.val (.ref a0)] [] := by first | (simp [entryFrame, mkF, argsToLocals, Value.category]; done) | rfl
def own_Qmk0 (Z : State) (a0 : Addr) (lm : Addr) (ul : Int64) (up : Int64) (ue : Int64) (ub : Int64) (un : Int64) (us : Int32) (bt : Int32) (arr : Addr) (h0 : Heap) (n0 : Nat) (v : Option Value) (h : Heap) (L : List Loc) : Prop := ∃ (b : Addr), v = some (.ref b) ∧ Fr n0 L ∧ Keep h0 h [] ∧ h0.size ≤ b ∧ Exa Z h b "tidemark/log/RecordMarks$InRun" ∧ Fld Z h b "tidemark/log/RecordMarks$Span" "baseOffset" "J" (.long ub) ∧ Fld Z h b "tidemark/log/RecordMarks$Span" "lastOffsetDelta" "I" (.int (((un - (1 : Int64)) - ub).toInt32))
set_option maxRecDepth 65536 in
set_option maxHeartbeats 40000000 in
theorem own_rmmk0 (l : Launch) (Z : State) (aA : Array Value) (hw : ∀ d ∈ tables_1, d.before aA Z = true) (ws : List Jvm.Cond) (a0 : Addr) (lm : Addr) (ul : Int64) (up : Int64) (ue : Int64) (ub : Int64) (un : Int64) (us : Int32) (bt : Int32) (arr : Addr) (h0 : Heap) (n0 : Nat) (Z0 : n0 ≤ h0.size) (pre0 : Fld Z h0 a0 "tidemark/log/RecordMarks$RunMarking" "later" "Ltidemark/log/RecordMarks$LaterMarks;" (.ref lm)) (pre1 : Fld Z h0 a0 "tidemark/log/RecordMarks$RunMarking" "largest" "J" (.long ul)) (pre2 : Fld Z h0 a0 "tidemark/log/RecordMarks$RunMarking" "position" "J" (.long up)) (pre3 : Fld Z h0 a0 "tidemark/log/RecordMarks$RunMarking" "end" "J" (.long ue)) (pre4 : Fld Z h0 a0 "tidemark/log/RecordMarks$RunMarking" "batches" "I" (.int bt)) (pre5 : Fld Z h0 a0 "tidemark/log/RecordMarks$RunMarking" "baseOffset" "J" (.long ub)) (pre6 : Fld Z h0 a0 "tidemark/log/RecordMarks$RunMarking" "nextOffset" "J" (.long un)) (pre7 : Fld Z h0 a0 "tidemark/log/RecordMarks$RunMarking" "lastStart" "I" (.int us)) (pre8 : Exa Z h0 lm "tidemark/log/RecordMarks$LaterMarks") (pre9 : Fld Z h0 lm "tidemark/log/RecordMarks$LaterMarks" "count" "I" (.int (0 : Int32))) (pre10 : Sta Z h0 "tidemark/log/RecordMarks" "NO_LATER_MARKS" "[I" (.ref arr)) (hX : (((un - (1 : Int64)) - ub).toInt32).toInt64 = ((un - (1 : Int64)) - ub)) :
    MetFree l (⟨"tidemark/log/RecordMarks$RunMarking", "marks", "()Ltidemark/log/RecordMarks$Span;"⟩ : MethodName) (head1 (Jvm.Cond.code (⟨"tidemark/log/RecordMarks$RunMarking", "marks", "()Ltidemark/log/RecordMarks$Span;"⟩ : MethodName) prog_115_method_6_code 1 (some (.object "tidemark/log/RecordMarks$Span")) :: ws) ({ frames := 4, cells := 1, slots := 6, locals := 69 } : Room)) (fun a U => a = #[(.ref a0)] ∧ Z.Warmed39 U.vm ∧ U.heap = h0) (fun _ _ _ _ _ => True) (fun _ U o U' => ∃ v L, o = .returned v ∧ own_Qmk0 Z a0 lm ul up ue ub un us bt arr h0 n0 v U'.heap L ∧ FrameEnd U o U' L ({ frames := 4, cells := 1, slots := 6, locals := 69 } : Room).cells ({ frames := 4, cells := 1, slots := 6, locals := 69 } : Room).slots) := by
  refine MetFree.of_bodySF (plainFor_of_name own_pn113) hisR ?_
  intro p e s m args below meth c s₁ Bd hml0 hP hK
  obtain ⟨rfl, hZ, hh⟩ := hP
  have hx := Bd.exec
  have hby := Bd.bytes
  have hlk : meth.locks = false := Bd.notSynchronized
  have hml : c.maxLocals = 1 := hml0
  have hown : s.vm.findClass "tidemark/log/RecordMarks$RunMarking" = some m.cls := findClass_of_methodNamed Bd.named
  have hnm := (name_of_methodNamed Bd.named Bd.method).1
  have X0 : Stand p l e ({ frames := 4, cells := 1, slots := 6, locals := 69 } : Room) s m #[(.ref a0)] below meth c s₁ [] 0 0 := Stand.of_body Bd
  have e0 : s₁.heap = h0 := by rw [← hh, Bd.state]; rfl
  have N0 := Fr.nil n0
  show OG p e below (FE s ({ frames := 4, cells := 1, slots := 6, locals := 69 } : Room).cells ({ frames := 4, cells := 1, slots := 6, locals := 69 } : Room).slots) (own_Qmk0 Z a0 lm ul up ue ub un us bt arr h0 n0) (s₁.setTop (entryFrame m #[(.ref a0)] 1))
  refine og_of (fun _ k => castTop (own_efmk0 m a0) k) ?_
  obtain ⟨T1, h1, X1, e1, E1, A1, D1, -, st1⟩ := newO X0 hx hZ hown (hw _ (List.mem_of_getElem? (i := 61) rfl)) (hw _ (List.mem_of_getElem? (i := 62) rfl)) (hw _ (List.mem_of_getElem? (i := 63) rfl)) e0 (g := (mkF m 0 #[.val (.ref a0)] [])) rfl (hb hby own_d7_0) (by decide) (by decide)
  obtain ⟨b1, g1⟩ : ∃ z, z = h0.size := ⟨_, rfl⟩
  rw [← g1] at A1 D1 st1
  have ne2 : a0 ≠ b1 := Nat.ne_of_lt (Nat.lt_of_lt_of_le pre0.lt (Nat.le_of_eq g1.symm))
  have ne3 : lm ≠ b1 := Nat.ne_of_lt (Nat.lt_of_lt_of_le pre8.lt (Nat.le_of_eq g1.symm))
  have gn1 : n0 ≤ b1 := Nat.le_trans Z0 (Nat.le_of_eq g1.symm)
  have sz1 : h0.size ≤ b1 := Nat.le_trans (Keep.refl h0 []).1 (Nat.le_of_eq g1.symm)
  have Kp4 : Keep h0 h1 [] := (Keep.refl h0 []).ext E1
  have F1_88 : Fld Z h1 b1 "tidemark/log/RecordMarks$Span" "position" "J" (.long (0 : Int64)) := D1 (Or.inr (hw _ (List.mem_of_getElem? (i := 88) rfl))) (ty := .long) (by decide)
  have F1_90 : Fld Z h1 b1 "tidemark/log/RecordMarks$Span" "size" "I" (.int (0 : Int32)) := D1 (Or.inr (hw _ (List.mem_of_getElem? (i := 90) rfl))) (ty := .int) (by decide)
  have F1_92 : Fld Z h1 b1 "tidemark/log/RecordMarks$Span" "baseOffset" "J" (.long (0 : Int64)) := D1 (Or.inr (hw _ (List.mem_of_getElem? (i := 92) rfl))) (ty := .long) (by decide)
  have F1_97 : Fld Z h1 b1 "tidemark/log/RecordMarks$Span" "lastOffsetDelta" "I" (.int (0 : Int32)) := D1 (Or.inr (hw _ (List.mem_of_getElem? (i := 97) rfl))) (ty := .int) (by decide)
  have F1_99 : Fld Z h1 b1 "tidemark/log/RecordMarks$Span" "maxTimestamp" "J" (.long (0 : Int64)) := D1 (Or.inr (hw _ (List.mem_of_getElem? (i := 99) rfl))) (ty := .long) (by decide)
  have F1_101 : Fld Z h1 b1 "tidemark/log/RecordMarks$Span" "later" "[I" .null := D1 (Or.inr (hw _ (List.mem_of_getElem? (i := 101) rfl))) (ty := (.array .int)) (by decide)
  refine og_of st1 ?_
  show OG p e below _ _ (T1.setTop (mkF m 3 #[.val (.ref a0)] [(.ref b1)]))
  refine o_dup X1 hx rfl (hb hby own_d7_3) rfl ?_
  refine o_aloadN X1 hx rfl (hb hby own_d7_4) rfl rfl ?_
  have Fc5 : Fld Z h1 a0 "tidemark/log/RecordMarks$RunMarking" "position" "J" (.long up) := (Fld.ext E1 pre2)
  obtain ⟨T6, X6, e6, st6⟩ := getF X1 hx hZ hown (host := "") (Or.inl (hw _ (List.mem_of_getElem? (i := 25) rfl))) Via.refl e1 Fc5 (g := (mkF m 5 #[.val (.ref a0)] [(.ref a0), (.ref b1), (.ref b1)])) rfl rfl (hb hby own_d7_5)
  refine og_of st6 ?_
  show OG p e below _ _ (T6.setTop (mkF m 8 #[.val (.ref a0)] [(.long up), (.ref b1), (.ref b1)]))
  refine o_aloadN X6 hx rfl (hb hby own_d7_8) rfl rfl ?_
  have Fc7 : Fld Z h1 a0 "tidemark/log/RecordMarks$RunMarking" "end" "J" (.long ue) := (Fld.ext E1 pre3)
  obtain ⟨T8, X8, e8, st8⟩ := getF X6 hx hZ hown (host := "") (Or.inl (hw _ (List.mem_of_getElem? (i := 27) rfl))) Via.refl e6 Fc7 (g := (mkF m 9 #[.val (.ref a0)] [(.ref a0), (.long up), (.ref b1), (.ref b1)])) rfl rfl (hb hby own_d7_9)
  refine og_of st8 ?_
  show OG p e below _ _ (T8.setTop (mkF m 12 #[.val (.ref a0)] [(.long ue), (.long up), (.ref b1), (.ref b1)]))
  refine o_aloadN X8 hx rfl (hb hby own_d7_12) rfl rfl ?_
  obtain ⟨T9, X9, e9, st9⟩ := getF X8 hx hZ hown (host := "") (Or.inl (hw _ (List.mem_of_getElem? (i := 25) rfl))) Via.refl e8 Fc5 (g := (mkF m 13 #[.val (.ref a0)] [(.ref a0), (.long ue), (.long up), (.ref b1), (.ref b1)])) rfl rfl (hb hby own_d7_13)
  refine og_of st9 ?_
  show OG p e below _ _ (T9.setTop (mkF m 16 #[.val (.ref a0)] [(.long up), (.long ue), (.long up), (.ref b1), (.ref b1)]))
  refine o_lsub (z := (ue - up)) X9 hx rfl (hb hby own_d7_16) rfl ?_
  refine o_l2i (z := ((ue - up).toInt32)) X9 hx rfl (hb hby own_d7_17) rfl ?_
  refine o_aloadN X9 hx rfl (hb hby own_d7_18) rfl rfl ?_
  have Fc10 : Fld Z h1 a0 "tidemark/log/RecordMarks$RunMarking" "baseOffset" "J" (.long ub) := (Fld.ext E1 pre5)
  obtain ⟨T11, X11, e11, st11⟩ := getF X9 hx hZ hown (host := "") (Or.inl (hw _ (List.mem_of_getElem? (i := 36) rfl))) Via.refl e9 Fc10 (g := (mkF m 19 #[.val (.ref a0)] [(.ref a0), (.int ((ue - up).toInt32)), (.long up), (.ref b1), (.ref b1)])) rfl rfl (hb hby own_d7_19)
  refine og_of st11 ?_
  show OG p e below _ _ (T11.setTop (mkF m 22 #[.val (.ref a0)] [(.long ub), (.int ((ue - up).toInt32)), (.long up), (.ref b1), (.ref b1)]))
  refine o_aloadN X11 hx rfl (hb hby own_d7_22) rfl rfl ?_
  have Fc12 : Fld Z h1 a0 "tidemark/log/RecordMarks$RunMarking" "nextOffset" "J" (.long un) := (Fld.ext E1 pre6)
  obtain ⟨T13, X13, e13, st13⟩ := getF X11 hx hZ hown (host := "") (Or.inl (hw _ (List.mem_of_getElem? (i := 38) rfl))) Via.refl e11 Fc12 (g := (mkF m 23 #[.val (.ref a0)] [(.ref a0), (.long ub), (.int ((ue - up).toInt32)), (.long up), (.ref b1), (.ref b1)])) rfl rfl (hb hby own_d7_23)
  refine og_of st13 ?_
  show OG p e below _ _ (T13.setTop (mkF m 26 #[.val (.ref a0)] [(.long un), (.long ub), (.int ((ue - up).toInt32)), (.long up), (.ref b1), (.ref b1)]))
  refine o_aloadN X13 hx rfl (hb hby own_d7_26) rfl rfl ?_
  have Fc14 : Fld Z h1 a0 "tidemark/log/RecordMarks$RunMarking" "largest" "J" (.long ul) := (Fld.ext E1 pre1)
  obtain ⟨T15, X15, e15, st15⟩ := getF X13 hx hZ hown (host := "") (Or.inl (hw _ (List.mem_of_getElem? (i := 23) rfl))) Via.refl e13 Fc14 (g := (mkF m 27 #[.val (.ref a0)] [(.ref a0), (.long un), (.long ub), (.int ((ue - up).toInt32)), (.long up), (.ref b1), (.ref b1)])) rfl rfl (hb hby own_d7_27)
  refine og_of st15 ?_
  show OG p e below _ _ (T15.setTop (mkF m 30 #[.val (.ref a0)] [(.long ul), (.long un), (.long ub), (.int ((ue - up).toInt32)), (.long up), (.ref b1), (.ref b1)]))
  refine o_aloadN X15 hx rfl (hb hby own_d7_30) rfl rfl ?_
  have Fc16 : Fld Z h1 a0 "tidemark/log/RecordMarks$RunMarking" "later" "Ltidemark/log/RecordMarks$LaterMarks;" (.ref lm) := (Fld.ext E1 pre0)
  obtain ⟨T17, X17, e17, st17⟩ := getF X15 hx hZ hown (host := "") (Or.inl (hw _ (List.mem_of_getElem? (i := 20) rfl))) Via.refl e15 Fc16 (g := (mkF m 31 #[.val (.ref a0)] [(.ref a0), (.long ul), (.long un), (.long ub), (.int ((ue - up).toInt32)), (.long up), (.ref b1), (.ref b1)])) rfl rfl (hb hby own_d7_31)
  refine og_of st17 ?_
  show OG p e below _ _ (T17.setTop (mkF m 34 #[.val (.ref a0)] [(.ref lm), (.long ul), (.long un), (.long ub), (.int ((ue - up).toInt32)), (.long up), (.ref b1), (.ref b1)]))
  have Fc19 : Sta Z h1 "tidemark/log/RecordMarks" "NO_LATER_MARKS" "[I" (.ref arr) := (Sta.ext E1 pre10)
  have Fc20 : Fld Z h1 lm "tidemark/log/RecordMarks$LaterMarks" "count" "I" (.int (0 : Int32)) := (Fld.ext E1 pre9)
  have Fc21 : Exa Z h1 lm "tidemark/log/RecordMarks$LaterMarks" := (Exa.ext E1 pre8)
  obtain ⟨cq18, kq18, q18a, q18b, q18c⟩ := isOf hZ e17 Fc21
  obtain ⟨_, _, ⟨T18, L18, k18, n18⟩, -, X18, ⟨Lc18, hQ18, l18, y18, z18⟩, st18⟩ := X17.virtualBack hx (y := (⟨"tidemark/log/RecordMarks$LaterMarks", "toArray", "()[I"⟩ : MethodName)) (z := (⟨"tidemark/log/RecordMarks$LaterMarks", "toArray", "()[I"⟩ : MethodName)) hown (mvT hZ (hw _ (List.mem_of_getElem? (i := 64) rfl))) (mvT hZ (hw _ (List.mem_of_getElem? (i := 65) rfl))) (notFace_of_selects (args := #[]) (mvT hZ (hw _ (List.mem_of_getElem? (i := 67) rfl)))) (mvT hZ (hw _ (List.mem_of_getElem? (i := 67) rfl))) (mvT hZ (hw _ (List.mem_of_getElem? (i := 66) rfl))) (by decide) (backOf (W := 11) (own_rmta0 l Z aA hw [] lm arr h1 n0 (Nat.le_trans Z0 E1.1) Fc19 Fc20) hZ (hw _ (List.mem_of_getElem? (i := 68) rfl)) (hw _ (List.mem_of_getElem? (i := 12) rfl)) (by decide) (by decide)) q18a q18c (g := (mkF m 34 #[.val (.ref a0)] [(.ref lm), (.long ul), (.long un), (.long ub), (.int ((ue - up).toInt32)), (.long up), (.ref b1), (.ref b1)])) rfl (by rw [hml]; rfl) (Steps.refl _) (argsL := []) (rest := [(.long ul), (.long un), (.long ub), (.int ((ue - up).toInt32)), (.long up), (.ref b1), (.ref b1)]) (lenOf own_pd8 rfl) rfl (by show 2 * 0 + _ ≤ _; exact Nat.le_of_eq rfl) (hb hby own_d7_34) (fun _ _ => ⟨rfl, e17, Nat.le_of_ble_eq_true rfl, Nat.le_of_ble_eq_true rfl⟩)
  dsimp only [Pt.U, Pt.locs, Pt.cells, Pt.slots] at X18 l18 y18 z18 st18 hQ18
  subst l18 y18 z18
  obtain ⟨rfl, N18q, ee18⟩ := hQ18
  have N22 := Fr.app N0 N18q
  refine og_tr st18 ?_
  show OG p e below _ _ (T18.setTop (mkF m 37 #[.val (.ref a0)] [(.ref arr), (.long ul), (.long un), (.long ub), (.int ((ue - up).toInt32)), (.long up), (.ref b1), (.ref b1)]))
  have hw_24 : (((un - (1 : Int64)) - ub).toInt32).toInt64 = ((un - (1 : Int64)) - ub) := hX
  obtain ⟨_, _, ⟨T23, L23, k23, n23⟩, -, X23, ⟨Lc23, hQ23, l23, y23, z23⟩, st23⟩ := X18.specialBack hx (y := (⟨"tidemark/log/RecordMarks$InRun", "<init>", "(JIJJJ[I)V"⟩ : MethodName)) rfl hown (mvT hZ (hw _ (List.mem_of_getElem? (i := 74) rfl))) (mvT hZ (hw _ (List.mem_of_getElem? (i := 75) rfl))) (mvT hZ (hw _ (List.mem_of_getElem? (i := 76) rfl))) (by decide) (backOf (W := 1) (own_rm9 l Z aA hw [] b1 up ((ue - up).toInt32) ub un ul arr h1 n0 (Nat.le_trans Z0 E1.1) A1 gn1 F1_88 F1_90 F1_92 F1_97 F1_99 F1_101 hw_24) hZ (hw _ (List.mem_of_getElem? (i := 76) rfl)) (hw _ (List.mem_of_getElem? (i := 63) rfl)) (by decide) (by decide)) (g := (mkF m 37 #[.val (.ref a0)] [(.ref arr), (.long ul), (.long un), (.long ub), (.int ((ue - up).toInt32)), (.long up), (.ref b1), (.ref b1)])) rfl (by rw [hml]; rfl) (Steps.refl _) (a := b1) (argsL := [(.long up), (.int ((ue - up).toInt32)), (.long ub), (.long un), (.long ul), (.ref arr)]) (rest := [(.ref b1)]) (lenOf own_pd7 rfl) rfl (by show 2 * 0 + _ ≤ _; exact Nat.le_of_eq rfl) (hb hby own_d7_37) (fun _ _ => ⟨rfl, ee18, Nat.le_of_ble_eq_true rfl, Nat.le_of_ble_eq_true rfl⟩)
  dsimp only [Pt.U, Pt.locs, Pt.cells, Pt.slots] at X23 l23 y23 z23 st23 hQ23
  subst l23 y23 z23
  obtain ⟨rfl, N23q, K23, f23_0, f23_1, f23_2, f23_3, f23_4, f23_5⟩ := hQ23
  have N25 := Fr.app N22 N23q
  have Kp26 : Keep h0 T23.heap [] := Kp4.trans K23 (allS (Or.inr sz1) all0)
  refine og_tr st23 ?_
  show OG p e below _ _ (T23.setTop (mkF m 40 #[.val (.ref a0)] [(.ref b1)]))
  have Fc27 : Exa Z T23.heap b1 "tidemark/log/RecordMarks$InRun" := (A1.keep K23)
  exact o_retA X23 hx Bd.returns rfl (own_lv X23 hlk (by decide) (by decide)) (hb hby own_d7_40) rfl rfl ⟨b1, rfl, N25, (Kp26), sz1, Fc27, f23_2, f23_3⟩
theorem own_efmk1 (m : MethodId) (a0 : Addr) : entryFrame m #[(.ref a0)] 1 = mkF m 0 #[.val (.ref a0)] [] := by first | (simp [entryFrame, mkF, argsToLocals, Value.category]; done) | rfl
def own_Qmk1 (Z : State) (a0 : Addr) (lm : Addr) (ul : Int64) (up : Int64) (ue : Int64) (ub : Int64) (un : Int64) (us : Int32) (bt : Int32) (ma : Addr) (k_ma : ClassId) (m0 : Int32) (m1 : Int32) (m2 : Int32) (m3 : Int32) (m4 : Int32) (m5 : Int32) (m6 : Int32) (m7 : Int32) (h0 : Heap) (n0 : Nat) (v : Option Value) (h : Heap) (L : List Loc) : Prop := ∃ (b : Addr), v = some (.ref b) ∧ Fr n0 L ∧ Keep h0 h [] ∧ h0.size ≤ b ∧ Exa Z h b "tidemark/log/RecordMarks$InRun" ∧ Fld Z h b "tidemark/log/RecordMarks$Span" "baseOffset" "J" (.long ub) ∧ Fld Z h b "tidemark/log/RecordMarks$Span" "lastOffsetDelta" "I" (.int (((un - (1 : Int64)) - ub).toInt32))
set_option maxRecDepth 65536 in
set_option maxHeartbeats 40000000 in
theorem own_rmmk1 (l : Launch) (Z : State) (aA : Array Value) (hw : ∀ d ∈ tables_1, d.before aA Z = true) (ws : List Jvm.Cond) (a0 : Addr) (lm : Addr) (ul : Int64) (up : Int64) (ue : Int64) (ub : Int64) (un : Int64) (us : Int32) (bt : Int32) (ma : Addr) (k_ma : ClassId) (m0 : Int32) (m1 : Int32) (m2 : Int32) (m3 : Int32) (m4 : Int32) (m5 : Int32) (m6 : Int32) (m7 : Int32) (h0 : Heap) (n0 : Nat) (Z0 : n0 ≤ h0.size) (pre0 : Fld Z h0 a0 "tidemark/log/RecordMarks$RunMarking" "later" "Ltidemark/log/RecordMarks$LaterMarks;" (.ref lm)) (pre1 : Fld Z h0 a0 "tidemark/log/RecordMarks$RunMarking" "largest" "J" (.long ul)) (pre2 : Fld Z h0 a0 "tidemark/log/RecordMarks$RunMarking" "position" "J" (.long up)) (pre3 : Fld Z h0 a0 "tidemark/log/RecordMarks$RunMarking" "end" "J" (.long ue)) (pre4 : Fld Z h0 a0 "tidemark/log/RecordMarks$RunMarking" "batches" "I" (.int bt)) (pre5 : Fld Z h0 a0 "tidemark/log/RecordMarks$RunMarking" "baseOffset" "J" (.long ub)) (pre6 : Fld Z h0 a0 "tidemark/log/RecordMarks$RunMarking" "nextOffset" "J" (.long un)) (pre7 : Fld Z h0 a0 "tidemark/log/RecordMarks$RunMarking" "lastStart" "I" (.int us)) (pre8 : Exa Z h0 lm "tidemark/log/RecordMarks$LaterMarks") (pre9 : Fld Z h0 lm "tidemark/log/RecordMarks$LaterMarks" "count" "I" (.int (1 : Int32))) (pre10 : Fld Z h0 lm "tidemark/log/RecordMarks$LaterMarks" "marks" "[I" (.ref ma)) (pre11 : Arv Z h0 ma k_ma .int (12 : Int32) [(.int m0), (.int m1), (.int m2), (.int m3), (.int m4), (.int m5), (.int m6), (.int m7)] (.int (0 : Int32))) (hX : (((un - (1 : Int64)) - ub).toInt32).toInt64 = ((un - (1 : Int64)) - ub)) :
    MetFree l (⟨"tidemark/log/RecordMarks$RunMarking", "marks", "()Ltidemark/log/RecordMarks$Span;"⟩ : MethodName) (head1 (Jvm.Cond.code (⟨"tidemark/log/RecordMarks$RunMarking", "marks", "()Ltidemark/log/RecordMarks$Span;"⟩ : MethodName) prog_115_method_6_code 1 (some (.object "tidemark/log/RecordMarks$Span")) :: ws) ({ frames := 4, cells := 2, slots := 9, locals := 77 } : Room)) (fun a U => a = #[(.ref a0)] ∧ Z.Warmed39 U.vm ∧ U.heap = h0) (fun _ _ _ _ _ => True) (fun _ U o U' => ∃ v L, o = .returned v ∧ own_Qmk1 Z a0 lm ul up ue ub un us bt ma k_ma m0 m1 m2 m3 m4 m5 m6 m7 h0 n0 v U'.heap L ∧ FrameEnd U o U' L ({ frames := 4, cells := 2, slots := 9, locals := 77 } : Room).cells ({ frames := 4, cells := 2, slots := 9, locals := 77 } : Room).slots) := by
  refine MetFree.of_bodySF (plainFor_of_name own_pn113) hisR ?_
  intro p e s m args below meth c s₁ Bd hml0 hP hK
  obtain ⟨rfl, hZ, hh⟩ := hP
  have hx := Bd.exec
  have hby := Bd.bytes
  have hlk : meth.locks = false := Bd.notSynchronized
  have hml : c.maxLocals = 1 := hml0
  have hown : s.vm.findClass "tidemark/log/RecordMarks$RunMarking" = some m.cls := findClass_of_methodNamed Bd.named
  have hnm := (name_of_methodNamed Bd.named Bd.method).1
  have X0 : Stand p l e ({ frames := 4, cells := 2, slots := 9, locals := 77 } : Room) s m #[(.ref a0)] below meth c s₁ [] 0 0 := Stand.of_body Bd
  have e0 : s₁.heap = h0 := by rw [← hh, Bd.state]; rfl
  have N0 := Fr.nil n0
  show OG p e below (FE s ({ frames := 4, cells := 2, slots := 9, locals := 77 } : Room).cells ({ frames := 4, cells := 2, slots := 9, locals := 77 } : Room).slots) (own_Qmk1 Z a0 lm ul up ue ub un us bt ma k_ma m0 m1 m2 m3 m4 m5 m6 m7 h0 n0) (s₁.setTop (entryFrame m #[(.ref a0)] 1))
  refine og_of (fun _ k => castTop (own_efmk1 m a0) k) ?_
  obtain ⟨T1, h1, X1, e1, E1, A1, D1, -, st1⟩ := newO X0 hx hZ hown (hw _ (List.mem_of_getElem? (i := 61) rfl)) (hw _ (List.mem_of_getElem? (i := 62) rfl)) (hw _ (List.mem_of_getElem? (i := 63) rfl)) e0 (g := (mkF m 0 #[.val (.ref a0)] [])) rfl (hb hby own_d7_0) (by decide) (by decide)
  obtain ⟨b1, g1⟩ : ∃ z, z = h0.size := ⟨_, rfl⟩
  rw [← g1] at A1 D1 st1
  have ne2 : a0 ≠ b1 := Nat.ne_of_lt (Nat.lt_of_lt_of_le pre0.lt (Nat.le_of_eq g1.symm))
  have ne3 : lm ≠ b1 := Nat.ne_of_lt (Nat.lt_of_lt_of_le pre8.lt (Nat.le_of_eq g1.symm))
  have ne4 : ma ≠ b1 := Nat.ne_of_lt (Nat.lt_of_lt_of_le pre11.lt (Nat.le_of_eq g1.symm))
  have gn1 : n0 ≤ b1 := Nat.le_trans Z0 (Nat.le_of_eq g1.symm)
  have sz1 : h0.size ≤ b1 := Nat.le_trans (Keep.refl h0 []).1 (Nat.le_of_eq g1.symm)
  have Kp5 : Keep h0 h1 [] := (Keep.refl h0 []).ext E1
  have F1_88 : Fld Z h1 b1 "tidemark/log/RecordMarks$Span" "position" "J" (.long (0 : Int64)) := D1 (Or.inr (hw _ (List.mem_of_getElem? (i := 88) rfl))) (ty := .long) (by decide)
  have F1_90 : Fld Z h1 b1 "tidemark/log/RecordMarks$Span" "size" "I" (.int (0 : Int32)) := D1 (Or.inr (hw _ (List.mem_of_getElem? (i := 90) rfl))) (ty := .int) (by decide)
  have F1_92 : Fld Z h1 b1 "tidemark/log/RecordMarks$Span" "baseOffset" "J" (.long (0 : Int64)) := D1 (Or.inr (hw _ (List.mem_of_getElem? (i := 92) rfl))) (ty := .long) (by decide)
  have F1_97 : Fld Z h1 b1 "tidemark/log/RecordMarks$Span" "lastOffsetDelta" "I" (.int (0 : Int32)) := D1 (Or.inr (hw _ (List.mem_of_getElem? (i := 97) rfl))) (ty := .int) (by decide)
  have F1_99 : Fld Z h1 b1 "tidemark/log/RecordMarks$Span" "maxTimestamp" "J" (.long (0 : Int64)) := D1 (Or.inr (hw _ (List.mem_of_getElem? (i := 99) rfl))) (ty := .long) (by decide)
  have F1_101 : Fld Z h1 b1 "tidemark/log/RecordMarks$Span" "later" "[I" .null := D1 (Or.inr (hw _ (List.mem_of_getElem? (i := 101) rfl))) (ty := (.array .int)) (by decide)
  refine og_of st1 ?_
  show OG p e below _ _ (T1.setTop (mkF m 3 #[.val (.ref a0)] [(.ref b1)]))
  refine o_dup X1 hx rfl (hb hby own_d7_3) rfl ?_
  refine o_aloadN X1 hx rfl (hb hby own_d7_4) rfl rfl ?_
  have Fc6 : Fld Z h1 a0 "tidemark/log/RecordMarks$RunMarking" "position" "J" (.long up) := (Fld.ext E1 pre2)
  obtain ⟨T7, X7, e7, st7⟩ := getF X1 hx hZ hown (host := "") (Or.inl (hw _ (List.mem_of_getElem? (i := 25) rfl))) Via.refl e1 Fc6 (g := (mkF m 5 #[.val (.ref a0)] [(.ref a0), (.ref b1), (.ref b1)])) rfl rfl (hb hby own_d7_5)
  refine og_of st7 ?_
  show OG p e below _ _ (T7.setTop (mkF m 8 #[.val (.ref a0)] [(.long up), (.ref b1), (.ref b1)]))
  refine o_aloadN X7 hx rfl (hb hby own_d7_8) rfl rfl ?_
  have Fc8 : Fld Z h1 a0 "tidemark/log/RecordMarks$RunMarking" "end" "J" (.long ue) := (Fld.ext E1 pre3)
  obtain ⟨T9, X9, e9, st9⟩ := getF X7 hx hZ hown (host := "") (Or.inl (hw _ (List.mem_of_getElem? (i := 27) rfl))) Via.refl e7 Fc8 (g := (mkF m 9 #[.val (.ref a0)] [(.ref a0), (.long up), (.ref b1), (.ref b1)])) rfl rfl (hb hby own_d7_9)
  refine og_of st9 ?_
  show OG p e below _ _ (T9.setTop (mkF m 12 #[.val (.ref a0)] [(.long ue), (.long up), (.ref b1), (.ref b1)]))
  refine o_aloadN X9 hx rfl (hb hby own_d7_12) rfl rfl ?_
  obtain ⟨T10, X10, e10, st10⟩ := getF X9 hx hZ hown (host := "") (Or.inl (hw _ (List.mem_of_getElem? (i := 25) rfl))) Via.refl e9 Fc6 (g := (mkF m 13 #[.val (.ref a0)] [(.ref a0), (.long ue), (.long up), (.ref b1), (.ref b1)])) rfl rfl (hb hby own_d7_13)
  refine og_of st10 ?_
  show OG p e below _ _ (T10.setTop (mkF m 16 #[.val (.ref a0)] [(.long up), (.long ue), (.long up), (.ref b1), (.ref b1)]))
  refine o_lsub (z := (ue - up)) X10 hx rfl (hb hby own_d7_16) rfl ?_
  refine o_l2i (z := ((ue - up).toInt32)) X10 hx rfl (hb hby own_d7_17) rfl ?_
  refine o_aloadN X10 hx rfl (hb hby own_d7_18) rfl rfl ?_
  have Fc11 : Fld Z h1 a0 "tidemark/log/RecordMarks$RunMarking" "baseOffset" "J" (.long ub) := (Fld.ext E1 pre5)
  obtain ⟨T12, X12, e12, st12⟩ := getF X10 hx hZ hown (host := "") (Or.inl (hw _ (List.mem_of_getElem? (i := 36) rfl))) Via.refl e10 Fc11 (g := (mkF m 19 #[.val (.ref a0)] [(.ref a0), (.int ((ue - up).toInt32)), (.long up), (.ref b1), (.ref b1)])) rfl rfl (hb hby own_d7_19)
  refine og_of st12 ?_
  show OG p e below _ _ (T12.setTop (mkF m 22 #[.val (.ref a0)] [(.long ub), (.int ((ue - up).toInt32)), (.long up), (.ref b1), (.ref b1)]))
  refine o_aloadN X12 hx rfl (hb hby own_d7_22) rfl rfl ?_
  have Fc13 : Fld Z h1 a0 "tidemark/log/RecordMarks$RunMarking" "nextOffset" "J" (.long un) := (Fld.ext E1 pre6)
  obtain ⟨T14, X14, e14, st14⟩ := getF X12 hx hZ hown (host := "") (Or.inl (hw _ (List.mem_of_getElem? (i := 38) rfl))) Via.refl e12 Fc13 (g := (mkF m 23 #[.val (.ref a0)] [(.ref a0), (.long ub), (.int ((ue - up).toInt32)), (.long up), (.ref b1), (.ref b1)])) rfl rfl (hb hby own_d7_23)
  refine og_of st14 ?_
  show OG p e below _ _ (T14.setTop (mkF m 26 #[.val (.ref a0)] [(.long un), (.long ub), (.int ((ue - up).toInt32)), (.long up), (.ref b1), (.ref b1)]))
  refine o_aloadN X14 hx rfl (hb hby own_d7_26) rfl rfl ?_
  have Fc15 : Fld Z h1 a0 "tidemark/log/RecordMarks$RunMarking" "largest" "J" (.long ul) := (Fld.ext E1 pre1)
  obtain ⟨T16, X16, e16, st16⟩ := getF X14 hx hZ hown (host := "") (Or.inl (hw _ (List.mem_of_getElem? (i := 23) rfl))) Via.refl e14 Fc15 (g := (mkF m 27 #[.val (.ref a0)] [(.ref a0), (.long un), (.long ub), (.int ((ue - up).toInt32)), (.long up), (.ref b1), (.ref b1)])) rfl rfl (hb hby own_d7_27)
  refine og_of st16 ?_
  show OG p e below _ _ (T16.setTop (mkF m 30 #[.val (.ref a0)] [(.long ul), (.long un), (.long ub), (.int ((ue - up).toInt32)), (.long up), (.ref b1), (.ref b1)]))
  refine o_aloadN X16 hx rfl (hb hby own_d7_30) rfl rfl ?_
  have Fc17 : Fld Z h1 a0 "tidemark/log/RecordMarks$RunMarking" "later" "Ltidemark/log/RecordMarks$LaterMarks;" (.ref lm) := (Fld.ext E1 pre0)
  obtain ⟨T18, X18, e18, st18⟩ := getF X16 hx hZ hown (host := "") (Or.inl (hw _ (List.mem_of_getElem? (i := 20) rfl))) Via.refl e16 Fc17 (g := (mkF m 31 #[.val (.ref a0)] [(.ref a0), (.long ul), (.long un), (.long ub), (.int ((ue - up).toInt32)), (.long up), (.ref b1), (.ref b1)])) rfl rfl (hb hby own_d7_31)
  refine og_of st18 ?_
  show OG p e below _ _ (T18.setTop (mkF m 34 #[.val (.ref a0)] [(.ref lm), (.long ul), (.long un), (.long ub), (.int ((ue - up).toInt32)), (.long up), (.ref b1), (.ref b1)]))
  have Fc20 : Fld Z h1 lm "tidemark/log/RecordMarks$LaterMarks" "count" "I" (.int (1 : Int32)) := (Fld.ext E1 pre9)
  have Fc21 : Fld Z h1 lm "tidemark/log/RecordMarks$LaterMarks" "marks" "[I" (.ref ma) := (Fld.ext E1 pre10)
  have Fc22 : Arv Z h1 ma k_ma .int (12 : Int32) [(.int m0), (.int m1), (.int m2), (.int m3), (.int m4), (.int m5), (.int m6), (.int m7)] (.int (0 : Int32)) := (pre11.ext E1)
  have Fc23 : Exa Z h1 lm "tidemark/log/RecordMarks$LaterMarks" := (Exa.ext E1 pre8)
  obtain ⟨cq19, kq19, q19a, q19b, q19c⟩ := isOf hZ e18 Fc23
  obtain ⟨_, _, ⟨T19, L19, k19, n19⟩, -, X19, ⟨Lc19, hQ19, l19, y19, z19⟩, st19⟩ := X18.virtualBack hx (y := (⟨"tidemark/log/RecordMarks$LaterMarks", "toArray", "()[I"⟩ : MethodName)) (z := (⟨"tidemark/log/RecordMarks$LaterMarks", "toArray", "()[I"⟩ : MethodName)) hown (mvT hZ (hw _ (List.mem_of_getElem? (i := 64) rfl))) (mvT hZ (hw _ (List.mem_of_getElem? (i := 65) rfl))) (notFace_of_selects (args := #[]) (mvT hZ (hw _ (List.mem_of_getElem? (i := 67) rfl)))) (mvT hZ (hw _ (List.mem_of_getElem? (i := 67) rfl))) (mvT hZ (hw _ (List.mem_of_getElem? (i := 66) rfl))) (by decide) (backOf (W := 11) (own_rmta1 l Z aA hw [] lm ma k_ma m0 m1 m2 m3 m4 m5 m6 m7 h1 n0 (Nat.le_trans Z0 E1.1) Fc20 Fc21 Fc22) hZ (hw _ (List.mem_of_getElem? (i := 68) rfl)) (hw _ (List.mem_of_getElem? (i := 12) rfl)) (by decide) (by decide)) q19a q19c (g := (mkF m 34 #[.val (.ref a0)] [(.ref lm), (.long ul), (.long un), (.long ub), (.int ((ue - up).toInt32)), (.long up), (.ref b1), (.ref b1)])) rfl (by rw [hml]; rfl) (Steps.refl _) (argsL := []) (rest := [(.long ul), (.long un), (.long ub), (.int ((ue - up).toInt32)), (.long up), (.ref b1), (.ref b1)]) (lenOf own_pd8 rfl) rfl (by show 2 * 0 + _ ≤ _; exact Nat.le_of_eq rfl) (hb hby own_d7_34) (fun _ _ => ⟨rfl, e18, Nat.le_of_ble_eq_true rfl, Nat.le_of_ble_eq_true rfl⟩)
  dsimp only [Pt.U, Pt.locs, Pt.cells, Pt.slots] at X19 l19 y19 z19 st19 hQ19
  subst l19 y19 z19
  obtain ⟨b19, rfl, N19q, K19, sq19_0⟩ := hQ19
  have ne24 : a0 ≠ b19 := Nat.ne_of_lt (Nat.lt_of_lt_of_le Fc17.lt sq19_0)
  have ne25 : lm ≠ b19 := Nat.ne_of_lt (Nat.lt_of_lt_of_le Fc23.lt sq19_0)
  have ne26 : ma ≠ b19 := Nat.ne_of_lt (Nat.lt_of_lt_of_le Fc22.lt sq19_0)
  have ne27 : b1 ≠ b19 := Nat.ne_of_lt (Nat.lt_of_lt_of_le A1.lt sq19_0)
  have gnb19 : n0 ≤ b19 := Nat.le_trans (Nat.le_trans Z0 E1.1) sq19_0
  have szb19 : h0.size ≤ b19 := Nat.le_trans Kp5.1 sq19_0
  have N28 := Fr.app N0 N19q
  have Kp29 : Keep h0 T19.heap [] := Kp5.trans K19 all0
  refine og_tr st19 ?_
  show OG p e below _ _ (T19.setTop (mkF m 37 #[.val (.ref a0)] [(.ref b19), (.long ul), (.long un), (.long ub), (.int ((ue - up).toInt32)), (.long up), (.ref b1), (.ref b1)]))
  have Fc31 : Exa Z T19.heap b1 "tidemark/log/RecordMarks$InRun" := (A1.keep K19)
  have Fc32 : Fld Z T19.heap b1 "tidemark/log/RecordMarks$Span" "position" "J" (.long (0 : Int64)) := (F1_88.keep K19 nin0)
  have Fc33 : Fld Z T19.heap b1 "tidemark/log/RecordMarks$Span" "size" "I" (.int (0 : Int32)) := (F1_90.keep K19 nin0)
  have Fc34 : Fld Z T19.heap b1 "tidemark/log/RecordMarks$Span" "baseOffset" "J" (.long (0 : Int64)) := (F1_92.keep K19 nin0)
  have Fc35 : Fld Z T19.heap b1 "tidemark/log/RecordMarks$Span" "lastOffsetDelta" "I" (.int (0 : Int32)) := (F1_97.keep K19 nin0)
  have Fc36 : Fld Z T19.heap b1 "tidemark/log/RecordMarks$Span" "maxTimestamp" "J" (.long (0 : Int64)) := (F1_99.keep K19 nin0)
  have Fc37 : Fld Z T19.heap b1 "tidemark/log/RecordMarks$Span" "later" "[I" .null := (F1_101.keep K19 nin0)
  have hw_38 : (((un - (1 : Int64)) - ub).toInt32).toInt64 = ((un - (1 : Int64)) - ub) := hX
  obtain ⟨_, _, ⟨T30, L30, k30, n30⟩, -, X30, ⟨Lc30, hQ30, l30, y30, z30⟩, st30⟩ := X19.specialBack hx (y := (⟨"tidemark/log/RecordMarks$InRun", "<init>", "(JIJJJ[I)V"⟩ : MethodName)) rfl hown (mvT hZ (hw _ (List.mem_of_getElem? (i := 74) rfl))) (mvT hZ (hw _ (List.mem_of_getElem? (i := 75) rfl))) (mvT hZ (hw _ (List.mem_of_getElem? (i := 76) rfl))) (by decide) (backOf (W := 1) (own_rm9 l Z aA hw [] b1 up ((ue - up).toInt32) ub un ul b19 T19.heap n0 (Nat.le_trans (Nat.le_trans Z0 E1.1) K19.1) Fc31 gn1 Fc32 Fc33 Fc34 Fc35 Fc36 Fc37 hw_38) hZ (hw _ (List.mem_of_getElem? (i := 76) rfl)) (hw _ (List.mem_of_getElem? (i := 63) rfl)) (by decide) (by decide)) (g := (mkF m 37 #[.val (.ref a0)] [(.ref b19), (.long ul), (.long un), (.long ub), (.int ((ue - up).toInt32)), (.long up), (.ref b1), (.ref b1)])) rfl (by rw [hml]; rfl) (Steps.refl _) (a := b1) (argsL := [(.long up), (.int ((ue - up).toInt32)), (.long ub), (.long un), (.long ul), (.ref b19)]) (rest := [(.ref b1)]) (lenOf own_pd7 rfl) rfl (by show 2 * 0 + _ ≤ _; exact Nat.le_of_eq rfl) (hb hby own_d7_37) (fun _ _ => ⟨rfl, rfl, Nat.le_of_ble_eq_true rfl, Nat.le_of_ble_eq_true rfl⟩)
  dsimp only [Pt.U, Pt.locs, Pt.cells, Pt.slots] at X30 l30 y30 z30 st30 hQ30
  subst l30 y30 z30
  obtain ⟨rfl, N30q, K30, f30_0, f30_1, f30_2, f30_3, f30_4, f30_5⟩ := hQ30
  have N39 := Fr.app N28 N30q
  have Kp40 : Keep h0 T30.heap [] := Kp29.trans K30 (allS (Or.inr sz1) all0)
  refine og_tr st30 ?_
  show OG p e below _ _ (T30.setTop (mkF m 40 #[.val (.ref a0)] [(.ref b1)]))
  have Fc41 : Exa Z T30.heap b1 "tidemark/log/RecordMarks$InRun" := (Fc31.keep K30)
  exact o_retA X30 hx Bd.returns rfl (own_lv X30 hlk (by decide) (by decide)) (hb hby own_d7_40) rfl rfl ⟨b1, rfl, N39, (Kp40), sz1, Fc41, f30_2, f30_3⟩
theorem own_efmk2 (m : MethodId) (a0 : Addr) : entryFrame m #[(.ref a0)] 1 = mkF m 0 #[.val (.ref a0)] [] := by first | (simp [entryFrame, mkF, argsToLocals, Value.category]; done) | rfl
def own_Qmk2 (Z : State) (a0 : Addr) (lm : Addr) (ul : Int64) (up : Int64) (ue : Int64) (ub : Int64) (un : Int64) (us : Int32) (bt : Int32) (ma : Addr) (k_ma : ClassId) (m0 : Int32) (m1 : Int32) (m2 : Int32) (m3 : Int32) (m4 : Int32) (m5 : Int32) (m6 : Int32) (m7 : Int32) (h0 : Heap) (n0 : Nat) (v : Option Value) (h : Heap) (L : List Loc) : Prop := ∃ (b : Addr), v = some (.ref b) ∧ Fr n0 L ∧ Keep h0 h [] ∧ h0.size ≤ b ∧ Exa Z h b "tidemark/log/RecordMarks$InRun" ∧ Fld Z h b "tidemark/log/RecordMarks$Span" "baseOffset" "J" (.long ub) ∧ Fld Z h b "tidemark/log/RecordMarks$Span" "lastOffsetDelta" "I" (.int (((un - (1 : Int64)) - ub).toInt32))
set_option maxRecDepth 65536 in
set_option maxHeartbeats 40000000 in
theorem own_rmmk2 (l : Launch) (Z : State) (aA : Array Value) (hw : ∀ d ∈ tables_1, d.before aA Z = true) (ws : List Jvm.Cond) (a0 : Addr) (lm : Addr) (ul : Int64) (up : Int64) (ue : Int64) (ub : Int64) (un : Int64) (us : Int32) (bt : Int32) (ma : Addr) (k_ma : ClassId) (m0 : Int32) (m1 : Int32) (m2 : Int32) (m3 : Int32) (m4 : Int32) (m5 : Int32) (m6 : Int32) (m7 : Int32) (h0 : Heap) (n0 : Nat) (Z0 : n0 ≤ h0.size) (pre0 : Fld Z h0 a0 "tidemark/log/RecordMarks$RunMarking" "later" "Ltidemark/log/RecordMarks$LaterMarks;" (.ref lm)) (pre1 : Fld Z h0 a0 "tidemark/log/RecordMarks$RunMarking" "largest" "J" (.long ul)) (pre2 : Fld Z h0 a0 "tidemark/log/RecordMarks$RunMarking" "position" "J" (.long up)) (pre3 : Fld Z h0 a0 "tidemark/log/RecordMarks$RunMarking" "end" "J" (.long ue)) (pre4 : Fld Z h0 a0 "tidemark/log/RecordMarks$RunMarking" "batches" "I" (.int bt)) (pre5 : Fld Z h0 a0 "tidemark/log/RecordMarks$RunMarking" "baseOffset" "J" (.long ub)) (pre6 : Fld Z h0 a0 "tidemark/log/RecordMarks$RunMarking" "nextOffset" "J" (.long un)) (pre7 : Fld Z h0 a0 "tidemark/log/RecordMarks$RunMarking" "lastStart" "I" (.int us)) (pre8 : Exa Z h0 lm "tidemark/log/RecordMarks$LaterMarks") (pre9 : Fld Z h0 lm "tidemark/log/RecordMarks$LaterMarks" "count" "I" (.int (2 : Int32))) (pre10 : Fld Z h0 lm "tidemark/log/RecordMarks$LaterMarks" "marks" "[I" (.ref ma)) (pre11 : Arv Z h0 ma k_ma .int (12 : Int32) [(.int m0), (.int m1), (.int m2), (.int m3), (.int m4), (.int m5), (.int m6), (.int m7)] (.int (0 : Int32))) (hX : (((un - (1 : Int64)) - ub).toInt32).toInt64 = ((un - (1 : Int64)) - ub)) :
    MetFree l (⟨"tidemark/log/RecordMarks$RunMarking", "marks", "()Ltidemark/log/RecordMarks$Span;"⟩ : MethodName) (head1 (Jvm.Cond.code (⟨"tidemark/log/RecordMarks$RunMarking", "marks", "()Ltidemark/log/RecordMarks$Span;"⟩ : MethodName) prog_115_method_6_code 1 (some (.object "tidemark/log/RecordMarks$Span")) :: ws) ({ frames := 4, cells := 2, slots := 12, locals := 77 } : Room)) (fun a U => a = #[(.ref a0)] ∧ Z.Warmed39 U.vm ∧ U.heap = h0) (fun _ _ _ _ _ => True) (fun _ U o U' => ∃ v L, o = .returned v ∧ own_Qmk2 Z a0 lm ul up ue ub un us bt ma k_ma m0 m1 m2 m3 m4 m5 m6 m7 h0 n0 v U'.heap L ∧ FrameEnd U o U' L ({ frames := 4, cells := 2, slots := 12, locals := 77 } : Room).cells ({ frames := 4, cells := 2, slots := 12, locals := 77 } : Room).slots) := by
  refine MetFree.of_bodySF (plainFor_of_name own_pn113) hisR ?_
  intro p e s m args below meth c s₁ Bd hml0 hP hK
  obtain ⟨rfl, hZ, hh⟩ := hP
  have hx := Bd.exec
  have hby := Bd.bytes
  have hlk : meth.locks = false := Bd.notSynchronized
  have hml : c.maxLocals = 1 := hml0
  have hown : s.vm.findClass "tidemark/log/RecordMarks$RunMarking" = some m.cls := findClass_of_methodNamed Bd.named
  have hnm := (name_of_methodNamed Bd.named Bd.method).1
  have X0 : Stand p l e ({ frames := 4, cells := 2, slots := 12, locals := 77 } : Room) s m #[(.ref a0)] below meth c s₁ [] 0 0 := Stand.of_body Bd
  have e0 : s₁.heap = h0 := by rw [← hh, Bd.state]; rfl
  have N0 := Fr.nil n0
  show OG p e below (FE s ({ frames := 4, cells := 2, slots := 12, locals := 77 } : Room).cells ({ frames := 4, cells := 2, slots := 12, locals := 77 } : Room).slots) (own_Qmk2 Z a0 lm ul up ue ub un us bt ma k_ma m0 m1 m2 m3 m4 m5 m6 m7 h0 n0) (s₁.setTop (entryFrame m #[(.ref a0)] 1))
  refine og_of (fun _ k => castTop (own_efmk2 m a0) k) ?_
  obtain ⟨T1, h1, X1, e1, E1, A1, D1, -, st1⟩ := newO X0 hx hZ hown (hw _ (List.mem_of_getElem? (i := 61) rfl)) (hw _ (List.mem_of_getElem? (i := 62) rfl)) (hw _ (List.mem_of_getElem? (i := 63) rfl)) e0 (g := (mkF m 0 #[.val (.ref a0)] [])) rfl (hb hby own_d7_0) (by decide) (by decide)
  obtain ⟨b1, g1⟩ : ∃ z, z = h0.size := ⟨_, rfl⟩
  rw [← g1] at A1 D1 st1
  have ne2 : a0 ≠ b1 := Nat.ne_of_lt (Nat.lt_of_lt_of_le pre0.lt (Nat.le_of_eq g1.symm))
  have ne3 : lm ≠ b1 := Nat.ne_of_lt (Nat.lt_of_lt_of_le pre8.lt (Nat.le_of_eq g1.symm))
  have ne4 : ma ≠ b1 := Nat.ne_of_lt (Nat.lt_of_lt_of_le pre11.lt (Nat.le_of_eq g1.symm))
  have gn1 : n0 ≤ b1 := Nat.le_trans Z0 (Nat.le_of_eq g1.symm)
  have sz1 : h0.size ≤ b1 := Nat.le_trans (Keep.refl h0 []).1 (Nat.le_of_eq g1.symm)
  have Kp5 : Keep h0 h1 [] := (Keep.refl h0 []).ext E1
  have F1_88 : Fld Z h1 b1 "tidemark/log/RecordMarks$Span" "position" "J" (.long (0 : Int64)) := D1 (Or.inr (hw _ (List.mem_of_getElem? (i := 88) rfl))) (ty := .long) (by decide)
  have F1_90 : Fld Z h1 b1 "tidemark/log/RecordMarks$Span" "size" "I" (.int (0 : Int32)) := D1 (Or.inr (hw _ (List.mem_of_getElem? (i := 90) rfl))) (ty := .int) (by decide)
  have F1_92 : Fld Z h1 b1 "tidemark/log/RecordMarks$Span" "baseOffset" "J" (.long (0 : Int64)) := D1 (Or.inr (hw _ (List.mem_of_getElem? (i := 92) rfl))) (ty := .long) (by decide)
  have F1_97 : Fld Z h1 b1 "tidemark/log/RecordMarks$Span" "lastOffsetDelta" "I" (.int (0 : Int32)) := D1 (Or.inr (hw _ (List.mem_of_getElem? (i := 97) rfl))) (ty := .int) (by decide)
  have F1_99 : Fld Z h1 b1 "tidemark/log/RecordMarks$Span" "maxTimestamp" "J" (.long (0 : Int64)) := D1 (Or.inr (hw _ (List.mem_of_getElem? (i := 99) rfl))) (ty := .long) (by decide)
  have F1_101 : Fld Z h1 b1 "tidemark/log/RecordMarks$Span" "later" "[I" .null := D1 (Or.inr (hw _ (List.mem_of_getElem? (i := 101) rfl))) (ty := (.array .int)) (by decide)
  refine og_of st1 ?_
  show OG p e below _ _ (T1.setTop (mkF m 3 #[.val (.ref a0)] [(.ref b1)]))
  refine o_dup X1 hx rfl (hb hby own_d7_3) rfl ?_
  refine o_aloadN X1 hx rfl (hb hby own_d7_4) rfl rfl ?_
  have Fc6 : Fld Z h1 a0 "tidemark/log/RecordMarks$RunMarking" "position" "J" (.long up) := (Fld.ext E1 pre2)
  obtain ⟨T7, X7, e7, st7⟩ := getF X1 hx hZ hown (host := "") (Or.inl (hw _ (List.mem_of_getElem? (i := 25) rfl))) Via.refl e1 Fc6 (g := (mkF m 5 #[.val (.ref a0)] [(.ref a0), (.ref b1), (.ref b1)])) rfl rfl (hb hby own_d7_5)
  refine og_of st7 ?_
  show OG p e below _ _ (T7.setTop (mkF m 8 #[.val (.ref a0)] [(.long up), (.ref b1), (.ref b1)]))
  refine o_aloadN X7 hx rfl (hb hby own_d7_8) rfl rfl ?_
  have Fc8 : Fld Z h1 a0 "tidemark/log/RecordMarks$RunMarking" "end" "J" (.long ue) := (Fld.ext E1 pre3)
  obtain ⟨T9, X9, e9, st9⟩ := getF X7 hx hZ hown (host := "") (Or.inl (hw _ (List.mem_of_getElem? (i := 27) rfl))) Via.refl e7 Fc8 (g := (mkF m 9 #[.val (.ref a0)] [(.ref a0), (.long up), (.ref b1), (.ref b1)])) rfl rfl (hb hby own_d7_9)
  refine og_of st9 ?_
  show OG p e below _ _ (T9.setTop (mkF m 12 #[.val (.ref a0)] [(.long ue), (.long up), (.ref b1), (.ref b1)]))
  refine o_aloadN X9 hx rfl (hb hby own_d7_12) rfl rfl ?_
  obtain ⟨T10, X10, e10, st10⟩ := getF X9 hx hZ hown (host := "") (Or.inl (hw _ (List.mem_of_getElem? (i := 25) rfl))) Via.refl e9 Fc6 (g := (mkF m 13 #[.val (.ref a0)] [(.ref a0), (.long ue), (.long up), (.ref b1), (.ref b1)])) rfl rfl (hb hby own_d7_13)
  refine og_of st10 ?_
  show OG p e below _ _ (T10.setTop (mkF m 16 #[.val (.ref a0)] [(.long up), (.long ue), (.long up), (.ref b1), (.ref b1)]))
  refine o_lsub (z := (ue - up)) X10 hx rfl (hb hby own_d7_16) rfl ?_
  refine o_l2i (z := ((ue - up).toInt32)) X10 hx rfl (hb hby own_d7_17) rfl ?_
  refine o_aloadN X10 hx rfl (hb hby own_d7_18) rfl rfl ?_
  have Fc11 : Fld Z h1 a0 "tidemark/log/RecordMarks$RunMarking" "baseOffset" "J" (.long ub) := (Fld.ext E1 pre5)
  obtain ⟨T12, X12, e12, st12⟩ := getF X10 hx hZ hown (host := "") (Or.inl (hw _ (List.mem_of_getElem? (i := 36) rfl))) Via.refl e10 Fc11 (g := (mkF m 19 #[.val (.ref a0)] [(.ref a0), (.int ((ue - up).toInt32)), (.long up), (.ref b1), (.ref b1)])) rfl rfl (hb hby own_d7_19)
  refine og_of st12 ?_
  show OG p e below _ _ (T12.setTop (mkF m 22 #[.val (.ref a0)] [(.long ub), (.int ((ue - up).toInt32)), (.long up), (.ref b1), (.ref b1)]))
  refine o_aloadN X12 hx rfl (hb hby own_d7_22) rfl rfl ?_
  have Fc13 : Fld Z h1 a0 "tidemark/log/RecordMarks$RunMarking" "nextOffset" "J" (.long un) := (Fld.ext E1 pre6)
  obtain ⟨T14, X14, e14, st14⟩ := getF X12 hx hZ hown (host := "") (Or.inl (hw _ (List.mem_of_getElem? (i := 38) rfl))) Via.refl e12 Fc13 (g := (mkF m 23 #[.val (.ref a0)] [(.ref a0), (.long ub), (.int ((ue - up).toInt32)), (.long up), (.ref b1), (.ref b1)])) rfl rfl (hb hby own_d7_23)
  refine og_of st14 ?_
  show OG p e below _ _ (T14.setTop (mkF m 26 #[.val (.ref a0)] [(.long un), (.long ub), (.int ((ue - up).toInt32)), (.long up), (.ref b1), (.ref b1)]))
  refine o_aloadN X14 hx rfl (hb hby own_d7_26) rfl rfl ?_
  have Fc15 : Fld Z h1 a0 "tidemark/log/RecordMarks$RunMarking" "largest" "J" (.long ul) := (Fld.ext E1 pre1)
  obtain ⟨T16, X16, e16, st16⟩ := getF X14 hx hZ hown (host := "") (Or.inl (hw _ (List.mem_of_getElem? (i := 23) rfl))) Via.refl e14 Fc15 (g := (mkF m 27 #[.val (.ref a0)] [(.ref a0), (.long un), (.long ub), (.int ((ue - up).toInt32)), (.long up), (.ref b1), (.ref b1)])) rfl rfl (hb hby own_d7_27)
  refine og_of st16 ?_
  show OG p e below _ _ (T16.setTop (mkF m 30 #[.val (.ref a0)] [(.long ul), (.long un), (.long ub), (.int ((ue - up).toInt32)), (.long up), (.ref b1), (.ref b1)]))
  refine o_aloadN X16 hx rfl (hb hby own_d7_30) rfl rfl ?_
  have Fc17 : Fld Z h1 a0 "tidemark/log/RecordMarks$RunMarking" "later" "Ltidemark/log/RecordMarks$LaterMarks;" (.ref lm) := (Fld.ext E1 pre0)
  obtain ⟨T18, X18, e18, st18⟩ := getF X16 hx hZ hown (host := "") (Or.inl (hw _ (List.mem_of_getElem? (i := 20) rfl))) Via.refl e16 Fc17 (g := (mkF m 31 #[.val (.ref a0)] [(.ref a0), (.long ul), (.long un), (.long ub), (.int ((ue - up).toInt32)), (.long up), (.ref b1), (.ref b1)])) rfl rfl (hb hby own_d7_31)
  refine og_of st18 ?_
  show OG p e below _ _ (T18.setTop (mkF m 34 #[.val (.ref a0)] [(.ref lm), (.long ul), (.long un), (.long ub), (.int ((ue - up).toInt32)), (.long up), (.ref b1), (.ref b1)]))
  have Fc20 : Fld Z h1 lm "tidemark/log/RecordMarks$LaterMarks" "count" "I" (.int (2 : Int32)) := (Fld.ext E1 pre9)
  have Fc21 : Fld Z h1 lm "tidemark/log/RecordMarks$LaterMarks" "marks" "[I" (.ref ma) := (Fld.ext E1 pre10)
  have Fc22 : Arv Z h1 ma k_ma .int (12 : Int32) [(.int m0), (.int m1), (.int m2), (.int m3), (.int m4), (.int m5), (.int m6), (.int m7)] (.int (0 : Int32)) := (pre11.ext E1)
  have Fc23 : Exa Z h1 lm "tidemark/log/RecordMarks$LaterMarks" := (Exa.ext E1 pre8)
  obtain ⟨cq19, kq19, q19a, q19b, q19c⟩ := isOf hZ e18 Fc23
  obtain ⟨_, _, ⟨T19, L19, k19, n19⟩, -, X19, ⟨Lc19, hQ19, l19, y19, z19⟩, st19⟩ := X18.virtualBack hx (y := (⟨"tidemark/log/RecordMarks$LaterMarks", "toArray", "()[I"⟩ : MethodName)) (z := (⟨"tidemark/log/RecordMarks$LaterMarks", "toArray", "()[I"⟩ : MethodName)) hown (mvT hZ (hw _ (List.mem_of_getElem? (i := 64) rfl))) (mvT hZ (hw _ (List.mem_of_getElem? (i := 65) rfl))) (notFace_of_selects (args := #[]) (mvT hZ (hw _ (List.mem_of_getElem? (i := 67) rfl)))) (mvT hZ (hw _ (List.mem_of_getElem? (i := 67) rfl))) (mvT hZ (hw _ (List.mem_of_getElem? (i := 66) rfl))) (by decide) (backOf (W := 11) (own_rmta2 l Z aA hw [] lm ma k_ma m0 m1 m2 m3 m4 m5 m6 m7 h1 n0 (Nat.le_trans Z0 E1.1) Fc20 Fc21 Fc22) hZ (hw _ (List.mem_of_getElem? (i := 68) rfl)) (hw _ (List.mem_of_getElem? (i := 12) rfl)) (by decide) (by decide)) q19a q19c (g := (mkF m 34 #[.val (.ref a0)] [(.ref lm), (.long ul), (.long un), (.long ub), (.int ((ue - up).toInt32)), (.long up), (.ref b1), (.ref b1)])) rfl (by rw [hml]; rfl) (Steps.refl _) (argsL := []) (rest := [(.long ul), (.long un), (.long ub), (.int ((ue - up).toInt32)), (.long up), (.ref b1), (.ref b1)]) (lenOf own_pd8 rfl) rfl (by show 2 * 0 + _ ≤ _; exact Nat.le_of_eq rfl) (hb hby own_d7_34) (fun _ _ => ⟨rfl, e18, Nat.le_of_ble_eq_true rfl, Nat.le_of_ble_eq_true rfl⟩)
  dsimp only [Pt.U, Pt.locs, Pt.cells, Pt.slots] at X19 l19 y19 z19 st19 hQ19
  subst l19 y19 z19
  obtain ⟨b19, rfl, N19q, K19, sq19_0⟩ := hQ19
  have ne24 : a0 ≠ b19 := Nat.ne_of_lt (Nat.lt_of_lt_of_le Fc17.lt sq19_0)
  have ne25 : lm ≠ b19 := Nat.ne_of_lt (Nat.lt_of_lt_of_le Fc23.lt sq19_0)
  have ne26 : ma ≠ b19 := Nat.ne_of_lt (Nat.lt_of_lt_of_le Fc22.lt sq19_0)
  have ne27 : b1 ≠ b19 := Nat.ne_of_lt (Nat.lt_of_lt_of_le A1.lt sq19_0)
  have gnb19 : n0 ≤ b19 := Nat.le_trans (Nat.le_trans Z0 E1.1) sq19_0
  have szb19 : h0.size ≤ b19 := Nat.le_trans Kp5.1 sq19_0
  have N28 := Fr.app N0 N19q
  have Kp29 : Keep h0 T19.heap [] := Kp5.trans K19 all0
  refine og_tr st19 ?_
  show OG p e below _ _ (T19.setTop (mkF m 37 #[.val (.ref a0)] [(.ref b19), (.long ul), (.long un), (.long ub), (.int ((ue - up).toInt32)), (.long up), (.ref b1), (.ref b1)]))
  have Fc31 : Exa Z T19.heap b1 "tidemark/log/RecordMarks$InRun" := (A1.keep K19)
  have Fc32 : Fld Z T19.heap b1 "tidemark/log/RecordMarks$Span" "position" "J" (.long (0 : Int64)) := (F1_88.keep K19 nin0)
  have Fc33 : Fld Z T19.heap b1 "tidemark/log/RecordMarks$Span" "size" "I" (.int (0 : Int32)) := (F1_90.keep K19 nin0)
  have Fc34 : Fld Z T19.heap b1 "tidemark/log/RecordMarks$Span" "baseOffset" "J" (.long (0 : Int64)) := (F1_92.keep K19 nin0)
  have Fc35 : Fld Z T19.heap b1 "tidemark/log/RecordMarks$Span" "lastOffsetDelta" "I" (.int (0 : Int32)) := (F1_97.keep K19 nin0)
  have Fc36 : Fld Z T19.heap b1 "tidemark/log/RecordMarks$Span" "maxTimestamp" "J" (.long (0 : Int64)) := (F1_99.keep K19 nin0)
  have Fc37 : Fld Z T19.heap b1 "tidemark/log/RecordMarks$Span" "later" "[I" .null := (F1_101.keep K19 nin0)
  have hw_38 : (((un - (1 : Int64)) - ub).toInt32).toInt64 = ((un - (1 : Int64)) - ub) := hX
  obtain ⟨_, _, ⟨T30, L30, k30, n30⟩, -, X30, ⟨Lc30, hQ30, l30, y30, z30⟩, st30⟩ := X19.specialBack hx (y := (⟨"tidemark/log/RecordMarks$InRun", "<init>", "(JIJJJ[I)V"⟩ : MethodName)) rfl hown (mvT hZ (hw _ (List.mem_of_getElem? (i := 74) rfl))) (mvT hZ (hw _ (List.mem_of_getElem? (i := 75) rfl))) (mvT hZ (hw _ (List.mem_of_getElem? (i := 76) rfl))) (by decide) (backOf (W := 1) (own_rm9 l Z aA hw [] b1 up ((ue - up).toInt32) ub un ul b19 T19.heap n0 (Nat.le_trans (Nat.le_trans Z0 E1.1) K19.1) Fc31 gn1 Fc32 Fc33 Fc34 Fc35 Fc36 Fc37 hw_38) hZ (hw _ (List.mem_of_getElem? (i := 76) rfl)) (hw _ (List.mem_of_getElem? (i := 63) rfl)) (by decide) (by decide)) (g := (mkF m 37 #[.val (.ref a0)] [(.ref b19), (.long ul), (.long un), (.long ub), (.int ((ue - up).toInt32)), (.long up), (.ref b1), (.ref b1)])) rfl (by rw [hml]; rfl) (Steps.refl _) (a := b1) (argsL := [(.long up), (.int ((ue - up).toInt32)), (.long ub), (.long un), (.long ul), (.ref b19)]) (rest := [(.ref b1)]) (lenOf own_pd7 rfl) rfl (by show 2 * 0 + _ ≤ _; exact Nat.le_of_eq rfl) (hb hby own_d7_37) (fun _ _ => ⟨rfl, rfl, Nat.le_of_ble_eq_true rfl, Nat.le_of_ble_eq_true rfl⟩)
  dsimp only [Pt.U, Pt.locs, Pt.cells, Pt.slots] at X30 l30 y30 z30 st30 hQ30
  subst l30 y30 z30
  obtain ⟨rfl, N30q, K30, f30_0, f30_1, f30_2, f30_3, f30_4, f30_5⟩ := hQ30
  have N39 := Fr.app N28 N30q
  have Kp40 : Keep h0 T30.heap [] := Kp29.trans K30 (allS (Or.inr sz1) all0)
  refine og_tr st30 ?_
  show OG p e below _ _ (T30.setTop (mkF m 40 #[.val (.ref a0)] [(.ref b1)]))
  have Fc41 : Exa Z T30.heap b1 "tidemark/log/RecordMarks$InRun" := (Fc31.keep K30)
  exact o_retA X30 hx Bd.returns rfl (own_lv X30 hlk (by decide) (by decide)) (hb hby own_d7_40) rfl rfl ⟨b1, rfl, N39, (Kp40), sz1, Fc41, f30_2, f30_3⟩
theorem own_d13_0 : decode prog_116_method_5_code 0 = .ok (.aload_n 0, 1) := by decide +kernel
theorem own_d13_1 : decode prog_116_method_5_code 1 = .ok (.getfield 17, 3) := by decide +kernel
theorem own_d13_4 : decode prog_116_method_5_code 4 = .ok (.aload_n 0, 1) := by decide +kernel
theorem own_d13_5 : decode prog_116_method_5_code 5 = .ok (.getfield 26, 3) := by decide +kernel
theorem own_d13_8 : decode prog_116_method_5_code 8 = .ok (.i2l, 1) := by decide +kernel
theorem own_d13_9 : decode prog_116_method_5_code 9 = .ok (.ladd, 1) := by decide +kernel
theorem own_d13_10 : decode prog_116_method_5_code 10 = .ok (.lconst 1, 1) := by decide +kernel
theorem own_d13_11 : decode prog_116_method_5_code 11 = .ok (.ladd, 1) := by decide +kernel
theorem own_d13_12 : decode prog_116_method_5_code 12 = .ok (.lreturn, 1) := by decide +kernel
theorem own_ef13 (m : MethodId) (a0 : Addr) : entryFrame m #[(.ref a0)] 1 = mkF m 0 #[.val (.ref a0)] [] := by first | (simp [entryFrame, mkF, argsToLocals, Value.category]; done) | rfl
def own_Q13 (Z : State) (a0 : Addr) (w1 : Int64) (w2 : Int32) (h0 : Heap) (n0 : Nat) (v : Option Value) (h : Heap) (L : List Loc) : Prop := v = some (.long ((w1 + (w2.toInt64)) + (1 : Int64))) ∧ Fr n0 L ∧ h = h0
set_option maxRecDepth 65536 in
set_option maxHeartbeats 40000000 in
theorem own_rm13 (l : Launch) (Z : State) (aA : Array Value) (hw : ∀ d ∈ tables_1, d.before aA Z = true) (ws : List Jvm.Cond) (a0 : Addr) (w1 : Int64) (w2 : Int32) (h0 : Heap) (n0 : Nat) (Z0 : n0 ≤ h0.size) (pre0 : Fld Z h0 a0 "tidemark/log/RecordMarks$Span" "baseOffset" "J" (.long w1)) (pre1 : Fld Z h0 a0 "tidemark/log/RecordMarks$Span" "lastOffsetDelta" "I" (.int w2)) :
    MetFree l (⟨"tidemark/log/RecordMarks$Span", "nextOffset", "()J"⟩ : MethodName) (head1 (Jvm.Cond.code (⟨"tidemark/log/RecordMarks$Span", "nextOffset", "()J"⟩ : MethodName) prog_116_method_5_code 1 (some .long) :: ws) ({ frames := 0, cells := 0, slots := 0, locals := 0 } : Room)) (fun a U => a = #[(.ref a0)] ∧ Z.Warmed39 U.vm ∧ U.heap = h0) (fun _ _ _ _ _ => True) (fun _ U o U' => ∃ v L, o = .returned v ∧ own_Q13 Z a0 w1 w2 h0 n0 v U'.heap L ∧ FrameEnd U o U' L ({ frames := 0, cells := 0, slots := 0, locals := 0 } : Room).cells ({ frames := 0, cells := 0, slots := 0, locals := 0 } : Room).slots) := by
  refine MetFree.of_bodySF (plainFor_of_name own_pn230) hisR ?_
  intro p e s m args below meth c s₁ Bd hml0 hP hK
  obtain ⟨rfl, hZ, hh⟩ := hP
  have hx := Bd.exec
  have hby := Bd.bytes
  have hlk : meth.locks = false := Bd.notSynchronized
  have hml : c.maxLocals = 1 := hml0
  have hown : s.vm.findClass "tidemark/log/RecordMarks$Span" = some m.cls := findClass_of_methodNamed Bd.named
  have hnm := (name_of_methodNamed Bd.named Bd.method).1
  have X0 : Stand p l e ({ frames := 0, cells := 0, slots := 0, locals := 0 } : Room) s m #[(.ref a0)] below meth c s₁ [] 0 0 := Stand.of_body Bd
  have e0 : s₁.heap = h0 := by rw [← hh, Bd.state]; rfl
  have N0 := Fr.nil n0
  show OG p e below (FE s ({ frames := 0, cells := 0, slots := 0, locals := 0 } : Room).cells ({ frames := 0, cells := 0, slots := 0, locals := 0 } : Room).slots) (own_Q13 Z a0 w1 w2 h0 n0) (s₁.setTop (entryFrame m #[(.ref a0)] 1))
  refine og_of (fun _ k => castTop (own_ef13 m a0) k) ?_
  refine o_aloadN X0 hx rfl (hb hby own_d13_0) rfl rfl ?_
  obtain ⟨T1, X1, e1, st1⟩ := getF X0 hx hZ hown (host := "") (Or.inl (hw _ (List.mem_of_getElem? (i := 91) rfl))) Via.refl e0 pre0 (g := (mkF m 1 #[.val (.ref a0)] [(.ref a0)])) rfl rfl (hb hby own_d13_1)
  refine og_of st1 ?_
  show OG p e below _ _ (T1.setTop (mkF m 4 #[.val (.ref a0)] [(.long w1)]))
  refine o_aloadN X1 hx rfl (hb hby own_d13_4) rfl rfl ?_
  obtain ⟨T2, X2, e2, st2⟩ := getF X1 hx hZ hown (host := "") (Or.inl (hw _ (List.mem_of_getElem? (i := 96) rfl))) Via.refl e1 pre1 (g := (mkF m 5 #[.val (.ref a0)] [(.ref a0), (.long w1)])) rfl rfl (hb hby own_d13_5)
  refine og_of st2 ?_
  show OG p e below _ _ (T2.setTop (mkF m 8 #[.val (.ref a0)] [(.int w2), (.long w1)]))
  refine o_i2l (z := (w2.toInt64)) X2 hx rfl (hb hby own_d13_8) rfl ?_
  refine o_ladd (z := (w1 + (w2.toInt64))) X2 hx rfl (hb hby own_d13_9) rfl ?_
  refine o_lconst (z := (1 : Int64)) X2 hx rfl (hb hby own_d13_10) (by decide) ?_
  refine o_ladd (z := ((w1 + (w2.toInt64)) + (1 : Int64))) X2 hx rfl (hb hby own_d13_11) rfl ?_
  exact o_retL X2 hx Bd.returns (own_lv X2 hlk (by decide) (by decide)) (hb hby own_d13_12) ⟨rfl, N0, e2⟩
theorem own_d14_0 : decode prog_116_method_4_code 0 = .ok (.aload_n 0, 1) := by decide +kernel
theorem own_d14_1 : decode prog_116_method_4_code 1 = .ok (.getfield 17, 3) := by decide +kernel
theorem own_d14_4 : decode prog_116_method_4_code 4 = .ok (.lreturn, 1) := by decide +kernel
theorem own_ef14 (m : MethodId) (a0 : Addr) : entryFrame m #[(.ref a0)] 1 = mkF m 0 #[.val (.ref a0)] [] := by first | (simp [entryFrame, mkF, argsToLocals, Value.category]; done) | rfl
def own_Q14 (Z : State) (a0 : Addr) (w0 : Int64) (h0 : Heap) (n0 : Nat) (v : Option Value) (h : Heap) (L : List Loc) : Prop := v = some (.long w0) ∧ Fr n0 L ∧ h = h0
set_option maxRecDepth 65536 in
set_option maxHeartbeats 40000000 in
theorem own_rm14 (l : Launch) (Z : State) (aA : Array Value) (hw : ∀ d ∈ tables_1, d.before aA Z = true) (ws : List Jvm.Cond) (a0 : Addr) (w0 : Int64) (h0 : Heap) (n0 : Nat) (Z0 : n0 ≤ h0.size) (pre0 : Fld Z h0 a0 "tidemark/log/RecordMarks$Span" "baseOffset" "J" (.long w0)) :
    MetFree l (⟨"tidemark/log/RecordMarks$Span", "baseOffset", "()J"⟩ : MethodName) (head1 (Jvm.Cond.code (⟨"tidemark/log/RecordMarks$Span", "baseOffset", "()J"⟩ : MethodName) prog_116_method_4_code 1 (some .long) :: ws) ({ frames := 0, cells := 0, slots := 0, locals := 0 } : Room)) (fun a U => a = #[(.ref a0)] ∧ Z.Warmed39 U.vm ∧ U.heap = h0) (fun _ _ _ _ _ => True) (fun _ U o U' => ∃ v L, o = .returned v ∧ own_Q14 Z a0 w0 h0 n0 v U'.heap L ∧ FrameEnd U o U' L ({ frames := 0, cells := 0, slots := 0, locals := 0 } : Room).cells ({ frames := 0, cells := 0, slots := 0, locals := 0 } : Room).slots) := by
  refine MetFree.of_bodySF (plainFor_of_name own_pn230) hisR ?_
  intro p e s m args below meth c s₁ Bd hml0 hP hK
  obtain ⟨rfl, hZ, hh⟩ := hP
  have hx := Bd.exec
  have hby := Bd.bytes
  have hlk : meth.locks = false := Bd.notSynchronized
  have hml : c.maxLocals = 1 := hml0
  have hown : s.vm.findClass "tidemark/log/RecordMarks$Span" = some m.cls := findClass_of_methodNamed Bd.named
  have hnm := (name_of_methodNamed Bd.named Bd.method).1
  have X0 : Stand p l e ({ frames := 0, cells := 0, slots := 0, locals := 0 } : Room) s m #[(.ref a0)] below meth c s₁ [] 0 0 := Stand.of_body Bd
  have e0 : s₁.heap = h0 := by rw [← hh, Bd.state]; rfl
  have N0 := Fr.nil n0
  show OG p e below (FE s ({ frames := 0, cells := 0, slots := 0, locals := 0 } : Room).cells ({ frames := 0, cells := 0, slots := 0, locals := 0 } : Room).slots) (own_Q14 Z a0 w0 h0 n0) (s₁.setTop (entryFrame m #[(.ref a0)] 1))
  refine og_of (fun _ k => castTop (own_ef14 m a0) k) ?_
  refine o_aloadN X0 hx rfl (hb hby own_d14_0) rfl rfl ?_
  obtain ⟨T1, X1, e1, st1⟩ := getF X0 hx hZ hown (host := "") (Or.inl (hw _ (List.mem_of_getElem? (i := 91) rfl))) Via.refl e0 pre0 (g := (mkF m 1 #[.val (.ref a0)] [(.ref a0)])) rfl rfl (hb hby own_d14_1)
  refine og_of st1 ?_
  show OG p e below _ _ (T1.setTop (mkF m 4 #[.val (.ref a0)] [(.long w0)]))
  exact o_retL X1 hx Bd.returns (own_lv X1 hlk (by decide) (by decide)) (hb hby own_d14_4) ⟨rfl, N0, e1⟩
theorem own_cnt (m : Int32) : 0 ≤ (m &&& (3 : Int32)).toInt ∧ (m &&& (3 : Int32)).toInt ≤ 3 := by
  rw [c_mask m 3 2 (by decide) (by decide)]; omega
theorem own_fit (d : Int64) : (d = d.toInt32.toInt64) ↔ (¬ d < (-2147483648 : Int64) ∧ ¬ (2147483647 : Int64) < d) := by
  have o1 : (-2147483648 : Int64).toInt = -2147483648 := rfl
  have o2 : (2147483647 : Int64).toInt = 2147483647 := rfl
  have c := c_l2i d
  have e := c_i2l d.toInt32
  have r := rng32 d.toInt32
  rw [← Int64.toInt_inj, Int64.lt_iff_toInt_lt, Int64.lt_iff_toInt_lt, e, o1, o2]
  omega
theorem own_bb (c d : Prop) [Decidable c] [Decidable d] : (if (if c then (0 : Int32) else (if d then (0 : Int32) else (1 : Int32))) = (0 : Int32) then (0 : Int32) else (1 : Int32)) = (if c then (0 : Int32) else (if d then (0 : Int32) else (1 : Int32))) := by
  by_cases h : c
  · rw [if_pos h]; rfl
  · rw [if_neg h]
    by_cases k : d
    · rw [if_pos k]; rfl
    · rw [if_neg k]; rfl
theorem own_tk0 (a : Addr) (q w : Int64) : own_f6 a q w (0 : Int32) = 1 := by unfold own_f6; rfl
theorem own_tkN (a : Addr) (q w : Int64) (k : Int32) (hk : ¬ k = (0 : Int32)) : own_f6 a q w k = (if ((q - (1 : Int64)) - w) < (-2147483648 : Int64) then (0 : Int32) else (if (2147483647 : Int64) < ((q - (1 : Int64)) - w) then (0 : Int32) else (1 : Int32))) := by
  have h := own_fit ((q - (1 : Int64)) - w)
  unfold own_f6
  rw [if_neg hk]
  by_cases c1 : ((q - (1 : Int64)) - w) < (-2147483648 : Int64)
  · rw [if_pos c1, if_neg (fun e => (h.mp e).1 c1)]
  · rw [if_neg c1]
    by_cases c2 : (2147483647 : Int64) < ((q - (1 : Int64)) - w)
    · rw [if_pos c2, if_neg (fun e => (h.mp e).2 c2)]
    · rw [if_neg c2, if_pos (h.mpr ⟨c1, c2⟩)]
theorem own_tkX (a : Addr) (q w : Int64) (k : Int32) (hk : ¬ k = (0 : Int32)) (h : ¬ own_f6 a q w k = (0 : Int32)) : (((q - (1 : Int64)) - w).toInt32).toInt64 = ((q - (1 : Int64)) - w) := by
  by_cases e : ((q - (1 : Int64)) - w) = ((q - (1 : Int64)) - w).toInt32.toInt64
  · exact e.symm
  · exfalso; apply h; unfold own_f6; rw [if_neg hk, if_neg e]
theorem own_nx (q w : Int64) (h : (((q - (1 : Int64)) - w).toInt32).toInt64 = ((q - (1 : Int64)) - w)) : ((w + ((((q - (1 : Int64)) - w).toInt32).toInt64)) + (1 : Int64)) = q := by
  rw [h]
  apply Int64.toInt_inj.mp
  have a1 := c_lsub q 1
  have a2 := c_lsub (q - 1) w
  have a3 := c_ladd w ((q - 1) - w)
  have a4 := c_ladd (w + ((q - 1) - w)) 1
  have r := rng64 ((w + ((q - 1) - w)) + 1)
  have rq := rng64 q
  have o : (1 : Int64).toInt = 1 := rfl
  omega
theorem own_pd9 : parseMethodDescriptor "(J)V" = some ⟨[.long], none⟩ := by decide +kernel
theorem own_pd10 : parseMethodDescriptor "(J)Z" = some ⟨[.long], some .boolean⟩ := by decide +kernel
theorem own_pd11 : parseMethodDescriptor "(IJJJ)V" = some ⟨[.int, .long, .long, .long], none⟩ := by decide +kernel
theorem own_pd12 : parseMethodDescriptor "()Ltidemark/log/RecordMarks$Span;" = some ⟨[], some (.object "tidemark/log/RecordMarks$Span")⟩ := by decide +kernel
theorem own_pd13 : parseMethodDescriptor "()J" = some ⟨[], some .long⟩ := by decide +kernel
theorem own_ef0 (m : MethodId) (q0 : Int64) (q1 : Int64) (q2 : Int64) (p3 : Int32) (p4 : Int32) (q5 : Int64) : entryFrame m #[(.long q0), (.long q1), (.long q2), (.int p3), (.int p4), (.long q5)] maxLocals = mkF m 0 #[.val (.long q0), .second, .val (.long q1), .second, .val (.long q2), .second, .val (.int p3), .val (.int p4), .val (.long q5), .second, .unset, .unset, .unset, .unset, .unset, .unset, .unset, .unset, .unset, .unset, .unset, .unset, .unset, .unset, .unset, .unset, .unset, .unset] [] := by first | (simp [entryFrame, mkF, argsToLocals, Value.category, maxLocals]; done) | rfl
def own_Q0 (Z : State) (q0 : Int64) (q1 : Int64) (q2 : Int64) (p3 : Int32) (p4 : Int32) (q5 : Int64) (arr : Addr) (h0 : Heap) (n0 : Nat) (v : Option Value) (h : Heap) (L : List Loc) : Prop := v = some (.int (1 : Int32)) ∧ Fr n0 L
theorem own_pn274 : plainName "tidemark/log/RunMarkingTakesPinLaw" = true := by first | (simp [plainName, overriddenIn]; done) | decide +kernel
set_option maxRecDepth 65536 in
set_option maxHeartbeats 40000000 in
theorem own_rm0 (l : Launch) (Z : State) (aA : Array Value) (hw : ∀ d ∈ tables_1, d.before aA Z = true) (ws : List Jvm.Cond) (q0 : Int64) (q1 : Int64) (q2 : Int64) (p3 : Int32) (p4 : Int32) (q5 : Int64) (arr : Addr) (h0 : Heap) (n0 : Nat) (Z0 : n0 ≤ h0.size) (pre0 : Sta Z h0 "tidemark/log/RecordMarks" "NO_LATER_MARKS" "[I" (.ref arr)) :
    MetFree l x (head1 (Jvm.Cond.code x code maxLocals ret :: ws) room_1) (fun a U => a = #[(.long q0), (.long q1), (.long q2), (.int p3), (.int p4), (.long q5)] ∧ Z.Warmed39 U.vm ∧ U.heap = h0) (fun _ _ _ _ _ => True) (fun _ U o U' => ∃ v L, o = .returned v ∧ own_Q0 Z q0 q1 q2 p3 p4 q5 arr h0 n0 v U'.heap L ∧ FrameEnd U o U' L room_1.cells room_1.slots) := by
  refine MetFree.of_bodySF (plainFor_of_name own_pn274) hisR ?_
  intro p e s m args below meth c s₁ Bd hml0 hP hK
  obtain ⟨rfl, hZ, hh⟩ := hP
  have hx := Bd.exec
  have hby := Bd.bytes
  have hlk : meth.locks = false := Bd.notSynchronized
  have hml : c.maxLocals = 28 := hml0
  have hown : s.vm.findClass "tidemark/log/RunMarkingTakesPinLaw" = some m.cls := findClass_of_methodNamed Bd.named
  have hnm := (name_of_methodNamed Bd.named Bd.method).1
  have X0 : Stand p l e room_1 s m #[(.long q0), (.long q1), (.long q2), (.int p3), (.int p4), (.long q5)] below meth c s₁ [] 0 0 := Stand.of_body Bd
  have e0 : s₁.heap = h0 := by rw [← hh, Bd.state]; rfl
  have N0 := Fr.nil n0
  show OG p e below (FE s room_1.cells room_1.slots) (own_Q0 Z q0 q1 q2 p3 p4 q5 arr h0 n0) (s₁.setTop (entryFrame m #[(.long q0), (.long q1), (.long q2), (.int p3), (.int p4), (.long q5)] maxLocals))
  refine og_of (fun _ k => castTop (own_ef0 m q0 q1 q2 p3 p4 q5) k) ?_
  refine o_iload X0 hx rfl (hb hby at_0) rfl ?_
  refine o_iconst (z := (3 : Int32)) X0 hx rfl (hb hby at_2) (by decide) ?_
  obtain ⟨z1, hz1⟩ : ∃ z : Int32, p4 &&& (3 : Int32) = z := ⟨_, rfl⟩
  refine o_iand (z := z1) X0 hx rfl (hb hby at_3) hz1 ?_
  refine o_istore X0 hx rfl (hb hby at_4) (L' := #[.val (.long q0), .second, .val (.long q1), .second, .val (.long q2), .second, .val (.int p3), .val (.int p4), .val (.long q5), .second, .val (.int z1), .unset, .unset, .unset, .unset, .unset, .unset, .unset, .unset, .unset, .unset, .unset, .unset, .unset, .unset, .unset, .unset, .unset]) rfl ?_
  refine o_iload X0 hx rfl (hb hby at_6) rfl ?_
  refine o_iconst (z := (2 : Int32)) X0 hx rfl (hb hby at_8) (by decide) ?_
  obtain ⟨z2, hz2⟩ : ∃ z : Int32, (p4.toUInt32 >>> ((2 : Int32) &&& 31).toUInt32).toInt32 = z := ⟨_, rfl⟩
  refine o_iushr (z := z2) X0 hx rfl (hb hby at_9) hz2 ?_
  refine o_iconst (z := (3 : Int32)) X0 hx rfl (hb hby at_10) (by decide) ?_
  obtain ⟨z3, hz3⟩ : ∃ z : Int32, z2 &&& (3 : Int32) = z := ⟨_, rfl⟩
  refine o_iand (z := z3) X0 hx rfl (hb hby at_11) hz3 ?_
  refine o_istore X0 hx rfl (hb hby at_12) (L' := #[.val (.long q0), .second, .val (.long q1), .second, .val (.long q2), .second, .val (.int p3), .val (.int p4), .val (.long q5), .second, .val (.int z1), .val (.int z3), .unset, .unset, .unset, .unset, .unset, .unset, .unset, .unset, .unset, .unset, .unset, .unset, .unset, .unset, .unset, .unset]) rfl ?_
  refine o_iload X0 hx rfl (hb hby at_14) rfl ?_
  refine o_iconst (z := (4 : Int32)) X0 hx rfl (hb hby at_16) (by decide) ?_
  obtain ⟨z4, hz4⟩ : ∃ z : Int32, (p4.toUInt32 >>> ((4 : Int32) &&& 31).toUInt32).toInt32 = z := ⟨_, rfl⟩
  refine o_iushr (z := z4) X0 hx rfl (hb hby at_17) hz4 ?_
  refine o_sipush (z := (2047 : Int32)) X0 hx rfl (hb hby at_18) (by decide) ?_
  obtain ⟨z5, hz5⟩ : ∃ z : Int32, z4 &&& (2047 : Int32) = z := ⟨_, rfl⟩
  refine o_iand (z := z5) X0 hx rfl (hb hby at_21) hz5 ?_
  refine o_bipush (z := (61 : Int32)) X0 hx rfl (hb hby at_22) (by decide) ?_
  obtain ⟨z6, hz6⟩ : ∃ z : Int32, z5 + (61 : Int32) = z := ⟨_, rfl⟩
  refine o_iadd (z := z6) X0 hx rfl (hb hby at_24) hz6 ?_
  refine o_istore X0 hx rfl (hb hby at_25) (L' := #[.val (.long q0), .second, .val (.long q1), .second, .val (.long q2), .second, .val (.int p3), .val (.int p4), .val (.long q5), .second, .val (.int z1), .val (.int z3), .val (.int z6), .unset, .unset, .unset, .unset, .unset, .unset, .unset, .unset, .unset, .unset, .unset, .unset, .unset, .unset, .unset]) rfl ?_
  refine o_lloadN X0 hx rfl (hb hby at_27) rfl ?_
  refine o_iload X0 hx rfl (hb hby at_28) rfl ?_
  refine o_ldcI X0 hx rfl (hb hby at_30) hZ hown (hw _ (List.mem_of_getElem? (i := 0) rfl)) ?_
  obtain ⟨z7, hz7⟩ : ∃ z : Int32, p3 &&& (65535 : Int32) = z := ⟨_, rfl⟩
  refine o_iand (z := z7) X0 hx rfl (hb hby at_32) hz7 ?_
  obtain ⟨z8, hz8⟩ : ∃ z : Int64, z7.toInt64 = z := ⟨_, rfl⟩
  refine o_i2l (z := z8) X0 hx rfl (hb hby at_33) hz8 ?_
  obtain ⟨z9, hz9⟩ : ∃ z : Int64, q1 + z8 = z := ⟨_, rfl⟩
  refine o_ladd (z := z9) X0 hx rfl (hb hby at_34) hz9 ?_
  refine o_lconst (z := (1 : Int64)) X0 hx rfl (hb hby at_35) (by decide) ?_
  obtain ⟨z10, hz10⟩ : ∃ z : Int64, z9 + (1 : Int64) = z := ⟨_, rfl⟩
  refine o_ladd (z := z10) X0 hx rfl (hb hby at_36) hz10 ?_
  refine o_lstore X0 hx rfl (hb hby at_37) (L' := #[.val (.long q0), .second, .val (.long q1), .second, .val (.long q2), .second, .val (.int p3), .val (.int p4), .val (.long q5), .second, .val (.int z1), .val (.int z3), .val (.int z6), .val (.long z10), .second, .unset, .unset, .unset, .unset, .unset, .unset, .unset, .unset, .unset, .unset, .unset, .unset, .unset]) rfl ?_
  refine o_lload X0 hx rfl (hb hby at_39) rfl ?_
  refine o_iload X0 hx rfl (hb hby at_41) rfl ?_
  refine o_bipush (z := (16 : Int32)) X0 hx rfl (hb hby at_43) (by decide) ?_
  obtain ⟨z11, hz11⟩ : ∃ z : Int32, (p3.toUInt32 >>> ((16 : Int32) &&& 31).toUInt32).toInt32 = z := ⟨_, rfl⟩
  refine o_iushr (z := z11) X0 hx rfl (hb hby at_45) hz11 ?_
  refine o_ldcI X0 hx rfl (hb hby at_46) hZ hown (hw _ (List.mem_of_getElem? (i := 0) rfl)) ?_
  obtain ⟨z12, hz12⟩ : ∃ z : Int32, z11 &&& (65535 : Int32) = z := ⟨_, rfl⟩
  refine o_iand (z := z12) X0 hx rfl (hb hby at_48) hz12 ?_
  obtain ⟨z13, hz13⟩ : ∃ z : Int64, z12.toInt64 = z := ⟨_, rfl⟩
  refine o_i2l (z := z13) X0 hx rfl (hb hby at_49) hz13 ?_
  obtain ⟨z14, hz14⟩ : ∃ z : Int64, z10 + z13 = z := ⟨_, rfl⟩
  refine o_ladd (z := z14) X0 hx rfl (hb hby at_50) hz14 ?_
  refine o_lconst (z := (1 : Int64)) X0 hx rfl (hb hby at_51) (by decide) ?_
  obtain ⟨z15, hz15⟩ : ∃ z : Int64, z14 + (1 : Int64) = z := ⟨_, rfl⟩
  refine o_ladd (z := z15) X0 hx rfl (hb hby at_52) hz15 ?_
  refine o_lstore X0 hx rfl (hb hby at_53) (L' := #[.val (.long q0), .second, .val (.long q1), .second, .val (.long q2), .second, .val (.int p3), .val (.int p4), .val (.long q5), .second, .val (.int z1), .val (.int z3), .val (.int z6), .val (.long z10), .second, .val (.long z15), .second, .unset, .unset, .unset, .unset, .unset, .unset, .unset, .unset, .unset, .unset, .unset]) rfl ?_
  refine o_iload X0 hx rfl (hb hby at_55) rfl ?_
  obtain ⟨ph19, hph19⟩ : ∃ z : Int64, (if z3 = (0 : Int32) then q2 else (if z3 = (1 : Int32) then ((q1 + (1 : Int64)) + ((q2.toInt32).toInt64)) else (if z3 = (2 : Int32) then ((((q1 + (1 : Int64)) + (2147483647 : Int64)) + (q2 &&& (7 : Int64))) - (3 : Int64)) else ((((q1 + (1 : Int64)) + (-2147483648 : Int64)) + (q2 &&& (7 : Int64))) - (4 : Int64))))) = z := ⟨_, rfl⟩
  have J20 : OG p e below (FE s room_1.cells room_1.slots) (own_Q0 Z q0 q1 q2 p3 p4 q5 arr h0 n0) (s₁.setTop (mkF m 135 #[.val (.long q0), .second, .val (.long q1), .second, .val (.long q2), .second, .val (.int p3), .val (.int p4), .val (.long q5), .second, .val (.int z1), .val (.int z3), .val (.int z6), .val (.long z10), .second, .val (.long z15), .second, .val (.long ph19), .second, .unset, .unset, .unset, .unset, .unset, .unset, .unset, .unset, .unset] [])) := by
    obtain ⟨T21, h21, X21, e21, E21, A21, D21, -, st21⟩ := newO X0 hx hZ hown (hw _ (List.mem_of_getElem? (i := 1) rfl)) (hw _ (List.mem_of_getElem? (i := 2) rfl)) (hw _ (List.mem_of_getElem? (i := 3) rfl)) e0 (g := (mkF m 135 #[.val (.long q0), .second, .val (.long q1), .second, .val (.long q2), .second, .val (.int p3), .val (.int p4), .val (.long q5), .second, .val (.int z1), .val (.int z3), .val (.int z6), .val (.long z10), .second, .val (.long z15), .second, .val (.long ph19), .second, .unset, .unset, .unset, .unset, .unset, .unset, .unset, .unset, .unset] [])) rfl (hb hby at_135) (by decide) (by decide)
    obtain ⟨b21, g21⟩ : ∃ z, z = h0.size := ⟨_, rfl⟩
    rw [← g21] at A21 D21 st21
    have gn21 : n0 ≤ b21 := Nat.le_trans Z0 (Nat.le_of_eq g21.symm)
    have sz21 : h0.size ≤ b21 := Nat.le_trans (Keep.refl h0 []).1 (Nat.le_of_eq g21.symm)
    have Kp22 : Keep h0 h21 [] := (Keep.refl h0 []).ext E21
    have F21_21 : Fld Z h21 b21 "tidemark/log/RecordMarks$RunMarking" "later" "Ltidemark/log/RecordMarks$LaterMarks;" .null := D21 (Or.inr (hw _ (List.mem_of_getElem? (i := 21) rfl))) (ty := (.object "tidemark/log/RecordMarks$LaterMarks")) (by decide)
    have F21_24 : Fld Z h21 b21 "tidemark/log/RecordMarks$RunMarking" "largest" "J" (.long (0 : Int64)) := D21 (Or.inl (hw _ (List.mem_of_getElem? (i := 24) rfl))) (ty := .long) (by decide)
    have F21_26 : Fld Z h21 b21 "tidemark/log/RecordMarks$RunMarking" "position" "J" (.long (0 : Int64)) := D21 (Or.inr (hw _ (List.mem_of_getElem? (i := 26) rfl))) (ty := .long) (by decide)
    have F21_28 : Fld Z h21 b21 "tidemark/log/RecordMarks$RunMarking" "end" "J" (.long (0 : Int64)) := D21 (Or.inl (hw _ (List.mem_of_getElem? (i := 28) rfl))) (ty := .long) (by decide)
    have F21_35 : Fld Z h21 b21 "tidemark/log/RecordMarks$RunMarking" "batches" "I" (.int (0 : Int32)) := D21 (Or.inl (hw _ (List.mem_of_getElem? (i := 35) rfl))) (ty := .int) (by decide)
    have F21_37 : Fld Z h21 b21 "tidemark/log/RecordMarks$RunMarking" "baseOffset" "J" (.long (0 : Int64)) := D21 (Or.inl (hw _ (List.mem_of_getElem? (i := 37) rfl))) (ty := .long) (by decide)
    have F21_39 : Fld Z h21 b21 "tidemark/log/RecordMarks$RunMarking" "nextOffset" "J" (.long (0 : Int64)) := D21 (Or.inl (hw _ (List.mem_of_getElem? (i := 39) rfl))) (ty := .long) (by decide)
    have F21_45 : Fld Z h21 b21 "tidemark/log/RecordMarks$RunMarking" "lastStart" "I" (.int (0 : Int32)) := D21 (Or.inl (hw _ (List.mem_of_getElem? (i := 45) rfl))) (ty := .int) (by decide)
    refine og_of st21 ?_
    show OG p e below _ _ (T21.setTop (mkF m 138 #[.val (.long q0), .second, .val (.long q1), .second, .val (.long q2), .second, .val (.int p3), .val (.int p4), .val (.long q5), .second, .val (.int z1), .val (.int z3), .val (.int z6), .val (.long z10), .second, .val (.long z15), .second, .val (.long ph19), .second, .unset, .unset, .unset, .unset, .unset, .unset, .unset, .unset, .unset] [(.ref b21)]))
    refine o_dup X21 hx rfl (hb hby at_138) rfl ?_
    refine o_lloadN X21 hx rfl (hb hby at_139) rfl ?_
    obtain ⟨_, _, ⟨T23, L23, k23, n23⟩, -, X23, ⟨Lc23, hQ23, l23, y23, z23⟩, st23⟩ := X21.specialBack hx (y := (⟨"tidemark/log/RecordMarks$RunMarking", "<init>", "(J)V"⟩ : MethodName)) rfl hown (mvT hZ (hw _ (List.mem_of_getElem? (i := 4) rfl))) (mvT hZ (hw _ (List.mem_of_getElem? (i := 5) rfl))) (mvT hZ (hw _ (List.mem_of_getElem? (i := 6) rfl))) (by decide) (backOf (W := 1) (own_rm1 l Z aA hw [] b21 q0 h21 n0 (Nat.le_trans Z0 E21.1) A21 gn21 F21_21 F21_24 F21_26 F21_28 F21_35 F21_37 F21_39 F21_45) hZ (hw _ (List.mem_of_getElem? (i := 6) rfl)) (hw _ (List.mem_of_getElem? (i := 3) rfl)) (by decide) (by decide)) (g := (mkF m 140 #[.val (.long q0), .second, .val (.long q1), .second, .val (.long q2), .second, .val (.int p3), .val (.int p4), .val (.long q5), .second, .val (.int z1), .val (.int z3), .val (.int z6), .val (.long z10), .second, .val (.long z15), .second, .val (.long ph19), .second, .unset, .unset, .unset, .unset, .unset, .unset, .unset, .unset, .unset] [(.long q0), (.ref b21), (.ref b21)])) rfl (by rw [hml]; rfl) (Steps.refl _) (a := b21) (argsL := [(.long q0)]) (rest := [(.ref b21)]) (lenOf own_pd9 rfl) rfl (by show 2 * 0 + _ ≤ _; exact Nat.le_of_eq rfl) (hb hby at_140) (fun _ _ => ⟨rfl, e21, Nat.le_of_ble_eq_true rfl, Nat.le_of_ble_eq_true rfl⟩)
    dsimp only [Pt.U, Pt.locs, Pt.cells, Pt.slots] at X23 l23 y23 z23 st23 hQ23
    subst l23 y23 z23
    obtain ⟨b23_0, b23_1, k_b23_1, rfl, N23q, K23, sq23_0, sq23_1, nn23_0_1, f23_0, f23_1, f23_2, f23_3, f23_4, f23_5, f23_6, f23_7, f23_8, f23_9, f23_10, f23_11⟩ := hQ23
    have ne24 : b21 ≠ b23_0 := Nat.ne_of_lt (Nat.lt_of_lt_of_le A21.lt sq23_0)
    have ne25 : b21 ≠ b23_1 := Nat.ne_of_lt (Nat.lt_of_lt_of_le A21.lt sq23_1)
    have gnb23_0 : n0 ≤ b23_0 := Nat.le_trans (Nat.le_trans Z0 E21.1) sq23_0
    have szb23_0 : h0.size ≤ b23_0 := Nat.le_trans Kp22.1 sq23_0
    have gnb23_1 : n0 ≤ b23_1 := Nat.le_trans (Nat.le_trans Z0 E21.1) sq23_1
    have szb23_1 : h0.size ≤ b23_1 := Nat.le_trans Kp22.1 sq23_1
    have N26 := Fr.app N0 N23q
    have Kp27 : Keep h0 T23.heap [] := Kp22.trans K23 (allS (Or.inr sz21) all0)
    refine og_tr st23 ?_
    show OG p e below _ _ (T23.setTop (mkF m 143 #[.val (.long q0), .second, .val (.long q1), .second, .val (.long q2), .second, .val (.int p3), .val (.int p4), .val (.long q5), .second, .val (.int z1), .val (.int z3), .val (.int z6), .val (.long z10), .second, .val (.long z15), .second, .val (.long ph19), .second, .unset, .unset, .unset, .unset, .unset, .unset, .unset, .unset, .unset] [(.ref b21)]))
    refine o_astore X23 hx rfl (hb hby at_143) rfl (L' := #[.val (.long q0), .second, .val (.long q1), .second, .val (.long q2), .second, .val (.int p3), .val (.int p4), .val (.long q5), .second, .val (.int z1), .val (.int z3), .val (.int z6), .val (.long z10), .second, .val (.long z15), .second, .val (.long ph19), .second, .val (.ref b21), .unset, .unset, .unset, .unset, .unset, .unset, .unset, .unset]) rfl ?_
    refine o_lloadN X23 hx rfl (hb hby at_145) rfl ?_
    refine o_lstore X23 hx rfl (hb hby at_146) (L' := #[.val (.long q0), .second, .val (.long q1), .second, .val (.long q2), .second, .val (.int p3), .val (.int p4), .val (.long q5), .second, .val (.int z1), .val (.int z3), .val (.int z6), .val (.long z10), .second, .val (.long z15), .second, .val (.long ph19), .second, .val (.ref b21), .val (.long q1), .second, .unset, .unset, .unset, .unset, .unset, .unset]) rfl ?_
    refine o_iload X23 hx rfl (hb hby at_148) rfl ?_
    refine o_iconst (z := (1 : Int32)) X23 hx rfl (hb hby at_150) (by decide) ?_
    by_cases hc28 : z1 < (1 : Int32)
    · skip
      refine o_icmpY (pc' := 170) X23 hx (hb hby at_151) (tlt hc28).1 (by decide) (by decide) ?_
      refine o_iload X23 hx rfl (hb hby at_170) rfl ?_
      refine o_iconst (z := (2 : Int32)) X23 hx rfl (hb hby at_172) (by decide) ?_
      have hk29 : z1 < (2 : Int32) := by
        have q := own_cnt p4; rw [hz1] at q; have hh := hc28; rw [Int32.lt_iff_toInt_lt] at hh ⊢; have o1 : (1 : Int32).toInt = 1 := rfl; have o2 : (2 : Int32).toInt = 2 := rfl; omega
      refine o_icmpY (pc' := 193) X23 hx (hb hby at_173) (tlt hk29).1 (by decide) (by decide) ?_
      refine o_aload X23 hx rfl (hb hby at_193) rfl rfl ?_
      refine o_lload X23 hx rfl (hb hby at_195) rfl ?_
      have Fc31 : Exa Z T23.heap b21 "tidemark/log/RecordMarks$RunMarking" := (A21.keep K23)
      obtain ⟨cq30, kq30, q30a, q30b, q30c⟩ := isOf hZ rfl Fc31
      obtain ⟨_, _, ⟨T30, L30, k30, n30⟩, -, X30, ⟨Lc30, hQ30, l30, y30, z30⟩, st30⟩ := X23.virtualBack hx (y := (⟨"tidemark/log/RecordMarks$RunMarking", "takes", "(J)Z"⟩ : MethodName)) (z := (⟨"tidemark/log/RecordMarks$RunMarking", "takes", "(J)Z"⟩ : MethodName)) hown (mvT hZ (hw _ (List.mem_of_getElem? (i := 47) rfl))) (mvT hZ (hw _ (List.mem_of_getElem? (i := 48) rfl))) (notFace_of_selects (args := #[]) (mvT hZ (hw _ (List.mem_of_getElem? (i := 50) rfl)))) (mvT hZ (hw _ (List.mem_of_getElem? (i := 50) rfl))) (mvT hZ (hw _ (List.mem_of_getElem? (i := 49) rfl))) (by decide) (backOf (W := 0) (own_rm6 l Z aA hw [] b21 ph19 (0 : Int64) (0 : Int32) T23.heap n0 (Nat.le_trans (Nat.le_trans Z0 E21.1) K23.1) f23_5 f23_4) hZ (hw _ (List.mem_of_getElem? (i := 51) rfl)) (hw _ (List.mem_of_getElem? (i := 3) rfl)) (by decide) (by decide)) q30a q30c (g := (mkF m 197 #[.val (.long q0), .second, .val (.long q1), .second, .val (.long q2), .second, .val (.int p3), .val (.int p4), .val (.long q5), .second, .val (.int z1), .val (.int z3), .val (.int z6), .val (.long z10), .second, .val (.long z15), .second, .val (.long ph19), .second, .val (.ref b21), .val (.long q1), .second, .unset, .unset, .unset, .unset, .unset, .unset] [(.long ph19), (.ref b21)])) rfl (by rw [hml]; rfl) (Steps.refl _) (argsL := [(.long ph19)]) (rest := []) (lenOf own_pd10 rfl) rfl (by show 2 * 0 + _ ≤ _; exact Nat.le_of_eq rfl) (hb hby at_197) (fun _ _ => ⟨rfl, rfl, Nat.le_of_ble_eq_true rfl, Nat.le_of_ble_eq_true rfl⟩)
      dsimp only [Pt.U, Pt.locs, Pt.cells, Pt.slots] at X30 l30 y30 z30 st30 hQ30
      subst l30 y30 z30
      obtain ⟨rfl, N30q, ee30⟩ := hQ30
      have N32 := Fr.app N26 N30q
      refine og_tr st30 ?_
      show OG p e below _ _ (T30.setTop (mkF m 200 #[.val (.long q0), .second, .val (.long q1), .second, .val (.long q2), .second, .val (.int p3), .val (.int p4), .val (.long q5), .second, .val (.int z1), .val (.int z3), .val (.int z6), .val (.long z10), .second, .val (.long z15), .second, .val (.long ph19), .second, .val (.ref b21), .val (.long q1), .second, .unset, .unset, .unset, .unset, .unset, .unset] [(.int (own_f6 b21 ph19 (0 : Int64) (0 : Int32)))]))
      refine o_istore X30 hx rfl (hb hby at_200) (L' := #[.val (.long q0), .second, .val (.long q1), .second, .val (.long q2), .second, .val (.int p3), .val (.int p4), .val (.long q5), .second, .val (.int z1), .val (.int z3), .val (.int z6), .val (.long z10), .second, .val (.long z15), .second, .val (.long ph19), .second, .val (.ref b21), .val (.long q1), .second, .val (.int (own_f6 b21 ph19 (0 : Int64) (0 : Int32))), .unset, .unset, .unset, .unset, .unset]) rfl ?_
      refine o_lload X30 hx rfl (hb hby at_202) rfl ?_
      refine o_lconst (z := (1 : Int64)) X30 hx rfl (hb hby at_204) (by decide) ?_
      obtain ⟨z33, hz33⟩ : ∃ z : Int64, ph19 - (1 : Int64) = z := ⟨_, rfl⟩
      refine o_lsub (z := z33) X30 hx rfl (hb hby at_205) hz33 ?_
      refine o_lloadN X30 hx rfl (hb hby at_206) rfl ?_
      obtain ⟨z34, hz34⟩ : ∃ z : Int64, z33 - q1 = z := ⟨_, rfl⟩
      refine o_lsub (z := z34) X30 hx rfl (hb hby at_207) hz34 ?_
      refine o_lstore X30 hx rfl (hb hby at_208) (L' := #[.val (.long q0), .second, .val (.long q1), .second, .val (.long q2), .second, .val (.int p3), .val (.int p4), .val (.long q5), .second, .val (.int z1), .val (.int z3), .val (.int z6), .val (.long z10), .second, .val (.long z15), .second, .val (.long ph19), .second, .val (.ref b21), .val (.long q1), .second, .val (.int (own_f6 b21 ph19 (0 : Int64) (0 : Int32))), .val (.long z34), .second, .unset, .unset, .unset]) rfl ?_
      refine o_lload X30 hx rfl (hb hby at_210) rfl ?_
      refine o_ldc2L X30 hx rfl (hb hby at_212) hZ hown (hw _ (List.mem_of_getElem? (i := 52) rfl)) ?_
      refine o_lcmp X30 hx rfl (hb hby at_215) ?_
      obtain ⟨ph37, hph37⟩ : ∃ z : Int32, (if z34 < (-2147483648 : Int64) then (0 : Int32) else (if (2147483647 : Int64) < z34 then (0 : Int32) else (1 : Int32))) = z := ⟨_, rfl⟩
      have J38 : OG p e below (FE s room_1.cells room_1.slots) (own_Q0 Z q0 q1 q2 p3 p4 q5 arr h0 n0) (T30.setTop (mkF m 233 #[.val (.long q0), .second, .val (.long q1), .second, .val (.long q2), .second, .val (.int p3), .val (.int p4), .val (.long q5), .second, .val (.int z1), .val (.int z3), .val (.int z6), .val (.long z10), .second, .val (.long z15), .second, .val (.long ph19), .second, .val (.ref b21), .val (.long q1), .second, .val (.int (own_f6 b21 ph19 (0 : Int64) (0 : Int32))), .val (.long z34), .second, .unset, .unset, .unset] [(.int ph37)])) := by
        refine o_istore X30 hx rfl (hb hby at_233) (L' := #[.val (.long q0), .second, .val (.long q1), .second, .val (.long q2), .second, .val (.int p3), .val (.int p4), .val (.long q5), .second, .val (.int z1), .val (.int z3), .val (.int z6), .val (.long z10), .second, .val (.long z15), .second, .val (.long ph19), .second, .val (.ref b21), .val (.long q1), .second, .val (.int (own_f6 b21 ph19 (0 : Int64) (0 : Int32))), .val (.long z34), .second, .val (.int ph37), .unset, .unset]) rfl ?_
        refine o_iload X30 hx rfl (hb hby at_235) rfl ?_
        have hk39 : z1 = (0 : Int32) := by
          have q := own_cnt p4; rw [hz1] at q; have hh := hc28; rw [Int32.lt_iff_toInt_lt] at hh; have o1 : (1 : Int32).toInt = 1 := rfl; have o0 : (0 : Int32).toInt = 0 := rfl; exact Int32.toInt_inj.mp (by omega)
        refine o_ifY (pc' := 245) X30 hx (hb hby at_237) ((if0 _ _).trans (teq hk39).1) (by decide) (by decide) ?_
        refine o_iconst (z := (1 : Int32)) X30 hx rfl (hb hby at_245) (by decide) ?_
        refine o_goto (pc' := 250) X30 hx (hb hby at_246) (by decide) (by decide) ?_
        refine o_istore X30 hx rfl (hb hby at_250) (L' := #[.val (.long q0), .second, .val (.long q1), .second, .val (.long q2), .second, .val (.int p3), .val (.int p4), .val (.long q5), .second, .val (.int z1), .val (.int z3), .val (.int z6), .val (.long z10), .second, .val (.long z15), .second, .val (.long ph19), .second, .val (.ref b21), .val (.long q1), .second, .val (.int (own_f6 b21 ph19 (0 : Int64) (0 : Int32))), .val (.long z34), .second, .val (.int ph37), .val (.int (1 : Int32)), .unset]) rfl ?_
        refine o_iload X30 hx rfl (hb hby at_252) rfl ?_
        refine o_iload X30 hx rfl (hb hby at_254) rfl ?_
        have hk40 : (own_f6 b21 ph19 (0 : Int64) (0 : Int32)) = (1 : Int32) := own_tk0 _ _ _
        refine o_icmpY (pc' := 261) X30 hx (hb hby at_256) (teq hk40).1 (by decide) (by decide) ?_
        refine o_iload X30 hx rfl (hb hby at_261) rfl ?_
        have hk41 : z1 = (0 : Int32) := by
          have q := own_cnt p4; rw [hz1] at q; have hh := hc28; rw [Int32.lt_iff_toInt_lt] at hh; have o1 : (1 : Int32).toInt = 1 := rfl; have o0 : (0 : Int32).toInt = 0 := rfl; exact Int32.toInt_inj.mp (by omega)
        refine o_ifY (pc' := 271) X30 hx (hb hby at_263) ((if0 _ _).trans (teq hk41).1) (by decide) (by decide) ?_
        refine o_iconst (z := (1 : Int32)) X30 hx rfl (hb hby at_271) (by decide) ?_
        exact o_retB X30 hx Bd.returns (own_lv X30 hlk (by decide) (by decide)) (hb hby at_272) (by decide) ⟨rfl, N32⟩
      by_cases hc42 : z34 < (-2147483648 : Int64)
      · skip
        refine o_ifY (pc' := 232) X30 hx (hb hby at_216) (lcY_lt hc42).1 (by decide) (by decide) ?_
        refine o_iconst (z := (0 : Int32)) X30 hx rfl (hb hby at_232) (by decide) ?_
        have q43 : ph37 = (0 : Int32) := by
          rw [← hph37]
          simp only [if_pos hc42]
        rw [q43] at J38
        exact J38
      · skip
        refine o_ifN (pc' := 219) X30 hx rfl (hb hby at_216) (lcN_lt hc42).1 ?_
        refine o_lload X30 hx rfl (hb hby at_219) rfl ?_
        refine o_ldc2L X30 hx rfl (hb hby at_221) hZ hown (hw _ (List.mem_of_getElem? (i := 55) rfl)) ?_
        refine o_lcmp X30 hx rfl (hb hby at_224) ?_
        by_cases hc44 : (2147483647 : Int64) < z34
        · skip
          refine o_ifY (pc' := 232) X30 hx (hb hby at_225) (lcY_gt hc44).1 (by decide) (by decide) ?_
          refine o_iconst (z := (0 : Int32)) X30 hx rfl (hb hby at_232) (by decide) ?_
          have q45 : ph37 = (0 : Int32) := by
            rw [← hph37]
            simp only [if_neg hc42, if_pos hc44]
          rw [q45] at J38
          exact J38
        · skip
          refine o_ifN (pc' := 228) X30 hx rfl (hb hby at_225) (lcN_gt hc44).1 ?_
          refine o_iconst (z := (1 : Int32)) X30 hx rfl (hb hby at_228) (by decide) ?_
          refine o_goto (pc' := 233) X30 hx (hb hby at_229) (by decide) (by decide) ?_
          have q46 : ph37 = (1 : Int32) := by
            rw [← hph37]
            simp only [if_neg hc42, if_neg hc44]
          rw [q46] at J38
          exact J38
    · skip
      refine o_icmpN (pc' := 154) X23 hx rfl (hb hby at_151) (flt hc28).1 ?_
      refine o_aload X23 hx rfl (hb hby at_154) rfl rfl ?_
      refine o_iload X23 hx rfl (hb hby at_156) rfl ?_
      refine o_lloadN X23 hx rfl (hb hby at_158) rfl ?_
      refine o_lload X23 hx rfl (hb hby at_159) rfl ?_
      refine o_lload X23 hx rfl (hb hby at_161) rfl ?_
      have Fc48 : Exa Z T23.heap b21 "tidemark/log/RecordMarks$RunMarking" := (A21.keep K23)
      obtain ⟨cq47, kq47, q47a, q47b, q47c⟩ := isOf hZ rfl Fc48
      obtain ⟨_, _, ⟨T47, L47, k47, n47⟩, -, X47, ⟨Lc47, hQ47, l47, y47, z47⟩, st47⟩ := X23.virtualBack hx (y := (⟨"tidemark/log/RecordMarks$RunMarking", "add", "(IJJJ)V"⟩ : MethodName)) (z := (⟨"tidemark/log/RecordMarks$RunMarking", "add", "(IJJJ)V"⟩ : MethodName)) hown (mvT hZ (hw _ (List.mem_of_getElem? (i := 29) rfl))) (mvT hZ (hw _ (List.mem_of_getElem? (i := 30) rfl))) (notFace_of_selects (args := #[]) (mvT hZ (hw _ (List.mem_of_getElem? (i := 32) rfl)))) (mvT hZ (hw _ (List.mem_of_getElem? (i := 32) rfl))) (mvT hZ (hw _ (List.mem_of_getElem? (i := 31) rfl))) (by decide) (backOf (W := 0) (own_rmad0 l Z aA hw [] b21 z6 q1 z10 q5 b23_0 (-9223372036854775808 : Int64) q0 q0 (0 : Int64) (0 : Int64) (0 : Int32) T23.heap n0 (Nat.le_trans (Nat.le_trans Z0 E21.1) K23.1) Fc48 gn21 f23_0 f23_1 f23_2 f23_3 f23_4 f23_5 f23_6 f23_7) hZ (hw _ (List.mem_of_getElem? (i := 33) rfl)) (hw _ (List.mem_of_getElem? (i := 3) rfl)) (by decide) (by decide)) q47a q47c (g := (mkF m 163 #[.val (.long q0), .second, .val (.long q1), .second, .val (.long q2), .second, .val (.int p3), .val (.int p4), .val (.long q5), .second, .val (.int z1), .val (.int z3), .val (.int z6), .val (.long z10), .second, .val (.long z15), .second, .val (.long ph19), .second, .val (.ref b21), .val (.long q1), .second, .unset, .unset, .unset, .unset, .unset, .unset] [(.long q5), (.long z10), (.long q1), (.int z6), (.ref b21)])) rfl (by rw [hml]; rfl) (Steps.refl _) (argsL := [(.int z6), (.long q1), (.long z10), (.long q5)]) (rest := []) (lenOf own_pd11 rfl) rfl (by show 2 * 0 + _ ≤ _; exact Nat.le_of_eq rfl) (hb hby at_163) (fun _ _ => ⟨rfl, rfl, Nat.le_of_ble_eq_true rfl, Nat.le_of_ble_eq_true rfl⟩)
      dsimp only [Pt.U, Pt.locs, Pt.cells, Pt.slots] at X47 l47 y47 z47 st47 hQ47
      subst l47 y47 z47
      obtain ⟨rfl, N47q, K47, f47_0, f47_1, f47_2, f47_3, f47_4, f47_5, f47_6, f47_7⟩ := hQ47
      have N49 := Fr.app N26 N47q
      have Kp50 : Keep h0 T47.heap [] := Kp27.trans K47 (allS (Or.inr sz21) all0)
      refine og_tr st47 ?_
      show OG p e below _ _ (T47.setTop (mkF m 166 #[.val (.long q0), .second, .val (.long q1), .second, .val (.long q2), .second, .val (.int p3), .val (.int p4), .val (.long q5), .second, .val (.int z1), .val (.int z3), .val (.int z6), .val (.long z10), .second, .val (.long z15), .second, .val (.long ph19), .second, .val (.ref b21), .val (.long q1), .second, .unset, .unset, .unset, .unset, .unset, .unset] []))
      refine o_lload X47 hx rfl (hb hby at_166) rfl ?_
      refine o_lstore X47 hx rfl (hb hby at_168) (L' := #[.val (.long q0), .second, .val (.long q1), .second, .val (.long q2), .second, .val (.int p3), .val (.int p4), .val (.long q5), .second, .val (.int z1), .val (.int z3), .val (.int z6), .val (.long z10), .second, .val (.long z15), .second, .val (.long ph19), .second, .val (.ref b21), .val (.long z10), .second, .unset, .unset, .unset, .unset, .unset, .unset]) rfl ?_
      refine o_iload X47 hx rfl (hb hby at_170) rfl ?_
      refine o_iconst (z := (2 : Int32)) X47 hx rfl (hb hby at_172) (by decide) ?_
      by_cases hc51 : z1 < (2 : Int32)
      · skip
        refine o_icmpY (pc' := 193) X47 hx (hb hby at_173) (tlt hc51).1 (by decide) (by decide) ?_
        refine o_aload X47 hx rfl (hb hby at_193) rfl rfl ?_
        refine o_lload X47 hx rfl (hb hby at_195) rfl ?_
        have Fc53 : Exa Z T47.heap b21 "tidemark/log/RecordMarks$RunMarking" := (Fc48.keep K47)
        obtain ⟨cq52, kq52, q52a, q52b, q52c⟩ := isOf hZ rfl Fc53
        obtain ⟨_, _, ⟨T52, L52, k52, n52⟩, -, X52, ⟨Lc52, hQ52, l52, y52, z52⟩, st52⟩ := X47.virtualBack hx (y := (⟨"tidemark/log/RecordMarks$RunMarking", "takes", "(J)Z"⟩ : MethodName)) (z := (⟨"tidemark/log/RecordMarks$RunMarking", "takes", "(J)Z"⟩ : MethodName)) hown (mvT hZ (hw _ (List.mem_of_getElem? (i := 47) rfl))) (mvT hZ (hw _ (List.mem_of_getElem? (i := 48) rfl))) (notFace_of_selects (args := #[]) (mvT hZ (hw _ (List.mem_of_getElem? (i := 50) rfl)))) (mvT hZ (hw _ (List.mem_of_getElem? (i := 50) rfl))) (mvT hZ (hw _ (List.mem_of_getElem? (i := 49) rfl))) (by decide) (backOf (W := 0) (own_rm6 l Z aA hw [] b21 ph19 q1 (1 : Int32) T47.heap n0 (Nat.le_trans (Nat.le_trans (Nat.le_trans Z0 E21.1) K23.1) K47.1) f47_5 f47_4) hZ (hw _ (List.mem_of_getElem? (i := 51) rfl)) (hw _ (List.mem_of_getElem? (i := 3) rfl)) (by decide) (by decide)) q52a q52c (g := (mkF m 197 #[.val (.long q0), .second, .val (.long q1), .second, .val (.long q2), .second, .val (.int p3), .val (.int p4), .val (.long q5), .second, .val (.int z1), .val (.int z3), .val (.int z6), .val (.long z10), .second, .val (.long z15), .second, .val (.long ph19), .second, .val (.ref b21), .val (.long z10), .second, .unset, .unset, .unset, .unset, .unset, .unset] [(.long ph19), (.ref b21)])) rfl (by rw [hml]; rfl) (Steps.refl _) (argsL := [(.long ph19)]) (rest := []) (lenOf own_pd10 rfl) rfl (by show 2 * 0 + _ ≤ _; exact Nat.le_of_eq rfl) (hb hby at_197) (fun _ _ => ⟨rfl, rfl, Nat.le_of_ble_eq_true rfl, Nat.le_of_ble_eq_true rfl⟩)
        dsimp only [Pt.U, Pt.locs, Pt.cells, Pt.slots] at X52 l52 y52 z52 st52 hQ52
        subst l52 y52 z52
        obtain ⟨rfl, N52q, ee52⟩ := hQ52
        have N54 := Fr.app N49 N52q
        refine og_tr st52 ?_
        show OG p e below _ _ (T52.setTop (mkF m 200 #[.val (.long q0), .second, .val (.long q1), .second, .val (.long q2), .second, .val (.int p3), .val (.int p4), .val (.long q5), .second, .val (.int z1), .val (.int z3), .val (.int z6), .val (.long z10), .second, .val (.long z15), .second, .val (.long ph19), .second, .val (.ref b21), .val (.long z10), .second, .unset, .unset, .unset, .unset, .unset, .unset] [(.int (own_f6 b21 ph19 q1 (1 : Int32)))]))
        refine o_istore X52 hx rfl (hb hby at_200) (L' := #[.val (.long q0), .second, .val (.long q1), .second, .val (.long q2), .second, .val (.int p3), .val (.int p4), .val (.long q5), .second, .val (.int z1), .val (.int z3), .val (.int z6), .val (.long z10), .second, .val (.long z15), .second, .val (.long ph19), .second, .val (.ref b21), .val (.long z10), .second, .val (.int (own_f6 b21 ph19 q1 (1 : Int32))), .unset, .unset, .unset, .unset, .unset]) rfl ?_
        refine o_lload X52 hx rfl (hb hby at_202) rfl ?_
        refine o_lconst (z := (1 : Int64)) X52 hx rfl (hb hby at_204) (by decide) ?_
        obtain ⟨z55, hz55⟩ : ∃ z : Int64, ph19 - (1 : Int64) = z := ⟨_, rfl⟩
        refine o_lsub (z := z55) X52 hx rfl (hb hby at_205) hz55 ?_
        refine o_lloadN X52 hx rfl (hb hby at_206) rfl ?_
        obtain ⟨z56, hz56⟩ : ∃ z : Int64, z55 - q1 = z := ⟨_, rfl⟩
        refine o_lsub (z := z56) X52 hx rfl (hb hby at_207) hz56 ?_
        refine o_lstore X52 hx rfl (hb hby at_208) (L' := #[.val (.long q0), .second, .val (.long q1), .second, .val (.long q2), .second, .val (.int p3), .val (.int p4), .val (.long q5), .second, .val (.int z1), .val (.int z3), .val (.int z6), .val (.long z10), .second, .val (.long z15), .second, .val (.long ph19), .second, .val (.ref b21), .val (.long z10), .second, .val (.int (own_f6 b21 ph19 q1 (1 : Int32))), .val (.long z56), .second, .unset, .unset, .unset]) rfl ?_
        refine o_lload X52 hx rfl (hb hby at_210) rfl ?_
        refine o_ldc2L X52 hx rfl (hb hby at_212) hZ hown (hw _ (List.mem_of_getElem? (i := 52) rfl)) ?_
        refine o_lcmp X52 hx rfl (hb hby at_215) ?_
        obtain ⟨ph59, hph59⟩ : ∃ z : Int32, (if z56 < (-2147483648 : Int64) then (0 : Int32) else (if (2147483647 : Int64) < z56 then (0 : Int32) else (1 : Int32))) = z := ⟨_, rfl⟩
        have J60 : OG p e below (FE s room_1.cells room_1.slots) (own_Q0 Z q0 q1 q2 p3 p4 q5 arr h0 n0) (T52.setTop (mkF m 233 #[.val (.long q0), .second, .val (.long q1), .second, .val (.long q2), .second, .val (.int p3), .val (.int p4), .val (.long q5), .second, .val (.int z1), .val (.int z3), .val (.int z6), .val (.long z10), .second, .val (.long z15), .second, .val (.long ph19), .second, .val (.ref b21), .val (.long z10), .second, .val (.int (own_f6 b21 ph19 q1 (1 : Int32))), .val (.long z56), .second, .unset, .unset, .unset] [(.int ph59)])) := by
          refine o_istore X52 hx rfl (hb hby at_233) (L' := #[.val (.long q0), .second, .val (.long q1), .second, .val (.long q2), .second, .val (.int p3), .val (.int p4), .val (.long q5), .second, .val (.int z1), .val (.int z3), .val (.int z6), .val (.long z10), .second, .val (.long z15), .second, .val (.long ph19), .second, .val (.ref b21), .val (.long z10), .second, .val (.int (own_f6 b21 ph19 q1 (1 : Int32))), .val (.long z56), .second, .val (.int ph59), .unset, .unset]) rfl ?_
          refine o_iload X52 hx rfl (hb hby at_235) rfl ?_
          have hk61 : ¬ (z1 = (0 : Int32)) := by
            intro q; have hh := hc28; rw [q] at hh; exact hh (by decide)
          refine o_ifN (pc' := 240) X52 hx rfl (hb hby at_237) ((if0 _ _).trans (feq hk61).1) ?_
          refine o_iload X52 hx rfl (hb hby at_240) rfl ?_
          obtain ⟨ph63, hph63⟩ : ∃ z : Int32, (if ph59 = (0 : Int32) then (0 : Int32) else (1 : Int32)) = z := ⟨_, rfl⟩
          have J64 : OG p e below (FE s room_1.cells room_1.slots) (own_Q0 Z q0 q1 q2 p3 p4 q5 arr h0 n0) (T52.setTop (mkF m 250 #[.val (.long q0), .second, .val (.long q1), .second, .val (.long q2), .second, .val (.int p3), .val (.int p4), .val (.long q5), .second, .val (.int z1), .val (.int z3), .val (.int z6), .val (.long z10), .second, .val (.long z15), .second, .val (.long ph19), .second, .val (.ref b21), .val (.long z10), .second, .val (.int (own_f6 b21 ph19 q1 (1 : Int32))), .val (.long z56), .second, .val (.int ph59), .unset, .unset] [(.int ph63)])) := by
            refine o_istore X52 hx rfl (hb hby at_250) (L' := #[.val (.long q0), .second, .val (.long q1), .second, .val (.long q2), .second, .val (.int p3), .val (.int p4), .val (.long q5), .second, .val (.int z1), .val (.int z3), .val (.int z6), .val (.long z10), .second, .val (.long z15), .second, .val (.long ph19), .second, .val (.ref b21), .val (.long z10), .second, .val (.int (own_f6 b21 ph19 q1 (1 : Int32))), .val (.long z56), .second, .val (.int ph59), .val (.int ph63), .unset]) rfl ?_
            refine o_iload X52 hx rfl (hb hby at_252) rfl ?_
            refine o_iload X52 hx rfl (hb hby at_254) rfl ?_
            have hk65 : (own_f6 b21 ph19 q1 (1 : Int32)) = ph63 := by rw [own_tkN _ _ _ _ (by decide)]; subst hz1 hz2 hz3 hz4 hz5 hz6 hz7 hz8 hz9 hz10 hz11 hz12 hz13 hz14 hz15 hph19 hz55 hz56 hph59 hph63; exact (own_bb _ _).symm
            refine o_icmpY (pc' := 261) X52 hx (hb hby at_256) (teq hk65).1 (by decide) (by decide) ?_
            refine o_iload X52 hx rfl (hb hby at_261) rfl ?_
            have hk66 : ¬ (z1 = (0 : Int32)) := by
              intro q; have hh := hc28; rw [q] at hh; exact hh (by decide)
            refine o_ifN (pc' := 266) X52 hx rfl (hb hby at_263) ((if0 _ _).trans (feq hk66).1) ?_
            refine o_iload X52 hx rfl (hb hby at_266) rfl ?_
            by_cases hc67 : (own_f6 b21 ph19 q1 (1 : Int32)) = (0 : Int32)
            · skip
              refine o_ifN (pc' := 271) X52 hx rfl (hb hby at_268) ((if0 _ _).trans (teq hc67).2) ?_
              refine o_iconst (z := (1 : Int32)) X52 hx rfl (hb hby at_271) (by decide) ?_
              exact o_retB X52 hx Bd.returns (own_lv X52 hlk (by decide) (by decide)) (hb hby at_272) (by decide) ⟨rfl, N54⟩
            · skip
              refine o_ifY (pc' := 273) X52 hx (hb hby at_268) ((if0 _ _).trans (feq hc67).2) (by decide) (by decide) ?_
              refine o_aload X52 hx rfl (hb hby at_273) rfl rfl ?_
              refine o_iload X52 hx rfl (hb hby at_275) rfl ?_
              refine o_lload X52 hx rfl (hb hby at_277) rfl ?_
              refine o_lload X52 hx rfl (hb hby at_279) rfl ?_
              refine o_lload X52 hx rfl (hb hby at_281) rfl ?_
              by_cases hs68 : (1024 : Int64) < (((q0 + (z6.toInt64)) - q0) - (0 : Int32).toInt64)
              · skip
                have Fc70 : Exa Z T47.heap b23_0 "tidemark/log/RecordMarks$LaterMarks" := (f23_8.keep K47)
                have Fc71 : Fld Z T47.heap b23_0 "tidemark/log/RecordMarks$LaterMarks" "marks" "[I" (.ref b23_1) := (f23_9.keep K47 (ninS (Ne.symm ne24) nin0))
                have Fc72 : Fld Z T47.heap b23_0 "tidemark/log/RecordMarks$LaterMarks" "count" "I" (.int (0 : Int32)) := (f23_10.keep K47 (ninS (Ne.symm ne24) nin0))
                have Fc73 : Arv Z T47.heap b23_1 k_b23_1 .int (12 : Int32) [(.int (0 : Int32)), (.int (0 : Int32)), (.int (0 : Int32)), (.int (0 : Int32)), (.int (0 : Int32)), (.int (0 : Int32)), (.int (0 : Int32)), (.int (0 : Int32))] (.int (0 : Int32)) := (f23_11.keep K47 (ninS (Ne.symm ne25) nin0))
                have hw_74 : (1024 : Int64) < (((q0 + (z6.toInt64)) - q0) - (0 : Int32).toInt64) := hs68
                obtain ⟨cq69, kq69, q69a, q69b, q69c⟩ := isOf hZ ee52 Fc53
                obtain ⟨_, _, ⟨T69, L69, k69, n69⟩, -, X69, ⟨Lc69, hQ69, l69, y69, z69⟩, st69⟩ := X52.virtualBack hx (y := (⟨"tidemark/log/RecordMarks$RunMarking", "add", "(IJJJ)V"⟩ : MethodName)) (z := (⟨"tidemark/log/RecordMarks$RunMarking", "add", "(IJJJ)V"⟩ : MethodName)) hown (mvT hZ (hw _ (List.mem_of_getElem? (i := 29) rfl))) (mvT hZ (hw _ (List.mem_of_getElem? (i := 30) rfl))) (notFace_of_selects (args := #[]) (mvT hZ (hw _ (List.mem_of_getElem? (i := 32) rfl)))) (mvT hZ (hw _ (List.mem_of_getElem? (i := 32) rfl))) (mvT hZ (hw _ (List.mem_of_getElem? (i := 31) rfl))) (by decide) (backOf (W := 0) (own_rmad1t0 l Z aA hw [] b21 z6 z10 ph19 q5 b23_0 (own_f5 (-9223372036854775808 : Int64) q5) q0 (q0 + (z6.toInt64)) q1 z10 (0 : Int32) b23_1 k_b23_1 (0 : Int32) (0 : Int32) (0 : Int32) (0 : Int32) (0 : Int32) (0 : Int32) (0 : Int32) (0 : Int32) T47.heap n0 (Nat.le_trans (Nat.le_trans (Nat.le_trans Z0 E21.1) K23.1) K47.1) Fc53 gn21 f47_0 f47_1 f47_2 f47_3 f47_4 f47_5 f47_6 f47_7 Fc70 Fc71 Fc72 Fc73 gnb23_0 gnb23_1 ne24 ne25 nn23_0_1 hw_74) hZ (hw _ (List.mem_of_getElem? (i := 33) rfl)) (hw _ (List.mem_of_getElem? (i := 3) rfl)) (by decide) (by decide)) q69a q69c (g := (mkF m 283 #[.val (.long q0), .second, .val (.long q1), .second, .val (.long q2), .second, .val (.int p3), .val (.int p4), .val (.long q5), .second, .val (.int z1), .val (.int z3), .val (.int z6), .val (.long z10), .second, .val (.long z15), .second, .val (.long ph19), .second, .val (.ref b21), .val (.long z10), .second, .val (.int (own_f6 b21 ph19 q1 (1 : Int32))), .val (.long z56), .second, .val (.int ph59), .val (.int ph63), .unset] [(.long q5), (.long ph19), (.long z10), (.int z6), (.ref b21)])) rfl (by rw [hml]; rfl) (Steps.refl _) (argsL := [(.int z6), (.long z10), (.long ph19), (.long q5)]) (rest := []) (lenOf own_pd11 rfl) rfl (by show 2 * 0 + _ ≤ _; exact Nat.le_of_eq rfl) (hb hby at_283) (fun _ _ => ⟨rfl, ee52, Nat.le_of_ble_eq_true rfl, Nat.le_of_ble_eq_true rfl⟩)
                dsimp only [Pt.U, Pt.locs, Pt.cells, Pt.slots] at X69 l69 y69 z69 st69 hQ69
                subst l69 y69 z69
                obtain ⟨rfl, N69q, K69, f69_0, f69_1, f69_2, f69_3, f69_4, f69_5, f69_6, f69_7, f69_8, f69_9, f69_10⟩ := hQ69
                have N75 := Fr.app N54 N69q
                have Kp76 : Keep h0 T69.heap [] := Kp50.trans K69 (allS (Or.inr sz21) (allS (Or.inr szb23_0) (allS (Or.inr szb23_1) all0)))
                refine og_tr st69 ?_
                show OG p e below _ _ (T69.setTop (mkF m 286 #[.val (.long q0), .second, .val (.long q1), .second, .val (.long q2), .second, .val (.int p3), .val (.int p4), .val (.long q5), .second, .val (.int z1), .val (.int z3), .val (.int z6), .val (.long z10), .second, .val (.long z15), .second, .val (.long ph19), .second, .val (.ref b21), .val (.long z10), .second, .val (.int (own_f6 b21 ph19 q1 (1 : Int32))), .val (.long z56), .second, .val (.int ph59), .val (.int ph63), .unset] []))
                refine o_aload X69 hx rfl (hb hby at_286) rfl rfl ?_
                have Fc78 : Exa Z T69.heap b23_0 "tidemark/log/RecordMarks$LaterMarks" := (Fc70.keep K69)
                have hw_79 : (((ph19 - (1 : Int64)) - q1).toInt32).toInt64 = ((ph19 - (1 : Int64)) - q1) := own_tkX _ _ _ _ (by decide) hc67
                have Fc80 : Exa Z T69.heap b21 "tidemark/log/RecordMarks$RunMarking" := (Fc53.keep K69)
                obtain ⟨cq77, kq77, q77a, q77b, q77c⟩ := isOf hZ rfl Fc80
                obtain ⟨_, _, ⟨T77, L77, k77, n77⟩, -, X77, ⟨Lc77, hQ77, l77, y77, z77⟩, st77⟩ := X69.virtualBack hx (y := (⟨"tidemark/log/RecordMarks$RunMarking", "marks", "()Ltidemark/log/RecordMarks$Span;"⟩ : MethodName)) (z := (⟨"tidemark/log/RecordMarks$RunMarking", "marks", "()Ltidemark/log/RecordMarks$Span;"⟩ : MethodName)) hown (mvT hZ (hw _ (List.mem_of_getElem? (i := 56) rfl))) (mvT hZ (hw _ (List.mem_of_getElem? (i := 57) rfl))) (notFace_of_selects (args := #[]) (mvT hZ (hw _ (List.mem_of_getElem? (i := 59) rfl)))) (mvT hZ (hw _ (List.mem_of_getElem? (i := 59) rfl))) (mvT hZ (hw _ (List.mem_of_getElem? (i := 58) rfl))) (by decide) (backOf (W := 0) (own_rmmk1 l Z aA hw [] b21 b23_0 (own_f5 (own_f5 (-9223372036854775808 : Int64) q5) q5) q0 ((q0 + (z6.toInt64)) + (z6.toInt64)) q1 ph19 (((q0 + (z6.toInt64)) - q0).toInt32) (2 : Int32) b23_1 k_b23_1 (((q0 + (z6.toInt64)) - q0).toInt32) ((((own_f5 (-9223372036854775808 : Int64) q5).toUInt64 >>> ((32 : Int32) &&& 0x3f).toInt64.toUInt64).toInt64).toInt32) ((own_f5 (-9223372036854775808 : Int64) q5).toInt32) (0 : Int32) (0 : Int32) (0 : Int32) (0 : Int32) (0 : Int32) T69.heap n0 (Nat.le_trans (Nat.le_trans (Nat.le_trans (Nat.le_trans Z0 E21.1) K23.1) K47.1) K69.1) f69_0 f69_1 f69_2 f69_3 f69_4 f69_5 f69_6 f69_7 Fc78 f69_9 f69_8 f69_10 hw_79) hZ (hw _ (List.mem_of_getElem? (i := 60) rfl)) (hw _ (List.mem_of_getElem? (i := 3) rfl)) (by decide) (by decide)) q77a q77c (g := (mkF m 288 #[.val (.long q0), .second, .val (.long q1), .second, .val (.long q2), .second, .val (.int p3), .val (.int p4), .val (.long q5), .second, .val (.int z1), .val (.int z3), .val (.int z6), .val (.long z10), .second, .val (.long z15), .second, .val (.long ph19), .second, .val (.ref b21), .val (.long z10), .second, .val (.int (own_f6 b21 ph19 q1 (1 : Int32))), .val (.long z56), .second, .val (.int ph59), .val (.int ph63), .unset] [(.ref b21)])) rfl (by rw [hml]; rfl) (Steps.refl _) (argsL := []) (rest := []) (lenOf own_pd12 rfl) rfl (by show 2 * 0 + _ ≤ _; exact Nat.le_of_eq rfl) (hb hby at_288) (fun _ _ => ⟨rfl, rfl, Nat.le_of_ble_eq_true rfl, Nat.le_of_ble_eq_true rfl⟩)
                dsimp only [Pt.U, Pt.locs, Pt.cells, Pt.slots] at X77 l77 y77 z77 st77 hQ77
                subst l77 y77 z77
                obtain ⟨b77, rfl, N77q, K77, sq77_0, f77_0, f77_1, f77_2⟩ := hQ77
                have ne81 : b21 ≠ b77 := Nat.ne_of_lt (Nat.lt_of_lt_of_le Fc80.lt sq77_0)
                have ne82 : b23_0 ≠ b77 := Nat.ne_of_lt (Nat.lt_of_lt_of_le Fc78.lt sq77_0)
                have ne83 : b23_1 ≠ b77 := Nat.ne_of_lt (Nat.lt_of_lt_of_le f69_10.lt sq77_0)
                have gnb77 : n0 ≤ b77 := Nat.le_trans (Nat.le_trans (Nat.le_trans (Nat.le_trans (Nat.le_trans Z0 E21.1) K23.1) K47.1) K69.1) sq77_0
                have szb77 : h0.size ≤ b77 := Nat.le_trans Kp76.1 sq77_0
                have N84 := Fr.app N75 N77q
                have Kp85 : Keep h0 T77.heap [] := Kp76.trans K77 all0
                refine og_tr st77 ?_
                show OG p e below _ _ (T77.setTop (mkF m 291 #[.val (.long q0), .second, .val (.long q1), .second, .val (.long q2), .second, .val (.int p3), .val (.int p4), .val (.long q5), .second, .val (.int z1), .val (.int z3), .val (.int z6), .val (.long z10), .second, .val (.long z15), .second, .val (.long ph19), .second, .val (.ref b21), .val (.long z10), .second, .val (.int (own_f6 b21 ph19 q1 (1 : Int32))), .val (.long z56), .second, .val (.int ph59), .val (.int ph63), .unset] [(.ref b77)]))
                refine o_astore X77 hx rfl (hb hby at_291) rfl (L' := #[.val (.long q0), .second, .val (.long q1), .second, .val (.long q2), .second, .val (.int p3), .val (.int p4), .val (.long q5), .second, .val (.int z1), .val (.int z3), .val (.int z6), .val (.long z10), .second, .val (.long z15), .second, .val (.long ph19), .second, .val (.ref b21), .val (.long z10), .second, .val (.int (own_f6 b21 ph19 q1 (1 : Int32))), .val (.long z56), .second, .val (.int ph59), .val (.int ph63), .val (.ref b77)]) rfl ?_
                refine o_aload X77 hx rfl (hb hby at_293) rfl rfl ?_
                obtain ⟨cq86, kq86, q86a, q86b, q86c⟩ := isOf hZ rfl f77_0
                obtain ⟨_, _, ⟨T86, L86, k86, n86⟩, -, X86, ⟨Lc86, hQ86, l86, y86, z86⟩, st86⟩ := X77.virtualBack hx (y := (⟨"tidemark/log/RecordMarks$Span", "nextOffset", "()J"⟩ : MethodName)) (z := (⟨"tidemark/log/RecordMarks$Span", "nextOffset", "()J"⟩ : MethodName)) hown (mvT hZ (hw _ (List.mem_of_getElem? (i := 102) rfl))) (mvT hZ (hw _ (List.mem_of_getElem? (i := 103) rfl))) (notFace_of_selects (args := #[]) (mvT hZ (hw _ (List.mem_of_getElem? (i := 105) rfl)))) (mvT hZ (hw _ (List.mem_of_getElem? (i := 105) rfl))) (mvT hZ (hw _ (List.mem_of_getElem? (i := 104) rfl))) (by decide) (backOf (W := 0) (own_rm13 l Z aA hw [] b77 q1 (((ph19 - (1 : Int64)) - q1).toInt32) T77.heap n0 (Nat.le_trans (Nat.le_trans (Nat.le_trans (Nat.le_trans (Nat.le_trans Z0 E21.1) K23.1) K47.1) K69.1) K77.1) f77_1 f77_2) hZ (hw _ (List.mem_of_getElem? (i := 106) rfl)) (hw _ (List.mem_of_getElem? (i := 80) rfl)) (by decide) (by decide)) q86a q86c (g := (mkF m 295 #[.val (.long q0), .second, .val (.long q1), .second, .val (.long q2), .second, .val (.int p3), .val (.int p4), .val (.long q5), .second, .val (.int z1), .val (.int z3), .val (.int z6), .val (.long z10), .second, .val (.long z15), .second, .val (.long ph19), .second, .val (.ref b21), .val (.long z10), .second, .val (.int (own_f6 b21 ph19 q1 (1 : Int32))), .val (.long z56), .second, .val (.int ph59), .val (.int ph63), .val (.ref b77)] [(.ref b77)])) rfl (by rw [hml]; rfl) (Steps.refl _) (argsL := []) (rest := []) (lenOf own_pd13 rfl) rfl (by show 2 * 0 + _ ≤ _; exact Nat.le_of_eq rfl) (hb hby at_295) (fun _ _ => ⟨rfl, rfl, Nat.le_of_ble_eq_true rfl, Nat.le_of_ble_eq_true rfl⟩)
                dsimp only [Pt.U, Pt.locs, Pt.cells, Pt.slots] at X86 l86 y86 z86 st86 hQ86
                subst l86 y86 z86
                obtain ⟨rfl, N86q, ee86⟩ := hQ86
                have N87 := Fr.app N84 N86q
                refine og_tr st86 ?_
                show OG p e below _ _ (T86.setTop (mkF m 298 #[.val (.long q0), .second, .val (.long q1), .second, .val (.long q2), .second, .val (.int p3), .val (.int p4), .val (.long q5), .second, .val (.int z1), .val (.int z3), .val (.int z6), .val (.long z10), .second, .val (.long z15), .second, .val (.long ph19), .second, .val (.ref b21), .val (.long z10), .second, .val (.int (own_f6 b21 ph19 q1 (1 : Int32))), .val (.long z56), .second, .val (.int ph59), .val (.int ph63), .val (.ref b77)] [(.long ((q1 + ((((ph19 - (1 : Int64)) - q1).toInt32).toInt64)) + (1 : Int64)))]))
                refine o_lload X86 hx rfl (hb hby at_298) rfl ?_
                refine o_lcmp X86 hx rfl (hb hby at_300) ?_
                have hk88 : ((q1 + ((((ph19 - (1 : Int64)) - q1).toInt32).toInt64)) + (1 : Int64)) = ph19 := own_nx _ _ (own_tkX _ _ _ _ (by decide) hc67)
                refine o_ifN (pc' := 304) X86 hx rfl (hb hby at_301) (lcY_eq hk88).2 ?_
                refine o_aload X86 hx rfl (hb hby at_304) rfl rfl ?_
                obtain ⟨cq89, kq89, q89a, q89b, q89c⟩ := isOf hZ ee86 f77_0
                obtain ⟨_, _, ⟨T89, L89, k89, n89⟩, -, X89, ⟨Lc89, hQ89, l89, y89, z89⟩, st89⟩ := X86.virtualBack hx (y := (⟨"tidemark/log/RecordMarks$Span", "baseOffset", "()J"⟩ : MethodName)) (z := (⟨"tidemark/log/RecordMarks$Span", "baseOffset", "()J"⟩ : MethodName)) hown (mvT hZ (hw _ (List.mem_of_getElem? (i := 107) rfl))) (mvT hZ (hw _ (List.mem_of_getElem? (i := 108) rfl))) (notFace_of_selects (args := #[]) (mvT hZ (hw _ (List.mem_of_getElem? (i := 110) rfl)))) (mvT hZ (hw _ (List.mem_of_getElem? (i := 110) rfl))) (mvT hZ (hw _ (List.mem_of_getElem? (i := 109) rfl))) (by decide) (backOf (W := 0) (own_rm14 l Z aA hw [] b77 q1 T77.heap n0 (Nat.le_trans (Nat.le_trans (Nat.le_trans (Nat.le_trans (Nat.le_trans Z0 E21.1) K23.1) K47.1) K69.1) K77.1) f77_1) hZ (hw _ (List.mem_of_getElem? (i := 111) rfl)) (hw _ (List.mem_of_getElem? (i := 80) rfl)) (by decide) (by decide)) q89a q89c (g := (mkF m 306 #[.val (.long q0), .second, .val (.long q1), .second, .val (.long q2), .second, .val (.int p3), .val (.int p4), .val (.long q5), .second, .val (.int z1), .val (.int z3), .val (.int z6), .val (.long z10), .second, .val (.long z15), .second, .val (.long ph19), .second, .val (.ref b21), .val (.long z10), .second, .val (.int (own_f6 b21 ph19 q1 (1 : Int32))), .val (.long z56), .second, .val (.int ph59), .val (.int ph63), .val (.ref b77)] [(.ref b77)])) rfl (by rw [hml]; rfl) (Steps.refl _) (argsL := []) (rest := []) (lenOf own_pd13 rfl) rfl (by show 2 * 0 + _ ≤ _; exact Nat.le_of_eq rfl) (hb hby at_306) (fun _ _ => ⟨rfl, ee86, Nat.le_of_ble_eq_true rfl, Nat.le_of_ble_eq_true rfl⟩)
                dsimp only [Pt.U, Pt.locs, Pt.cells, Pt.slots] at X89 l89 y89 z89 st89 hQ89
                subst l89 y89 z89
                obtain ⟨rfl, N89q, ee89⟩ := hQ89
                have N90 := Fr.app N87 N89q
                refine og_tr st89 ?_
                show OG p e below _ _ (T89.setTop (mkF m 309 #[.val (.long q0), .second, .val (.long q1), .second, .val (.long q2), .second, .val (.int p3), .val (.int p4), .val (.long q5), .second, .val (.int z1), .val (.int z3), .val (.int z6), .val (.long z10), .second, .val (.long z15), .second, .val (.long ph19), .second, .val (.ref b21), .val (.long z10), .second, .val (.int (own_f6 b21 ph19 q1 (1 : Int32))), .val (.long z56), .second, .val (.int ph59), .val (.int ph63), .val (.ref b77)] [(.long q1)]))
                refine o_lloadN X89 hx rfl (hb hby at_309) rfl ?_
                refine o_lcmp X89 hx rfl (hb hby at_310) ?_
                have hk91 : q1 = q1 := rfl
                refine o_ifN (pc' := 314) X89 hx rfl (hb hby at_311) (lcY_eq hk91).2 ?_
                refine o_iconst (z := (1 : Int32)) X89 hx rfl (hb hby at_314) (by decide) ?_
                refine o_goto (pc' := 319) X89 hx (hb hby at_315) (by decide) (by decide) ?_
                exact o_retB X89 hx Bd.returns (own_lv X89 hlk (by decide) (by decide)) (hb hby at_319) (by decide) ⟨rfl, N90⟩
              · skip
                have hw_93 : ¬ ((1024 : Int64) < (((q0 + (z6.toInt64)) - q0) - (0 : Int32).toInt64)) := hs68
                obtain ⟨cq92, kq92, q92a, q92b, q92c⟩ := isOf hZ ee52 Fc53
                obtain ⟨_, _, ⟨T92, L92, k92, n92⟩, -, X92, ⟨Lc92, hQ92, l92, y92, z92⟩, st92⟩ := X52.virtualBack hx (y := (⟨"tidemark/log/RecordMarks$RunMarking", "add", "(IJJJ)V"⟩ : MethodName)) (z := (⟨"tidemark/log/RecordMarks$RunMarking", "add", "(IJJJ)V"⟩ : MethodName)) hown (mvT hZ (hw _ (List.mem_of_getElem? (i := 29) rfl))) (mvT hZ (hw _ (List.mem_of_getElem? (i := 30) rfl))) (notFace_of_selects (args := #[]) (mvT hZ (hw _ (List.mem_of_getElem? (i := 32) rfl)))) (mvT hZ (hw _ (List.mem_of_getElem? (i := 32) rfl))) (mvT hZ (hw _ (List.mem_of_getElem? (i := 31) rfl))) (by decide) (backOf (W := 0) (own_rmad1 l Z aA hw [] b21 z6 z10 ph19 q5 b23_0 (own_f5 (-9223372036854775808 : Int64) q5) q0 (q0 + (z6.toInt64)) q1 z10 (0 : Int32) T47.heap n0 (Nat.le_trans (Nat.le_trans (Nat.le_trans Z0 E21.1) K23.1) K47.1) Fc53 gn21 f47_0 f47_1 f47_2 f47_3 f47_4 f47_5 f47_6 f47_7 hw_93) hZ (hw _ (List.mem_of_getElem? (i := 33) rfl)) (hw _ (List.mem_of_getElem? (i := 3) rfl)) (by decide) (by decide)) q92a q92c (g := (mkF m 283 #[.val (.long q0), .second, .val (.long q1), .second, .val (.long q2), .second, .val (.int p3), .val (.int p4), .val (.long q5), .second, .val (.int z1), .val (.int z3), .val (.int z6), .val (.long z10), .second, .val (.long z15), .second, .val (.long ph19), .second, .val (.ref b21), .val (.long z10), .second, .val (.int (own_f6 b21 ph19 q1 (1 : Int32))), .val (.long z56), .second, .val (.int ph59), .val (.int ph63), .unset] [(.long q5), (.long ph19), (.long z10), (.int z6), (.ref b21)])) rfl (by rw [hml]; rfl) (Steps.refl _) (argsL := [(.int z6), (.long z10), (.long ph19), (.long q5)]) (rest := []) (lenOf own_pd11 rfl) rfl (by show 2 * 0 + _ ≤ _; exact Nat.le_of_eq rfl) (hb hby at_283) (fun _ _ => ⟨rfl, ee52, Nat.le_of_ble_eq_true rfl, Nat.le_of_ble_eq_true rfl⟩)
                dsimp only [Pt.U, Pt.locs, Pt.cells, Pt.slots] at X92 l92 y92 z92 st92 hQ92
                subst l92 y92 z92
                obtain ⟨rfl, N92q, K92, f92_0, f92_1, f92_2, f92_3, f92_4, f92_5, f92_6, f92_7⟩ := hQ92
                have N94 := Fr.app N54 N92q
                have Kp95 : Keep h0 T92.heap [] := Kp50.trans K92 (allS (Or.inr sz21) all0)
                refine og_tr st92 ?_
                show OG p e below _ _ (T92.setTop (mkF m 286 #[.val (.long q0), .second, .val (.long q1), .second, .val (.long q2), .second, .val (.int p3), .val (.int p4), .val (.long q5), .second, .val (.int z1), .val (.int z3), .val (.int z6), .val (.long z10), .second, .val (.long z15), .second, .val (.long ph19), .second, .val (.ref b21), .val (.long z10), .second, .val (.int (own_f6 b21 ph19 q1 (1 : Int32))), .val (.long z56), .second, .val (.int ph59), .val (.int ph63), .unset] []))
                refine o_aload X92 hx rfl (hb hby at_286) rfl rfl ?_
                have Fc97 : Exa Z T92.heap b23_0 "tidemark/log/RecordMarks$LaterMarks" := ((f23_8.keep K47).keep K92)
                have Fc98 : Fld Z T92.heap b23_0 "tidemark/log/RecordMarks$LaterMarks" "count" "I" (.int (0 : Int32)) := ((f23_10.keep K47 (ninS (Ne.symm ne24) nin0)).keep K92 (ninS (Ne.symm ne24) nin0))
                have Fc99 : Sta Z T92.heap "tidemark/log/RecordMarks" "NO_LATER_MARKS" "[I" (.ref arr) := (own_staK pre0 Kp95)
                have hw_100 : (((ph19 - (1 : Int64)) - q1).toInt32).toInt64 = ((ph19 - (1 : Int64)) - q1) := own_tkX _ _ _ _ (by decide) hc67
                have Fc101 : Exa Z T92.heap b21 "tidemark/log/RecordMarks$RunMarking" := (Fc53.keep K92)
                obtain ⟨cq96, kq96, q96a, q96b, q96c⟩ := isOf hZ rfl Fc101
                obtain ⟨_, _, ⟨T96, L96, k96, n96⟩, -, X96, ⟨Lc96, hQ96, l96, y96, z96⟩, st96⟩ := X92.virtualBack hx (y := (⟨"tidemark/log/RecordMarks$RunMarking", "marks", "()Ltidemark/log/RecordMarks$Span;"⟩ : MethodName)) (z := (⟨"tidemark/log/RecordMarks$RunMarking", "marks", "()Ltidemark/log/RecordMarks$Span;"⟩ : MethodName)) hown (mvT hZ (hw _ (List.mem_of_getElem? (i := 56) rfl))) (mvT hZ (hw _ (List.mem_of_getElem? (i := 57) rfl))) (notFace_of_selects (args := #[]) (mvT hZ (hw _ (List.mem_of_getElem? (i := 59) rfl)))) (mvT hZ (hw _ (List.mem_of_getElem? (i := 59) rfl))) (mvT hZ (hw _ (List.mem_of_getElem? (i := 58) rfl))) (by decide) (backOf (W := 0) (own_rmmk0 l Z aA hw [] b21 b23_0 (own_f5 (own_f5 (-9223372036854775808 : Int64) q5) q5) q0 ((q0 + (z6.toInt64)) + (z6.toInt64)) q1 ph19 (0 : Int32) (2 : Int32) arr T92.heap n0 (Nat.le_trans (Nat.le_trans (Nat.le_trans (Nat.le_trans Z0 E21.1) K23.1) K47.1) K92.1) f92_0 f92_1 f92_2 f92_3 f92_4 f92_5 f92_6 f92_7 Fc97 Fc98 Fc99 hw_100) hZ (hw _ (List.mem_of_getElem? (i := 60) rfl)) (hw _ (List.mem_of_getElem? (i := 3) rfl)) (by decide) (by decide)) q96a q96c (g := (mkF m 288 #[.val (.long q0), .second, .val (.long q1), .second, .val (.long q2), .second, .val (.int p3), .val (.int p4), .val (.long q5), .second, .val (.int z1), .val (.int z3), .val (.int z6), .val (.long z10), .second, .val (.long z15), .second, .val (.long ph19), .second, .val (.ref b21), .val (.long z10), .second, .val (.int (own_f6 b21 ph19 q1 (1 : Int32))), .val (.long z56), .second, .val (.int ph59), .val (.int ph63), .unset] [(.ref b21)])) rfl (by rw [hml]; rfl) (Steps.refl _) (argsL := []) (rest := []) (lenOf own_pd12 rfl) rfl (by show 2 * 0 + _ ≤ _; exact Nat.le_of_eq rfl) (hb hby at_288) (fun _ _ => ⟨rfl, rfl, Nat.le_of_ble_eq_true rfl, Nat.le_of_ble_eq_true rfl⟩)
                dsimp only [Pt.U, Pt.locs, Pt.cells, Pt.slots] at X96 l96 y96 z96 st96 hQ96
                subst l96 y96 z96
                obtain ⟨b96, rfl, N96q, K96, sq96_0, f96_0, f96_1, f96_2⟩ := hQ96
                have ne102 : b21 ≠ b96 := Nat.ne_of_lt (Nat.lt_of_lt_of_le Fc101.lt sq96_0)
                have ne103 : b23_0 ≠ b96 := Nat.ne_of_lt (Nat.lt_of_lt_of_le Fc97.lt sq96_0)
                have Fc104 : Arv Z T92.heap b23_1 k_b23_1 .int (12 : Int32) [(.int (0 : Int32)), (.int (0 : Int32)), (.int (0 : Int32)), (.int (0 : Int32)), (.int (0 : Int32)), (.int (0 : Int32)), (.int (0 : Int32)), (.int (0 : Int32))] (.int (0 : Int32)) := ((f23_11.keep K47 (ninS (Ne.symm ne25) nin0)).keep K92 (ninS (Ne.symm ne25) nin0))
                have ne105 : b23_1 ≠ b96 := Nat.ne_of_lt (Nat.lt_of_lt_of_le Fc104.lt sq96_0)
                have gnb96 : n0 ≤ b96 := Nat.le_trans (Nat.le_trans (Nat.le_trans (Nat.le_trans (Nat.le_trans Z0 E21.1) K23.1) K47.1) K92.1) sq96_0
                have szb96 : h0.size ≤ b96 := Nat.le_trans Kp95.1 sq96_0
                have N106 := Fr.app N94 N96q
                have Kp107 : Keep h0 T96.heap [] := Kp95.trans K96 all0
                refine og_tr st96 ?_
                show OG p e below _ _ (T96.setTop (mkF m 291 #[.val (.long q0), .second, .val (.long q1), .second, .val (.long q2), .second, .val (.int p3), .val (.int p4), .val (.long q5), .second, .val (.int z1), .val (.int z3), .val (.int z6), .val (.long z10), .second, .val (.long z15), .second, .val (.long ph19), .second, .val (.ref b21), .val (.long z10), .second, .val (.int (own_f6 b21 ph19 q1 (1 : Int32))), .val (.long z56), .second, .val (.int ph59), .val (.int ph63), .unset] [(.ref b96)]))
                refine o_astore X96 hx rfl (hb hby at_291) rfl (L' := #[.val (.long q0), .second, .val (.long q1), .second, .val (.long q2), .second, .val (.int p3), .val (.int p4), .val (.long q5), .second, .val (.int z1), .val (.int z3), .val (.int z6), .val (.long z10), .second, .val (.long z15), .second, .val (.long ph19), .second, .val (.ref b21), .val (.long z10), .second, .val (.int (own_f6 b21 ph19 q1 (1 : Int32))), .val (.long z56), .second, .val (.int ph59), .val (.int ph63), .val (.ref b96)]) rfl ?_
                refine o_aload X96 hx rfl (hb hby at_293) rfl rfl ?_
                obtain ⟨cq108, kq108, q108a, q108b, q108c⟩ := isOf hZ rfl f96_0
                obtain ⟨_, _, ⟨T108, L108, k108, n108⟩, -, X108, ⟨Lc108, hQ108, l108, y108, z108⟩, st108⟩ := X96.virtualBack hx (y := (⟨"tidemark/log/RecordMarks$Span", "nextOffset", "()J"⟩ : MethodName)) (z := (⟨"tidemark/log/RecordMarks$Span", "nextOffset", "()J"⟩ : MethodName)) hown (mvT hZ (hw _ (List.mem_of_getElem? (i := 102) rfl))) (mvT hZ (hw _ (List.mem_of_getElem? (i := 103) rfl))) (notFace_of_selects (args := #[]) (mvT hZ (hw _ (List.mem_of_getElem? (i := 105) rfl)))) (mvT hZ (hw _ (List.mem_of_getElem? (i := 105) rfl))) (mvT hZ (hw _ (List.mem_of_getElem? (i := 104) rfl))) (by decide) (backOf (W := 0) (own_rm13 l Z aA hw [] b96 q1 (((ph19 - (1 : Int64)) - q1).toInt32) T96.heap n0 (Nat.le_trans (Nat.le_trans (Nat.le_trans (Nat.le_trans (Nat.le_trans Z0 E21.1) K23.1) K47.1) K92.1) K96.1) f96_1 f96_2) hZ (hw _ (List.mem_of_getElem? (i := 106) rfl)) (hw _ (List.mem_of_getElem? (i := 80) rfl)) (by decide) (by decide)) q108a q108c (g := (mkF m 295 #[.val (.long q0), .second, .val (.long q1), .second, .val (.long q2), .second, .val (.int p3), .val (.int p4), .val (.long q5), .second, .val (.int z1), .val (.int z3), .val (.int z6), .val (.long z10), .second, .val (.long z15), .second, .val (.long ph19), .second, .val (.ref b21), .val (.long z10), .second, .val (.int (own_f6 b21 ph19 q1 (1 : Int32))), .val (.long z56), .second, .val (.int ph59), .val (.int ph63), .val (.ref b96)] [(.ref b96)])) rfl (by rw [hml]; rfl) (Steps.refl _) (argsL := []) (rest := []) (lenOf own_pd13 rfl) rfl (by show 2 * 0 + _ ≤ _; exact Nat.le_of_eq rfl) (hb hby at_295) (fun _ _ => ⟨rfl, rfl, Nat.le_of_ble_eq_true rfl, Nat.le_of_ble_eq_true rfl⟩)
                dsimp only [Pt.U, Pt.locs, Pt.cells, Pt.slots] at X108 l108 y108 z108 st108 hQ108
                subst l108 y108 z108
                obtain ⟨rfl, N108q, ee108⟩ := hQ108
                have N109 := Fr.app N106 N108q
                refine og_tr st108 ?_
                show OG p e below _ _ (T108.setTop (mkF m 298 #[.val (.long q0), .second, .val (.long q1), .second, .val (.long q2), .second, .val (.int p3), .val (.int p4), .val (.long q5), .second, .val (.int z1), .val (.int z3), .val (.int z6), .val (.long z10), .second, .val (.long z15), .second, .val (.long ph19), .second, .val (.ref b21), .val (.long z10), .second, .val (.int (own_f6 b21 ph19 q1 (1 : Int32))), .val (.long z56), .second, .val (.int ph59), .val (.int ph63), .val (.ref b96)] [(.long ((q1 + ((((ph19 - (1 : Int64)) - q1).toInt32).toInt64)) + (1 : Int64)))]))
                refine o_lload X108 hx rfl (hb hby at_298) rfl ?_
                refine o_lcmp X108 hx rfl (hb hby at_300) ?_
                have hk110 : ((q1 + ((((ph19 - (1 : Int64)) - q1).toInt32).toInt64)) + (1 : Int64)) = ph19 := own_nx _ _ (own_tkX _ _ _ _ (by decide) hc67)
                refine o_ifN (pc' := 304) X108 hx rfl (hb hby at_301) (lcY_eq hk110).2 ?_
                refine o_aload X108 hx rfl (hb hby at_304) rfl rfl ?_
                obtain ⟨cq111, kq111, q111a, q111b, q111c⟩ := isOf hZ ee108 f96_0
                obtain ⟨_, _, ⟨T111, L111, k111, n111⟩, -, X111, ⟨Lc111, hQ111, l111, y111, z111⟩, st111⟩ := X108.virtualBack hx (y := (⟨"tidemark/log/RecordMarks$Span", "baseOffset", "()J"⟩ : MethodName)) (z := (⟨"tidemark/log/RecordMarks$Span", "baseOffset", "()J"⟩ : MethodName)) hown (mvT hZ (hw _ (List.mem_of_getElem? (i := 107) rfl))) (mvT hZ (hw _ (List.mem_of_getElem? (i := 108) rfl))) (notFace_of_selects (args := #[]) (mvT hZ (hw _ (List.mem_of_getElem? (i := 110) rfl)))) (mvT hZ (hw _ (List.mem_of_getElem? (i := 110) rfl))) (mvT hZ (hw _ (List.mem_of_getElem? (i := 109) rfl))) (by decide) (backOf (W := 0) (own_rm14 l Z aA hw [] b96 q1 T96.heap n0 (Nat.le_trans (Nat.le_trans (Nat.le_trans (Nat.le_trans (Nat.le_trans Z0 E21.1) K23.1) K47.1) K92.1) K96.1) f96_1) hZ (hw _ (List.mem_of_getElem? (i := 111) rfl)) (hw _ (List.mem_of_getElem? (i := 80) rfl)) (by decide) (by decide)) q111a q111c (g := (mkF m 306 #[.val (.long q0), .second, .val (.long q1), .second, .val (.long q2), .second, .val (.int p3), .val (.int p4), .val (.long q5), .second, .val (.int z1), .val (.int z3), .val (.int z6), .val (.long z10), .second, .val (.long z15), .second, .val (.long ph19), .second, .val (.ref b21), .val (.long z10), .second, .val (.int (own_f6 b21 ph19 q1 (1 : Int32))), .val (.long z56), .second, .val (.int ph59), .val (.int ph63), .val (.ref b96)] [(.ref b96)])) rfl (by rw [hml]; rfl) (Steps.refl _) (argsL := []) (rest := []) (lenOf own_pd13 rfl) rfl (by show 2 * 0 + _ ≤ _; exact Nat.le_of_eq rfl) (hb hby at_306) (fun _ _ => ⟨rfl, ee108, Nat.le_of_ble_eq_true rfl, Nat.le_of_ble_eq_true rfl⟩)
                dsimp only [Pt.U, Pt.locs, Pt.cells, Pt.slots] at X111 l111 y111 z111 st111 hQ111
                subst l111 y111 z111
                obtain ⟨rfl, N111q, ee111⟩ := hQ111
                have N112 := Fr.app N109 N111q
                refine og_tr st111 ?_
                show OG p e below _ _ (T111.setTop (mkF m 309 #[.val (.long q0), .second, .val (.long q1), .second, .val (.long q2), .second, .val (.int p3), .val (.int p4), .val (.long q5), .second, .val (.int z1), .val (.int z3), .val (.int z6), .val (.long z10), .second, .val (.long z15), .second, .val (.long ph19), .second, .val (.ref b21), .val (.long z10), .second, .val (.int (own_f6 b21 ph19 q1 (1 : Int32))), .val (.long z56), .second, .val (.int ph59), .val (.int ph63), .val (.ref b96)] [(.long q1)]))
                refine o_lloadN X111 hx rfl (hb hby at_309) rfl ?_
                refine o_lcmp X111 hx rfl (hb hby at_310) ?_
                have hk113 : q1 = q1 := rfl
                refine o_ifN (pc' := 314) X111 hx rfl (hb hby at_311) (lcY_eq hk113).2 ?_
                refine o_iconst (z := (1 : Int32)) X111 hx rfl (hb hby at_314) (by decide) ?_
                refine o_goto (pc' := 319) X111 hx (hb hby at_315) (by decide) (by decide) ?_
                exact o_retB X111 hx Bd.returns (own_lv X111 hlk (by decide) (by decide)) (hb hby at_319) (by decide) ⟨rfl, N112⟩
          by_cases hc114 : ph59 = (0 : Int32)
          · skip
            refine o_ifY (pc' := 249) X52 hx (hb hby at_242) ((if0 _ _).trans (teq hc114).1) (by decide) (by decide) ?_
            refine o_iconst (z := (0 : Int32)) X52 hx rfl (hb hby at_249) (by decide) ?_
            have q115 : ph63 = (0 : Int32) := by
              rw [← hph63]
              simp only [if_pos hc114]
            rw [q115] at J64
            exact J64
          · skip
            refine o_ifN (pc' := 245) X52 hx rfl (hb hby at_242) ((if0 _ _).trans (feq hc114).1) ?_
            refine o_iconst (z := (1 : Int32)) X52 hx rfl (hb hby at_245) (by decide) ?_
            refine o_goto (pc' := 250) X52 hx (hb hby at_246) (by decide) (by decide) ?_
            have q116 : ph63 = (1 : Int32) := by
              rw [← hph63]
              simp only [if_neg hc114]
            rw [q116] at J64
            exact J64
        by_cases hc117 : z56 < (-2147483648 : Int64)
        · skip
          refine o_ifY (pc' := 232) X52 hx (hb hby at_216) (lcY_lt hc117).1 (by decide) (by decide) ?_
          refine o_iconst (z := (0 : Int32)) X52 hx rfl (hb hby at_232) (by decide) ?_
          have q118 : ph59 = (0 : Int32) := by
            rw [← hph59]
            simp only [if_pos hc117]
          rw [q118] at J60
          exact J60
        · skip
          refine o_ifN (pc' := 219) X52 hx rfl (hb hby at_216) (lcN_lt hc117).1 ?_
          refine o_lload X52 hx rfl (hb hby at_219) rfl ?_
          refine o_ldc2L X52 hx rfl (hb hby at_221) hZ hown (hw _ (List.mem_of_getElem? (i := 55) rfl)) ?_
          refine o_lcmp X52 hx rfl (hb hby at_224) ?_
          by_cases hc119 : (2147483647 : Int64) < z56
          · skip
            refine o_ifY (pc' := 232) X52 hx (hb hby at_225) (lcY_gt hc119).1 (by decide) (by decide) ?_
            refine o_iconst (z := (0 : Int32)) X52 hx rfl (hb hby at_232) (by decide) ?_
            have q120 : ph59 = (0 : Int32) := by
              rw [← hph59]
              simp only [if_neg hc117, if_pos hc119]
            rw [q120] at J60
            exact J60
          · skip
            refine o_ifN (pc' := 228) X52 hx rfl (hb hby at_225) (lcN_gt hc119).1 ?_
            refine o_iconst (z := (1 : Int32)) X52 hx rfl (hb hby at_228) (by decide) ?_
            refine o_goto (pc' := 233) X52 hx (hb hby at_229) (by decide) (by decide) ?_
            have q121 : ph59 = (1 : Int32) := by
              rw [← hph59]
              simp only [if_neg hc117, if_neg hc119]
            rw [q121] at J60
            exact J60
      · skip
        refine o_icmpN (pc' := 176) X47 hx rfl (hb hby at_173) (flt hc51).1 ?_
        refine o_aload X47 hx rfl (hb hby at_176) rfl rfl ?_
        refine o_iload X47 hx rfl (hb hby at_178) rfl ?_
        refine o_lload X47 hx rfl (hb hby at_180) rfl ?_
        refine o_lload X47 hx rfl (hb hby at_182) rfl ?_
        refine o_lload X47 hx rfl (hb hby at_184) rfl ?_
        by_cases hs122 : (1024 : Int64) < (((q0 + (z6.toInt64)) - q0) - (0 : Int32).toInt64)
        · skip
          have Fc124 : Exa Z T47.heap b21 "tidemark/log/RecordMarks$RunMarking" := (Fc48.keep K47)
          have Fc125 : Exa Z T47.heap b23_0 "tidemark/log/RecordMarks$LaterMarks" := (f23_8.keep K47)
          have Fc126 : Fld Z T47.heap b23_0 "tidemark/log/RecordMarks$LaterMarks" "marks" "[I" (.ref b23_1) := (f23_9.keep K47 (ninS (Ne.symm ne24) nin0))
          have Fc127 : Fld Z T47.heap b23_0 "tidemark/log/RecordMarks$LaterMarks" "count" "I" (.int (0 : Int32)) := (f23_10.keep K47 (ninS (Ne.symm ne24) nin0))
          have Fc128 : Arv Z T47.heap b23_1 k_b23_1 .int (12 : Int32) [(.int (0 : Int32)), (.int (0 : Int32)), (.int (0 : Int32)), (.int (0 : Int32)), (.int (0 : Int32)), (.int (0 : Int32)), (.int (0 : Int32)), (.int (0 : Int32))] (.int (0 : Int32)) := (f23_11.keep K47 (ninS (Ne.symm ne25) nin0))
          have hw_129 : (1024 : Int64) < (((q0 + (z6.toInt64)) - q0) - (0 : Int32).toInt64) := hs122
          obtain ⟨cq123, kq123, q123a, q123b, q123c⟩ := isOf hZ rfl Fc124
          obtain ⟨_, _, ⟨T123, L123, k123, n123⟩, -, X123, ⟨Lc123, hQ123, l123, y123, z123⟩, st123⟩ := X47.virtualBack hx (y := (⟨"tidemark/log/RecordMarks$RunMarking", "add", "(IJJJ)V"⟩ : MethodName)) (z := (⟨"tidemark/log/RecordMarks$RunMarking", "add", "(IJJJ)V"⟩ : MethodName)) hown (mvT hZ (hw _ (List.mem_of_getElem? (i := 29) rfl))) (mvT hZ (hw _ (List.mem_of_getElem? (i := 30) rfl))) (notFace_of_selects (args := #[]) (mvT hZ (hw _ (List.mem_of_getElem? (i := 32) rfl)))) (mvT hZ (hw _ (List.mem_of_getElem? (i := 32) rfl))) (mvT hZ (hw _ (List.mem_of_getElem? (i := 31) rfl))) (by decide) (backOf (W := 0) (own_rmad1t0 l Z aA hw [] b21 z6 z10 z15 q5 b23_0 (own_f5 (-9223372036854775808 : Int64) q5) q0 (q0 + (z6.toInt64)) q1 z10 (0 : Int32) b23_1 k_b23_1 (0 : Int32) (0 : Int32) (0 : Int32) (0 : Int32) (0 : Int32) (0 : Int32) (0 : Int32) (0 : Int32) T47.heap n0 (Nat.le_trans (Nat.le_trans (Nat.le_trans Z0 E21.1) K23.1) K47.1) Fc124 gn21 f47_0 f47_1 f47_2 f47_3 f47_4 f47_5 f47_6 f47_7 Fc125 Fc126 Fc127 Fc128 gnb23_0 gnb23_1 ne24 ne25 nn23_0_1 hw_129) hZ (hw _ (List.mem_of_getElem? (i := 33) rfl)) (hw _ (List.mem_of_getElem? (i := 3) rfl)) (by decide) (by decide)) q123a q123c (g := (mkF m 186 #[.val (.long q0), .second, .val (.long q1), .second, .val (.long q2), .second, .val (.int p3), .val (.int p4), .val (.long q5), .second, .val (.int z1), .val (.int z3), .val (.int z6), .val (.long z10), .second, .val (.long z15), .second, .val (.long ph19), .second, .val (.ref b21), .val (.long z10), .second, .unset, .unset, .unset, .unset, .unset, .unset] [(.long q5), (.long z15), (.long z10), (.int z6), (.ref b21)])) rfl (by rw [hml]; rfl) (Steps.refl _) (argsL := [(.int z6), (.long z10), (.long z15), (.long q5)]) (rest := []) (lenOf own_pd11 rfl) rfl (by show 2 * 0 + _ ≤ _; exact Nat.le_of_eq rfl) (hb hby at_186) (fun _ _ => ⟨rfl, rfl, Nat.le_of_ble_eq_true rfl, Nat.le_of_ble_eq_true rfl⟩)
          dsimp only [Pt.U, Pt.locs, Pt.cells, Pt.slots] at X123 l123 y123 z123 st123 hQ123
          subst l123 y123 z123
          obtain ⟨rfl, N123q, K123, f123_0, f123_1, f123_2, f123_3, f123_4, f123_5, f123_6, f123_7, f123_8, f123_9, f123_10⟩ := hQ123
          have N130 := Fr.app N49 N123q
          have Kp131 : Keep h0 T123.heap [] := Kp50.trans K123 (allS (Or.inr sz21) (allS (Or.inr szb23_0) (allS (Or.inr szb23_1) all0)))
          refine og_tr st123 ?_
          show OG p e below _ _ (T123.setTop (mkF m 189 #[.val (.long q0), .second, .val (.long q1), .second, .val (.long q2), .second, .val (.int p3), .val (.int p4), .val (.long q5), .second, .val (.int z1), .val (.int z3), .val (.int z6), .val (.long z10), .second, .val (.long z15), .second, .val (.long ph19), .second, .val (.ref b21), .val (.long z10), .second, .unset, .unset, .unset, .unset, .unset, .unset] []))
          refine o_lload X123 hx rfl (hb hby at_189) rfl ?_
          refine o_lstore X123 hx rfl (hb hby at_191) (L' := #[.val (.long q0), .second, .val (.long q1), .second, .val (.long q2), .second, .val (.int p3), .val (.int p4), .val (.long q5), .second, .val (.int z1), .val (.int z3), .val (.int z6), .val (.long z10), .second, .val (.long z15), .second, .val (.long ph19), .second, .val (.ref b21), .val (.long z15), .second, .unset, .unset, .unset, .unset, .unset, .unset]) rfl ?_
          refine o_aload X123 hx rfl (hb hby at_193) rfl rfl ?_
          refine o_lload X123 hx rfl (hb hby at_195) rfl ?_
          have Fc133 : Exa Z T123.heap b21 "tidemark/log/RecordMarks$RunMarking" := (Fc124.keep K123)
          obtain ⟨cq132, kq132, q132a, q132b, q132c⟩ := isOf hZ rfl Fc133
          obtain ⟨_, _, ⟨T132, L132, k132, n132⟩, -, X132, ⟨Lc132, hQ132, l132, y132, z132⟩, st132⟩ := X123.virtualBack hx (y := (⟨"tidemark/log/RecordMarks$RunMarking", "takes", "(J)Z"⟩ : MethodName)) (z := (⟨"tidemark/log/RecordMarks$RunMarking", "takes", "(J)Z"⟩ : MethodName)) hown (mvT hZ (hw _ (List.mem_of_getElem? (i := 47) rfl))) (mvT hZ (hw _ (List.mem_of_getElem? (i := 48) rfl))) (notFace_of_selects (args := #[]) (mvT hZ (hw _ (List.mem_of_getElem? (i := 50) rfl)))) (mvT hZ (hw _ (List.mem_of_getElem? (i := 50) rfl))) (mvT hZ (hw _ (List.mem_of_getElem? (i := 49) rfl))) (by decide) (backOf (W := 0) (own_rm6 l Z aA hw [] b21 ph19 q1 (2 : Int32) T123.heap n0 (Nat.le_trans (Nat.le_trans (Nat.le_trans (Nat.le_trans Z0 E21.1) K23.1) K47.1) K123.1) f123_5 f123_4) hZ (hw _ (List.mem_of_getElem? (i := 51) rfl)) (hw _ (List.mem_of_getElem? (i := 3) rfl)) (by decide) (by decide)) q132a q132c (g := (mkF m 197 #[.val (.long q0), .second, .val (.long q1), .second, .val (.long q2), .second, .val (.int p3), .val (.int p4), .val (.long q5), .second, .val (.int z1), .val (.int z3), .val (.int z6), .val (.long z10), .second, .val (.long z15), .second, .val (.long ph19), .second, .val (.ref b21), .val (.long z15), .second, .unset, .unset, .unset, .unset, .unset, .unset] [(.long ph19), (.ref b21)])) rfl (by rw [hml]; rfl) (Steps.refl _) (argsL := [(.long ph19)]) (rest := []) (lenOf own_pd10 rfl) rfl (by show 2 * 0 + _ ≤ _; exact Nat.le_of_eq rfl) (hb hby at_197) (fun _ _ => ⟨rfl, rfl, Nat.le_of_ble_eq_true rfl, Nat.le_of_ble_eq_true rfl⟩)
          dsimp only [Pt.U, Pt.locs, Pt.cells, Pt.slots] at X132 l132 y132 z132 st132 hQ132
          subst l132 y132 z132
          obtain ⟨rfl, N132q, ee132⟩ := hQ132
          have N134 := Fr.app N130 N132q
          refine og_tr st132 ?_
          show OG p e below _ _ (T132.setTop (mkF m 200 #[.val (.long q0), .second, .val (.long q1), .second, .val (.long q2), .second, .val (.int p3), .val (.int p4), .val (.long q5), .second, .val (.int z1), .val (.int z3), .val (.int z6), .val (.long z10), .second, .val (.long z15), .second, .val (.long ph19), .second, .val (.ref b21), .val (.long z15), .second, .unset, .unset, .unset, .unset, .unset, .unset] [(.int (own_f6 b21 ph19 q1 (2 : Int32)))]))
          refine o_istore X132 hx rfl (hb hby at_200) (L' := #[.val (.long q0), .second, .val (.long q1), .second, .val (.long q2), .second, .val (.int p3), .val (.int p4), .val (.long q5), .second, .val (.int z1), .val (.int z3), .val (.int z6), .val (.long z10), .second, .val (.long z15), .second, .val (.long ph19), .second, .val (.ref b21), .val (.long z15), .second, .val (.int (own_f6 b21 ph19 q1 (2 : Int32))), .unset, .unset, .unset, .unset, .unset]) rfl ?_
          refine o_lload X132 hx rfl (hb hby at_202) rfl ?_
          refine o_lconst (z := (1 : Int64)) X132 hx rfl (hb hby at_204) (by decide) ?_
          obtain ⟨z135, hz135⟩ : ∃ z : Int64, ph19 - (1 : Int64) = z := ⟨_, rfl⟩
          refine o_lsub (z := z135) X132 hx rfl (hb hby at_205) hz135 ?_
          refine o_lloadN X132 hx rfl (hb hby at_206) rfl ?_
          obtain ⟨z136, hz136⟩ : ∃ z : Int64, z135 - q1 = z := ⟨_, rfl⟩
          refine o_lsub (z := z136) X132 hx rfl (hb hby at_207) hz136 ?_
          refine o_lstore X132 hx rfl (hb hby at_208) (L' := #[.val (.long q0), .second, .val (.long q1), .second, .val (.long q2), .second, .val (.int p3), .val (.int p4), .val (.long q5), .second, .val (.int z1), .val (.int z3), .val (.int z6), .val (.long z10), .second, .val (.long z15), .second, .val (.long ph19), .second, .val (.ref b21), .val (.long z15), .second, .val (.int (own_f6 b21 ph19 q1 (2 : Int32))), .val (.long z136), .second, .unset, .unset, .unset]) rfl ?_
          refine o_lload X132 hx rfl (hb hby at_210) rfl ?_
          refine o_ldc2L X132 hx rfl (hb hby at_212) hZ hown (hw _ (List.mem_of_getElem? (i := 52) rfl)) ?_
          refine o_lcmp X132 hx rfl (hb hby at_215) ?_
          obtain ⟨ph139, hph139⟩ : ∃ z : Int32, (if z136 < (-2147483648 : Int64) then (0 : Int32) else (if (2147483647 : Int64) < z136 then (0 : Int32) else (1 : Int32))) = z := ⟨_, rfl⟩
          have J140 : OG p e below (FE s room_1.cells room_1.slots) (own_Q0 Z q0 q1 q2 p3 p4 q5 arr h0 n0) (T132.setTop (mkF m 233 #[.val (.long q0), .second, .val (.long q1), .second, .val (.long q2), .second, .val (.int p3), .val (.int p4), .val (.long q5), .second, .val (.int z1), .val (.int z3), .val (.int z6), .val (.long z10), .second, .val (.long z15), .second, .val (.long ph19), .second, .val (.ref b21), .val (.long z15), .second, .val (.int (own_f6 b21 ph19 q1 (2 : Int32))), .val (.long z136), .second, .unset, .unset, .unset] [(.int ph139)])) := by
            refine o_istore X132 hx rfl (hb hby at_233) (L' := #[.val (.long q0), .second, .val (.long q1), .second, .val (.long q2), .second, .val (.int p3), .val (.int p4), .val (.long q5), .second, .val (.int z1), .val (.int z3), .val (.int z6), .val (.long z10), .second, .val (.long z15), .second, .val (.long ph19), .second, .val (.ref b21), .val (.long z15), .second, .val (.int (own_f6 b21 ph19 q1 (2 : Int32))), .val (.long z136), .second, .val (.int ph139), .unset, .unset]) rfl ?_
            refine o_iload X132 hx rfl (hb hby at_235) rfl ?_
            have hk141 : ¬ (z1 = (0 : Int32)) := by
              intro q; have hh := hc28; rw [q] at hh; exact hh (by decide)
            refine o_ifN (pc' := 240) X132 hx rfl (hb hby at_237) ((if0 _ _).trans (feq hk141).1) ?_
            refine o_iload X132 hx rfl (hb hby at_240) rfl ?_
            obtain ⟨ph143, hph143⟩ : ∃ z : Int32, (if ph139 = (0 : Int32) then (0 : Int32) else (1 : Int32)) = z := ⟨_, rfl⟩
            have J144 : OG p e below (FE s room_1.cells room_1.slots) (own_Q0 Z q0 q1 q2 p3 p4 q5 arr h0 n0) (T132.setTop (mkF m 250 #[.val (.long q0), .second, .val (.long q1), .second, .val (.long q2), .second, .val (.int p3), .val (.int p4), .val (.long q5), .second, .val (.int z1), .val (.int z3), .val (.int z6), .val (.long z10), .second, .val (.long z15), .second, .val (.long ph19), .second, .val (.ref b21), .val (.long z15), .second, .val (.int (own_f6 b21 ph19 q1 (2 : Int32))), .val (.long z136), .second, .val (.int ph139), .unset, .unset] [(.int ph143)])) := by
              refine o_istore X132 hx rfl (hb hby at_250) (L' := #[.val (.long q0), .second, .val (.long q1), .second, .val (.long q2), .second, .val (.int p3), .val (.int p4), .val (.long q5), .second, .val (.int z1), .val (.int z3), .val (.int z6), .val (.long z10), .second, .val (.long z15), .second, .val (.long ph19), .second, .val (.ref b21), .val (.long z15), .second, .val (.int (own_f6 b21 ph19 q1 (2 : Int32))), .val (.long z136), .second, .val (.int ph139), .val (.int ph143), .unset]) rfl ?_
              refine o_iload X132 hx rfl (hb hby at_252) rfl ?_
              refine o_iload X132 hx rfl (hb hby at_254) rfl ?_
              have hk145 : (own_f6 b21 ph19 q1 (2 : Int32)) = ph143 := by rw [own_tkN _ _ _ _ (by decide)]; subst hz1 hz2 hz3 hz4 hz5 hz6 hz7 hz8 hz9 hz10 hz11 hz12 hz13 hz14 hz15 hph19 hz135 hz136 hph139 hph143; exact (own_bb _ _).symm
              refine o_icmpY (pc' := 261) X132 hx (hb hby at_256) (teq hk145).1 (by decide) (by decide) ?_
              refine o_iload X132 hx rfl (hb hby at_261) rfl ?_
              have hk146 : ¬ (z1 = (0 : Int32)) := by
                intro q; have hh := hc28; rw [q] at hh; exact hh (by decide)
              refine o_ifN (pc' := 266) X132 hx rfl (hb hby at_263) ((if0 _ _).trans (feq hk146).1) ?_
              refine o_iload X132 hx rfl (hb hby at_266) rfl ?_
              by_cases hc147 : (own_f6 b21 ph19 q1 (2 : Int32)) = (0 : Int32)
              · skip
                refine o_ifN (pc' := 271) X132 hx rfl (hb hby at_268) ((if0 _ _).trans (teq hc147).2) ?_
                refine o_iconst (z := (1 : Int32)) X132 hx rfl (hb hby at_271) (by decide) ?_
                exact o_retB X132 hx Bd.returns (own_lv X132 hlk (by decide) (by decide)) (hb hby at_272) (by decide) ⟨rfl, N134⟩
              · skip
                refine o_ifY (pc' := 273) X132 hx (hb hby at_268) ((if0 _ _).trans (feq hc147).2) (by decide) (by decide) ?_
                refine o_aload X132 hx rfl (hb hby at_273) rfl rfl ?_
                refine o_iload X132 hx rfl (hb hby at_275) rfl ?_
                refine o_lload X132 hx rfl (hb hby at_277) rfl ?_
                refine o_lload X132 hx rfl (hb hby at_279) rfl ?_
                refine o_lload X132 hx rfl (hb hby at_281) rfl ?_
                by_cases hs148 : (1024 : Int64) < ((((q0 + (z6.toInt64)) + (z6.toInt64)) - q0) - (((q0 + (z6.toInt64)) - q0).toInt32).toInt64)
                · skip
                  have Fc150 : Exa Z T123.heap b23_0 "tidemark/log/RecordMarks$LaterMarks" := (Fc125.keep K123)
                  have hw_151 : (1024 : Int64) < ((((q0 + (z6.toInt64)) + (z6.toInt64)) - q0) - (((q0 + (z6.toInt64)) - q0).toInt32).toInt64) := hs148
                  obtain ⟨cq149, kq149, q149a, q149b, q149c⟩ := isOf hZ ee132 Fc133
                  obtain ⟨_, _, ⟨T149, L149, k149, n149⟩, -, X149, ⟨Lc149, hQ149, l149, y149, z149⟩, st149⟩ := X132.virtualBack hx (y := (⟨"tidemark/log/RecordMarks$RunMarking", "add", "(IJJJ)V"⟩ : MethodName)) (z := (⟨"tidemark/log/RecordMarks$RunMarking", "add", "(IJJJ)V"⟩ : MethodName)) hown (mvT hZ (hw _ (List.mem_of_getElem? (i := 29) rfl))) (mvT hZ (hw _ (List.mem_of_getElem? (i := 30) rfl))) (notFace_of_selects (args := #[]) (mvT hZ (hw _ (List.mem_of_getElem? (i := 32) rfl)))) (mvT hZ (hw _ (List.mem_of_getElem? (i := 32) rfl))) (mvT hZ (hw _ (List.mem_of_getElem? (i := 31) rfl))) (by decide) (backOf (W := 0) (own_rmad2t1 l Z aA hw [] b21 z6 z15 ph19 q5 b23_0 (own_f5 (own_f5 (-9223372036854775808 : Int64) q5) q5) q0 ((q0 + (z6.toInt64)) + (z6.toInt64)) q1 z15 (((q0 + (z6.toInt64)) - q0).toInt32) b23_1 k_b23_1 (((q0 + (z6.toInt64)) - q0).toInt32) ((((own_f5 (-9223372036854775808 : Int64) q5).toUInt64 >>> ((32 : Int32) &&& 0x3f).toInt64.toUInt64).toInt64).toInt32) ((own_f5 (-9223372036854775808 : Int64) q5).toInt32) (0 : Int32) (0 : Int32) (0 : Int32) (0 : Int32) (0 : Int32) T123.heap n0 (Nat.le_trans (Nat.le_trans (Nat.le_trans (Nat.le_trans Z0 E21.1) K23.1) K47.1) K123.1) Fc133 gn21 f123_0 f123_1 f123_2 f123_3 f123_4 f123_5 f123_6 f123_7 Fc150 f123_8 f123_9 f123_10 gnb23_0 gnb23_1 ne24 ne25 nn23_0_1 hw_151) hZ (hw _ (List.mem_of_getElem? (i := 33) rfl)) (hw _ (List.mem_of_getElem? (i := 3) rfl)) (by decide) (by decide)) q149a q149c (g := (mkF m 283 #[.val (.long q0), .second, .val (.long q1), .second, .val (.long q2), .second, .val (.int p3), .val (.int p4), .val (.long q5), .second, .val (.int z1), .val (.int z3), .val (.int z6), .val (.long z10), .second, .val (.long z15), .second, .val (.long ph19), .second, .val (.ref b21), .val (.long z15), .second, .val (.int (own_f6 b21 ph19 q1 (2 : Int32))), .val (.long z136), .second, .val (.int ph139), .val (.int ph143), .unset] [(.long q5), (.long ph19), (.long z15), (.int z6), (.ref b21)])) rfl (by rw [hml]; rfl) (Steps.refl _) (argsL := [(.int z6), (.long z15), (.long ph19), (.long q5)]) (rest := []) (lenOf own_pd11 rfl) rfl (by show 2 * 0 + _ ≤ _; exact Nat.le_of_eq rfl) (hb hby at_283) (fun _ _ => ⟨rfl, ee132, Nat.le_of_ble_eq_true rfl, Nat.le_of_ble_eq_true rfl⟩)
                  dsimp only [Pt.U, Pt.locs, Pt.cells, Pt.slots] at X149 l149 y149 z149 st149 hQ149
                  subst l149 y149 z149
                  obtain ⟨rfl, N149q, K149, f149_0, f149_1, f149_2, f149_3, f149_4, f149_5, f149_6, f149_7, f149_8, f149_9, f149_10⟩ := hQ149
                  have N152 := Fr.app N134 N149q
                  have Kp153 : Keep h0 T149.heap [] := Kp131.trans K149 (allS (Or.inr sz21) (allS (Or.inr szb23_0) (allS (Or.inr szb23_1) all0)))
                  refine og_tr st149 ?_
                  show OG p e below _ _ (T149.setTop (mkF m 286 #[.val (.long q0), .second, .val (.long q1), .second, .val (.long q2), .second, .val (.int p3), .val (.int p4), .val (.long q5), .second, .val (.int z1), .val (.int z3), .val (.int z6), .val (.long z10), .second, .val (.long z15), .second, .val (.long ph19), .second, .val (.ref b21), .val (.long z15), .second, .val (.int (own_f6 b21 ph19 q1 (2 : Int32))), .val (.long z136), .second, .val (.int ph139), .val (.int ph143), .unset] []))
                  refine o_aload X149 hx rfl (hb hby at_286) rfl rfl ?_
                  have Fc155 : Exa Z T149.heap b23_0 "tidemark/log/RecordMarks$LaterMarks" := (Fc150.keep K149)
                  have hw_156 : (((ph19 - (1 : Int64)) - q1).toInt32).toInt64 = ((ph19 - (1 : Int64)) - q1) := own_tkX _ _ _ _ (by decide) hc147
                  have Fc157 : Exa Z T149.heap b21 "tidemark/log/RecordMarks$RunMarking" := (Fc133.keep K149)
                  obtain ⟨cq154, kq154, q154a, q154b, q154c⟩ := isOf hZ rfl Fc157
                  obtain ⟨_, _, ⟨T154, L154, k154, n154⟩, -, X154, ⟨Lc154, hQ154, l154, y154, z154⟩, st154⟩ := X149.virtualBack hx (y := (⟨"tidemark/log/RecordMarks$RunMarking", "marks", "()Ltidemark/log/RecordMarks$Span;"⟩ : MethodName)) (z := (⟨"tidemark/log/RecordMarks$RunMarking", "marks", "()Ltidemark/log/RecordMarks$Span;"⟩ : MethodName)) hown (mvT hZ (hw _ (List.mem_of_getElem? (i := 56) rfl))) (mvT hZ (hw _ (List.mem_of_getElem? (i := 57) rfl))) (notFace_of_selects (args := #[]) (mvT hZ (hw _ (List.mem_of_getElem? (i := 59) rfl)))) (mvT hZ (hw _ (List.mem_of_getElem? (i := 59) rfl))) (mvT hZ (hw _ (List.mem_of_getElem? (i := 58) rfl))) (by decide) (backOf (W := 0) (own_rmmk2 l Z aA hw [] b21 b23_0 (own_f5 (own_f5 (own_f5 (-9223372036854775808 : Int64) q5) q5) q5) q0 (((q0 + (z6.toInt64)) + (z6.toInt64)) + (z6.toInt64)) q1 ph19 ((((q0 + (z6.toInt64)) + (z6.toInt64)) - q0).toInt32) (3 : Int32) b23_1 k_b23_1 (((q0 + (z6.toInt64)) - q0).toInt32) ((((own_f5 (-9223372036854775808 : Int64) q5).toUInt64 >>> ((32 : Int32) &&& 0x3f).toInt64.toUInt64).toInt64).toInt32) ((own_f5 (-9223372036854775808 : Int64) q5).toInt32) ((((q0 + (z6.toInt64)) + (z6.toInt64)) - q0).toInt32) ((((own_f5 (own_f5 (-9223372036854775808 : Int64) q5) q5).toUInt64 >>> ((32 : Int32) &&& 0x3f).toInt64.toUInt64).toInt64).toInt32) ((own_f5 (own_f5 (-9223372036854775808 : Int64) q5) q5).toInt32) (0 : Int32) (0 : Int32) T149.heap n0 (Nat.le_trans (Nat.le_trans (Nat.le_trans (Nat.le_trans (Nat.le_trans Z0 E21.1) K23.1) K47.1) K123.1) K149.1) f149_0 f149_1 f149_2 f149_3 f149_4 f149_5 f149_6 f149_7 Fc155 f149_9 f149_8 f149_10 hw_156) hZ (hw _ (List.mem_of_getElem? (i := 60) rfl)) (hw _ (List.mem_of_getElem? (i := 3) rfl)) (by decide) (by decide)) q154a q154c (g := (mkF m 288 #[.val (.long q0), .second, .val (.long q1), .second, .val (.long q2), .second, .val (.int p3), .val (.int p4), .val (.long q5), .second, .val (.int z1), .val (.int z3), .val (.int z6), .val (.long z10), .second, .val (.long z15), .second, .val (.long ph19), .second, .val (.ref b21), .val (.long z15), .second, .val (.int (own_f6 b21 ph19 q1 (2 : Int32))), .val (.long z136), .second, .val (.int ph139), .val (.int ph143), .unset] [(.ref b21)])) rfl (by rw [hml]; rfl) (Steps.refl _) (argsL := []) (rest := []) (lenOf own_pd12 rfl) rfl (by show 2 * 0 + _ ≤ _; exact Nat.le_of_eq rfl) (hb hby at_288) (fun _ _ => ⟨rfl, rfl, Nat.le_of_ble_eq_true rfl, Nat.le_of_ble_eq_true rfl⟩)
                  dsimp only [Pt.U, Pt.locs, Pt.cells, Pt.slots] at X154 l154 y154 z154 st154 hQ154
                  subst l154 y154 z154
                  obtain ⟨b154, rfl, N154q, K154, sq154_0, f154_0, f154_1, f154_2⟩ := hQ154
                  have ne158 : b21 ≠ b154 := Nat.ne_of_lt (Nat.lt_of_lt_of_le Fc157.lt sq154_0)
                  have ne159 : b23_0 ≠ b154 := Nat.ne_of_lt (Nat.lt_of_lt_of_le Fc155.lt sq154_0)
                  have ne160 : b23_1 ≠ b154 := Nat.ne_of_lt (Nat.lt_of_lt_of_le f149_10.lt sq154_0)
                  have gnb154 : n0 ≤ b154 := Nat.le_trans (Nat.le_trans (Nat.le_trans (Nat.le_trans (Nat.le_trans (Nat.le_trans Z0 E21.1) K23.1) K47.1) K123.1) K149.1) sq154_0
                  have szb154 : h0.size ≤ b154 := Nat.le_trans Kp153.1 sq154_0
                  have N161 := Fr.app N152 N154q
                  have Kp162 : Keep h0 T154.heap [] := Kp153.trans K154 all0
                  refine og_tr st154 ?_
                  show OG p e below _ _ (T154.setTop (mkF m 291 #[.val (.long q0), .second, .val (.long q1), .second, .val (.long q2), .second, .val (.int p3), .val (.int p4), .val (.long q5), .second, .val (.int z1), .val (.int z3), .val (.int z6), .val (.long z10), .second, .val (.long z15), .second, .val (.long ph19), .second, .val (.ref b21), .val (.long z15), .second, .val (.int (own_f6 b21 ph19 q1 (2 : Int32))), .val (.long z136), .second, .val (.int ph139), .val (.int ph143), .unset] [(.ref b154)]))
                  refine o_astore X154 hx rfl (hb hby at_291) rfl (L' := #[.val (.long q0), .second, .val (.long q1), .second, .val (.long q2), .second, .val (.int p3), .val (.int p4), .val (.long q5), .second, .val (.int z1), .val (.int z3), .val (.int z6), .val (.long z10), .second, .val (.long z15), .second, .val (.long ph19), .second, .val (.ref b21), .val (.long z15), .second, .val (.int (own_f6 b21 ph19 q1 (2 : Int32))), .val (.long z136), .second, .val (.int ph139), .val (.int ph143), .val (.ref b154)]) rfl ?_
                  refine o_aload X154 hx rfl (hb hby at_293) rfl rfl ?_
                  obtain ⟨cq163, kq163, q163a, q163b, q163c⟩ := isOf hZ rfl f154_0
                  obtain ⟨_, _, ⟨T163, L163, k163, n163⟩, -, X163, ⟨Lc163, hQ163, l163, y163, z163⟩, st163⟩ := X154.virtualBack hx (y := (⟨"tidemark/log/RecordMarks$Span", "nextOffset", "()J"⟩ : MethodName)) (z := (⟨"tidemark/log/RecordMarks$Span", "nextOffset", "()J"⟩ : MethodName)) hown (mvT hZ (hw _ (List.mem_of_getElem? (i := 102) rfl))) (mvT hZ (hw _ (List.mem_of_getElem? (i := 103) rfl))) (notFace_of_selects (args := #[]) (mvT hZ (hw _ (List.mem_of_getElem? (i := 105) rfl)))) (mvT hZ (hw _ (List.mem_of_getElem? (i := 105) rfl))) (mvT hZ (hw _ (List.mem_of_getElem? (i := 104) rfl))) (by decide) (backOf (W := 0) (own_rm13 l Z aA hw [] b154 q1 (((ph19 - (1 : Int64)) - q1).toInt32) T154.heap n0 (Nat.le_trans (Nat.le_trans (Nat.le_trans (Nat.le_trans (Nat.le_trans (Nat.le_trans Z0 E21.1) K23.1) K47.1) K123.1) K149.1) K154.1) f154_1 f154_2) hZ (hw _ (List.mem_of_getElem? (i := 106) rfl)) (hw _ (List.mem_of_getElem? (i := 80) rfl)) (by decide) (by decide)) q163a q163c (g := (mkF m 295 #[.val (.long q0), .second, .val (.long q1), .second, .val (.long q2), .second, .val (.int p3), .val (.int p4), .val (.long q5), .second, .val (.int z1), .val (.int z3), .val (.int z6), .val (.long z10), .second, .val (.long z15), .second, .val (.long ph19), .second, .val (.ref b21), .val (.long z15), .second, .val (.int (own_f6 b21 ph19 q1 (2 : Int32))), .val (.long z136), .second, .val (.int ph139), .val (.int ph143), .val (.ref b154)] [(.ref b154)])) rfl (by rw [hml]; rfl) (Steps.refl _) (argsL := []) (rest := []) (lenOf own_pd13 rfl) rfl (by show 2 * 0 + _ ≤ _; exact Nat.le_of_eq rfl) (hb hby at_295) (fun _ _ => ⟨rfl, rfl, Nat.le_of_ble_eq_true rfl, Nat.le_of_ble_eq_true rfl⟩)
                  dsimp only [Pt.U, Pt.locs, Pt.cells, Pt.slots] at X163 l163 y163 z163 st163 hQ163
                  subst l163 y163 z163
                  obtain ⟨rfl, N163q, ee163⟩ := hQ163
                  have N164 := Fr.app N161 N163q
                  refine og_tr st163 ?_
                  show OG p e below _ _ (T163.setTop (mkF m 298 #[.val (.long q0), .second, .val (.long q1), .second, .val (.long q2), .second, .val (.int p3), .val (.int p4), .val (.long q5), .second, .val (.int z1), .val (.int z3), .val (.int z6), .val (.long z10), .second, .val (.long z15), .second, .val (.long ph19), .second, .val (.ref b21), .val (.long z15), .second, .val (.int (own_f6 b21 ph19 q1 (2 : Int32))), .val (.long z136), .second, .val (.int ph139), .val (.int ph143), .val (.ref b154)] [(.long ((q1 + ((((ph19 - (1 : Int64)) - q1).toInt32).toInt64)) + (1 : Int64)))]))
                  refine o_lload X163 hx rfl (hb hby at_298) rfl ?_
                  refine o_lcmp X163 hx rfl (hb hby at_300) ?_
                  have hk165 : ((q1 + ((((ph19 - (1 : Int64)) - q1).toInt32).toInt64)) + (1 : Int64)) = ph19 := own_nx _ _ (own_tkX _ _ _ _ (by decide) hc147)
                  refine o_ifN (pc' := 304) X163 hx rfl (hb hby at_301) (lcY_eq hk165).2 ?_
                  refine o_aload X163 hx rfl (hb hby at_304) rfl rfl ?_
                  obtain ⟨cq166, kq166, q166a, q166b, q166c⟩ := isOf hZ ee163 f154_0
                  obtain ⟨_, _, ⟨T166, L166, k166, n166⟩, -, X166, ⟨Lc166, hQ166, l166, y166, z166⟩, st166⟩ := X163.virtualBack hx (y := (⟨"tidemark/log/RecordMarks$Span", "baseOffset", "()J"⟩ : MethodName)) (z := (⟨"tidemark/log/RecordMarks$Span", "baseOffset", "()J"⟩ : MethodName)) hown (mvT hZ (hw _ (List.mem_of_getElem? (i := 107) rfl))) (mvT hZ (hw _ (List.mem_of_getElem? (i := 108) rfl))) (notFace_of_selects (args := #[]) (mvT hZ (hw _ (List.mem_of_getElem? (i := 110) rfl)))) (mvT hZ (hw _ (List.mem_of_getElem? (i := 110) rfl))) (mvT hZ (hw _ (List.mem_of_getElem? (i := 109) rfl))) (by decide) (backOf (W := 0) (own_rm14 l Z aA hw [] b154 q1 T154.heap n0 (Nat.le_trans (Nat.le_trans (Nat.le_trans (Nat.le_trans (Nat.le_trans (Nat.le_trans Z0 E21.1) K23.1) K47.1) K123.1) K149.1) K154.1) f154_1) hZ (hw _ (List.mem_of_getElem? (i := 111) rfl)) (hw _ (List.mem_of_getElem? (i := 80) rfl)) (by decide) (by decide)) q166a q166c (g := (mkF m 306 #[.val (.long q0), .second, .val (.long q1), .second, .val (.long q2), .second, .val (.int p3), .val (.int p4), .val (.long q5), .second, .val (.int z1), .val (.int z3), .val (.int z6), .val (.long z10), .second, .val (.long z15), .second, .val (.long ph19), .second, .val (.ref b21), .val (.long z15), .second, .val (.int (own_f6 b21 ph19 q1 (2 : Int32))), .val (.long z136), .second, .val (.int ph139), .val (.int ph143), .val (.ref b154)] [(.ref b154)])) rfl (by rw [hml]; rfl) (Steps.refl _) (argsL := []) (rest := []) (lenOf own_pd13 rfl) rfl (by show 2 * 0 + _ ≤ _; exact Nat.le_of_eq rfl) (hb hby at_306) (fun _ _ => ⟨rfl, ee163, Nat.le_of_ble_eq_true rfl, Nat.le_of_ble_eq_true rfl⟩)
                  dsimp only [Pt.U, Pt.locs, Pt.cells, Pt.slots] at X166 l166 y166 z166 st166 hQ166
                  subst l166 y166 z166
                  obtain ⟨rfl, N166q, ee166⟩ := hQ166
                  have N167 := Fr.app N164 N166q
                  refine og_tr st166 ?_
                  show OG p e below _ _ (T166.setTop (mkF m 309 #[.val (.long q0), .second, .val (.long q1), .second, .val (.long q2), .second, .val (.int p3), .val (.int p4), .val (.long q5), .second, .val (.int z1), .val (.int z3), .val (.int z6), .val (.long z10), .second, .val (.long z15), .second, .val (.long ph19), .second, .val (.ref b21), .val (.long z15), .second, .val (.int (own_f6 b21 ph19 q1 (2 : Int32))), .val (.long z136), .second, .val (.int ph139), .val (.int ph143), .val (.ref b154)] [(.long q1)]))
                  refine o_lloadN X166 hx rfl (hb hby at_309) rfl ?_
                  refine o_lcmp X166 hx rfl (hb hby at_310) ?_
                  have hk168 : q1 = q1 := rfl
                  refine o_ifN (pc' := 314) X166 hx rfl (hb hby at_311) (lcY_eq hk168).2 ?_
                  refine o_iconst (z := (1 : Int32)) X166 hx rfl (hb hby at_314) (by decide) ?_
                  refine o_goto (pc' := 319) X166 hx (hb hby at_315) (by decide) (by decide) ?_
                  exact o_retB X166 hx Bd.returns (own_lv X166 hlk (by decide) (by decide)) (hb hby at_319) (by decide) ⟨rfl, N167⟩
                · skip
                  have hw_170 : ¬ ((1024 : Int64) < ((((q0 + (z6.toInt64)) + (z6.toInt64)) - q0) - (((q0 + (z6.toInt64)) - q0).toInt32).toInt64)) := hs148
                  obtain ⟨cq169, kq169, q169a, q169b, q169c⟩ := isOf hZ ee132 Fc133
                  obtain ⟨_, _, ⟨T169, L169, k169, n169⟩, -, X169, ⟨Lc169, hQ169, l169, y169, z169⟩, st169⟩ := X132.virtualBack hx (y := (⟨"tidemark/log/RecordMarks$RunMarking", "add", "(IJJJ)V"⟩ : MethodName)) (z := (⟨"tidemark/log/RecordMarks$RunMarking", "add", "(IJJJ)V"⟩ : MethodName)) hown (mvT hZ (hw _ (List.mem_of_getElem? (i := 29) rfl))) (mvT hZ (hw _ (List.mem_of_getElem? (i := 30) rfl))) (notFace_of_selects (args := #[]) (mvT hZ (hw _ (List.mem_of_getElem? (i := 32) rfl)))) (mvT hZ (hw _ (List.mem_of_getElem? (i := 32) rfl))) (mvT hZ (hw _ (List.mem_of_getElem? (i := 31) rfl))) (by decide) (backOf (W := 0) (own_rmad2 l Z aA hw [] b21 z6 z15 ph19 q5 b23_0 (own_f5 (own_f5 (-9223372036854775808 : Int64) q5) q5) q0 ((q0 + (z6.toInt64)) + (z6.toInt64)) q1 z15 (((q0 + (z6.toInt64)) - q0).toInt32) T123.heap n0 (Nat.le_trans (Nat.le_trans (Nat.le_trans (Nat.le_trans Z0 E21.1) K23.1) K47.1) K123.1) Fc133 gn21 f123_0 f123_1 f123_2 f123_3 f123_4 f123_5 f123_6 f123_7 hw_170) hZ (hw _ (List.mem_of_getElem? (i := 33) rfl)) (hw _ (List.mem_of_getElem? (i := 3) rfl)) (by decide) (by decide)) q169a q169c (g := (mkF m 283 #[.val (.long q0), .second, .val (.long q1), .second, .val (.long q2), .second, .val (.int p3), .val (.int p4), .val (.long q5), .second, .val (.int z1), .val (.int z3), .val (.int z6), .val (.long z10), .second, .val (.long z15), .second, .val (.long ph19), .second, .val (.ref b21), .val (.long z15), .second, .val (.int (own_f6 b21 ph19 q1 (2 : Int32))), .val (.long z136), .second, .val (.int ph139), .val (.int ph143), .unset] [(.long q5), (.long ph19), (.long z15), (.int z6), (.ref b21)])) rfl (by rw [hml]; rfl) (Steps.refl _) (argsL := [(.int z6), (.long z15), (.long ph19), (.long q5)]) (rest := []) (lenOf own_pd11 rfl) rfl (by show 2 * 0 + _ ≤ _; exact Nat.le_of_eq rfl) (hb hby at_283) (fun _ _ => ⟨rfl, ee132, Nat.le_of_ble_eq_true rfl, Nat.le_of_ble_eq_true rfl⟩)
                  dsimp only [Pt.U, Pt.locs, Pt.cells, Pt.slots] at X169 l169 y169 z169 st169 hQ169
                  subst l169 y169 z169
                  obtain ⟨rfl, N169q, K169, f169_0, f169_1, f169_2, f169_3, f169_4, f169_5, f169_6, f169_7⟩ := hQ169
                  have N171 := Fr.app N134 N169q
                  have Kp172 : Keep h0 T169.heap [] := Kp131.trans K169 (allS (Or.inr sz21) all0)
                  refine og_tr st169 ?_
                  show OG p e below _ _ (T169.setTop (mkF m 286 #[.val (.long q0), .second, .val (.long q1), .second, .val (.long q2), .second, .val (.int p3), .val (.int p4), .val (.long q5), .second, .val (.int z1), .val (.int z3), .val (.int z6), .val (.long z10), .second, .val (.long z15), .second, .val (.long ph19), .second, .val (.ref b21), .val (.long z15), .second, .val (.int (own_f6 b21 ph19 q1 (2 : Int32))), .val (.long z136), .second, .val (.int ph139), .val (.int ph143), .unset] []))
                  refine o_aload X169 hx rfl (hb hby at_286) rfl rfl ?_
                  have Fc174 : Exa Z T169.heap b23_0 "tidemark/log/RecordMarks$LaterMarks" := ((Fc125.keep K123).keep K169)
                  have Fc175 : Fld Z T169.heap b23_0 "tidemark/log/RecordMarks$LaterMarks" "count" "I" (.int (1 : Int32)) := (f123_9.keep K169 (ninS (Ne.symm ne24) nin0))
                  have Fc176 : Fld Z T169.heap b23_0 "tidemark/log/RecordMarks$LaterMarks" "marks" "[I" (.ref b23_1) := (f123_8.keep K169 (ninS (Ne.symm ne24) nin0))
                  have Fc177 : Arv Z T169.heap b23_1 k_b23_1 .int (12 : Int32) [(.int (((q0 + (z6.toInt64)) - q0).toInt32)), (.int ((((own_f5 (-9223372036854775808 : Int64) q5).toUInt64 >>> ((32 : Int32) &&& 0x3f).toInt64.toUInt64).toInt64).toInt32)), (.int ((own_f5 (-9223372036854775808 : Int64) q5).toInt32)), (.int (0 : Int32)), (.int (0 : Int32)), (.int (0 : Int32)), (.int (0 : Int32)), (.int (0 : Int32))] (.int (0 : Int32)) := (f123_10.keep K169 (ninS (Ne.symm ne25) nin0))
                  have hw_178 : (((ph19 - (1 : Int64)) - q1).toInt32).toInt64 = ((ph19 - (1 : Int64)) - q1) := own_tkX _ _ _ _ (by decide) hc147
                  have Fc179 : Exa Z T169.heap b21 "tidemark/log/RecordMarks$RunMarking" := (Fc133.keep K169)
                  obtain ⟨cq173, kq173, q173a, q173b, q173c⟩ := isOf hZ rfl Fc179
                  obtain ⟨_, _, ⟨T173, L173, k173, n173⟩, -, X173, ⟨Lc173, hQ173, l173, y173, z173⟩, st173⟩ := X169.virtualBack hx (y := (⟨"tidemark/log/RecordMarks$RunMarking", "marks", "()Ltidemark/log/RecordMarks$Span;"⟩ : MethodName)) (z := (⟨"tidemark/log/RecordMarks$RunMarking", "marks", "()Ltidemark/log/RecordMarks$Span;"⟩ : MethodName)) hown (mvT hZ (hw _ (List.mem_of_getElem? (i := 56) rfl))) (mvT hZ (hw _ (List.mem_of_getElem? (i := 57) rfl))) (notFace_of_selects (args := #[]) (mvT hZ (hw _ (List.mem_of_getElem? (i := 59) rfl)))) (mvT hZ (hw _ (List.mem_of_getElem? (i := 59) rfl))) (mvT hZ (hw _ (List.mem_of_getElem? (i := 58) rfl))) (by decide) (backOf (W := 0) (own_rmmk1 l Z aA hw [] b21 b23_0 (own_f5 (own_f5 (own_f5 (-9223372036854775808 : Int64) q5) q5) q5) q0 (((q0 + (z6.toInt64)) + (z6.toInt64)) + (z6.toInt64)) q1 ph19 (((q0 + (z6.toInt64)) - q0).toInt32) (3 : Int32) b23_1 k_b23_1 (((q0 + (z6.toInt64)) - q0).toInt32) ((((own_f5 (-9223372036854775808 : Int64) q5).toUInt64 >>> ((32 : Int32) &&& 0x3f).toInt64.toUInt64).toInt64).toInt32) ((own_f5 (-9223372036854775808 : Int64) q5).toInt32) (0 : Int32) (0 : Int32) (0 : Int32) (0 : Int32) (0 : Int32) T169.heap n0 (Nat.le_trans (Nat.le_trans (Nat.le_trans (Nat.le_trans (Nat.le_trans Z0 E21.1) K23.1) K47.1) K123.1) K169.1) f169_0 f169_1 f169_2 f169_3 f169_4 f169_5 f169_6 f169_7 Fc174 Fc175 Fc176 Fc177 hw_178) hZ (hw _ (List.mem_of_getElem? (i := 60) rfl)) (hw _ (List.mem_of_getElem? (i := 3) rfl)) (by decide) (by decide)) q173a q173c (g := (mkF m 288 #[.val (.long q0), .second, .val (.long q1), .second, .val (.long q2), .second, .val (.int p3), .val (.int p4), .val (.long q5), .second, .val (.int z1), .val (.int z3), .val (.int z6), .val (.long z10), .second, .val (.long z15), .second, .val (.long ph19), .second, .val (.ref b21), .val (.long z15), .second, .val (.int (own_f6 b21 ph19 q1 (2 : Int32))), .val (.long z136), .second, .val (.int ph139), .val (.int ph143), .unset] [(.ref b21)])) rfl (by rw [hml]; rfl) (Steps.refl _) (argsL := []) (rest := []) (lenOf own_pd12 rfl) rfl (by show 2 * 0 + _ ≤ _; exact Nat.le_of_eq rfl) (hb hby at_288) (fun _ _ => ⟨rfl, rfl, Nat.le_of_ble_eq_true rfl, Nat.le_of_ble_eq_true rfl⟩)
                  dsimp only [Pt.U, Pt.locs, Pt.cells, Pt.slots] at X173 l173 y173 z173 st173 hQ173
                  subst l173 y173 z173
                  obtain ⟨b173, rfl, N173q, K173, sq173_0, f173_0, f173_1, f173_2⟩ := hQ173
                  have ne180 : b21 ≠ b173 := Nat.ne_of_lt (Nat.lt_of_lt_of_le Fc179.lt sq173_0)
                  have ne181 : b23_0 ≠ b173 := Nat.ne_of_lt (Nat.lt_of_lt_of_le Fc174.lt sq173_0)
                  have ne182 : b23_1 ≠ b173 := Nat.ne_of_lt (Nat.lt_of_lt_of_le Fc177.lt sq173_0)
                  have gnb173 : n0 ≤ b173 := Nat.le_trans (Nat.le_trans (Nat.le_trans (Nat.le_trans (Nat.le_trans (Nat.le_trans Z0 E21.1) K23.1) K47.1) K123.1) K169.1) sq173_0
                  have szb173 : h0.size ≤ b173 := Nat.le_trans Kp172.1 sq173_0
                  have N183 := Fr.app N171 N173q
                  have Kp184 : Keep h0 T173.heap [] := Kp172.trans K173 all0
                  refine og_tr st173 ?_
                  show OG p e below _ _ (T173.setTop (mkF m 291 #[.val (.long q0), .second, .val (.long q1), .second, .val (.long q2), .second, .val (.int p3), .val (.int p4), .val (.long q5), .second, .val (.int z1), .val (.int z3), .val (.int z6), .val (.long z10), .second, .val (.long z15), .second, .val (.long ph19), .second, .val (.ref b21), .val (.long z15), .second, .val (.int (own_f6 b21 ph19 q1 (2 : Int32))), .val (.long z136), .second, .val (.int ph139), .val (.int ph143), .unset] [(.ref b173)]))
                  refine o_astore X173 hx rfl (hb hby at_291) rfl (L' := #[.val (.long q0), .second, .val (.long q1), .second, .val (.long q2), .second, .val (.int p3), .val (.int p4), .val (.long q5), .second, .val (.int z1), .val (.int z3), .val (.int z6), .val (.long z10), .second, .val (.long z15), .second, .val (.long ph19), .second, .val (.ref b21), .val (.long z15), .second, .val (.int (own_f6 b21 ph19 q1 (2 : Int32))), .val (.long z136), .second, .val (.int ph139), .val (.int ph143), .val (.ref b173)]) rfl ?_
                  refine o_aload X173 hx rfl (hb hby at_293) rfl rfl ?_
                  obtain ⟨cq185, kq185, q185a, q185b, q185c⟩ := isOf hZ rfl f173_0
                  obtain ⟨_, _, ⟨T185, L185, k185, n185⟩, -, X185, ⟨Lc185, hQ185, l185, y185, z185⟩, st185⟩ := X173.virtualBack hx (y := (⟨"tidemark/log/RecordMarks$Span", "nextOffset", "()J"⟩ : MethodName)) (z := (⟨"tidemark/log/RecordMarks$Span", "nextOffset", "()J"⟩ : MethodName)) hown (mvT hZ (hw _ (List.mem_of_getElem? (i := 102) rfl))) (mvT hZ (hw _ (List.mem_of_getElem? (i := 103) rfl))) (notFace_of_selects (args := #[]) (mvT hZ (hw _ (List.mem_of_getElem? (i := 105) rfl)))) (mvT hZ (hw _ (List.mem_of_getElem? (i := 105) rfl))) (mvT hZ (hw _ (List.mem_of_getElem? (i := 104) rfl))) (by decide) (backOf (W := 0) (own_rm13 l Z aA hw [] b173 q1 (((ph19 - (1 : Int64)) - q1).toInt32) T173.heap n0 (Nat.le_trans (Nat.le_trans (Nat.le_trans (Nat.le_trans (Nat.le_trans (Nat.le_trans Z0 E21.1) K23.1) K47.1) K123.1) K169.1) K173.1) f173_1 f173_2) hZ (hw _ (List.mem_of_getElem? (i := 106) rfl)) (hw _ (List.mem_of_getElem? (i := 80) rfl)) (by decide) (by decide)) q185a q185c (g := (mkF m 295 #[.val (.long q0), .second, .val (.long q1), .second, .val (.long q2), .second, .val (.int p3), .val (.int p4), .val (.long q5), .second, .val (.int z1), .val (.int z3), .val (.int z6), .val (.long z10), .second, .val (.long z15), .second, .val (.long ph19), .second, .val (.ref b21), .val (.long z15), .second, .val (.int (own_f6 b21 ph19 q1 (2 : Int32))), .val (.long z136), .second, .val (.int ph139), .val (.int ph143), .val (.ref b173)] [(.ref b173)])) rfl (by rw [hml]; rfl) (Steps.refl _) (argsL := []) (rest := []) (lenOf own_pd13 rfl) rfl (by show 2 * 0 + _ ≤ _; exact Nat.le_of_eq rfl) (hb hby at_295) (fun _ _ => ⟨rfl, rfl, Nat.le_of_ble_eq_true rfl, Nat.le_of_ble_eq_true rfl⟩)
                  dsimp only [Pt.U, Pt.locs, Pt.cells, Pt.slots] at X185 l185 y185 z185 st185 hQ185
                  subst l185 y185 z185
                  obtain ⟨rfl, N185q, ee185⟩ := hQ185
                  have N186 := Fr.app N183 N185q
                  refine og_tr st185 ?_
                  show OG p e below _ _ (T185.setTop (mkF m 298 #[.val (.long q0), .second, .val (.long q1), .second, .val (.long q2), .second, .val (.int p3), .val (.int p4), .val (.long q5), .second, .val (.int z1), .val (.int z3), .val (.int z6), .val (.long z10), .second, .val (.long z15), .second, .val (.long ph19), .second, .val (.ref b21), .val (.long z15), .second, .val (.int (own_f6 b21 ph19 q1 (2 : Int32))), .val (.long z136), .second, .val (.int ph139), .val (.int ph143), .val (.ref b173)] [(.long ((q1 + ((((ph19 - (1 : Int64)) - q1).toInt32).toInt64)) + (1 : Int64)))]))
                  refine o_lload X185 hx rfl (hb hby at_298) rfl ?_
                  refine o_lcmp X185 hx rfl (hb hby at_300) ?_
                  have hk187 : ((q1 + ((((ph19 - (1 : Int64)) - q1).toInt32).toInt64)) + (1 : Int64)) = ph19 := own_nx _ _ (own_tkX _ _ _ _ (by decide) hc147)
                  refine o_ifN (pc' := 304) X185 hx rfl (hb hby at_301) (lcY_eq hk187).2 ?_
                  refine o_aload X185 hx rfl (hb hby at_304) rfl rfl ?_
                  obtain ⟨cq188, kq188, q188a, q188b, q188c⟩ := isOf hZ ee185 f173_0
                  obtain ⟨_, _, ⟨T188, L188, k188, n188⟩, -, X188, ⟨Lc188, hQ188, l188, y188, z188⟩, st188⟩ := X185.virtualBack hx (y := (⟨"tidemark/log/RecordMarks$Span", "baseOffset", "()J"⟩ : MethodName)) (z := (⟨"tidemark/log/RecordMarks$Span", "baseOffset", "()J"⟩ : MethodName)) hown (mvT hZ (hw _ (List.mem_of_getElem? (i := 107) rfl))) (mvT hZ (hw _ (List.mem_of_getElem? (i := 108) rfl))) (notFace_of_selects (args := #[]) (mvT hZ (hw _ (List.mem_of_getElem? (i := 110) rfl)))) (mvT hZ (hw _ (List.mem_of_getElem? (i := 110) rfl))) (mvT hZ (hw _ (List.mem_of_getElem? (i := 109) rfl))) (by decide) (backOf (W := 0) (own_rm14 l Z aA hw [] b173 q1 T173.heap n0 (Nat.le_trans (Nat.le_trans (Nat.le_trans (Nat.le_trans (Nat.le_trans (Nat.le_trans Z0 E21.1) K23.1) K47.1) K123.1) K169.1) K173.1) f173_1) hZ (hw _ (List.mem_of_getElem? (i := 111) rfl)) (hw _ (List.mem_of_getElem? (i := 80) rfl)) (by decide) (by decide)) q188a q188c (g := (mkF m 306 #[.val (.long q0), .second, .val (.long q1), .second, .val (.long q2), .second, .val (.int p3), .val (.int p4), .val (.long q5), .second, .val (.int z1), .val (.int z3), .val (.int z6), .val (.long z10), .second, .val (.long z15), .second, .val (.long ph19), .second, .val (.ref b21), .val (.long z15), .second, .val (.int (own_f6 b21 ph19 q1 (2 : Int32))), .val (.long z136), .second, .val (.int ph139), .val (.int ph143), .val (.ref b173)] [(.ref b173)])) rfl (by rw [hml]; rfl) (Steps.refl _) (argsL := []) (rest := []) (lenOf own_pd13 rfl) rfl (by show 2 * 0 + _ ≤ _; exact Nat.le_of_eq rfl) (hb hby at_306) (fun _ _ => ⟨rfl, ee185, Nat.le_of_ble_eq_true rfl, Nat.le_of_ble_eq_true rfl⟩)
                  dsimp only [Pt.U, Pt.locs, Pt.cells, Pt.slots] at X188 l188 y188 z188 st188 hQ188
                  subst l188 y188 z188
                  obtain ⟨rfl, N188q, ee188⟩ := hQ188
                  have N189 := Fr.app N186 N188q
                  refine og_tr st188 ?_
                  show OG p e below _ _ (T188.setTop (mkF m 309 #[.val (.long q0), .second, .val (.long q1), .second, .val (.long q2), .second, .val (.int p3), .val (.int p4), .val (.long q5), .second, .val (.int z1), .val (.int z3), .val (.int z6), .val (.long z10), .second, .val (.long z15), .second, .val (.long ph19), .second, .val (.ref b21), .val (.long z15), .second, .val (.int (own_f6 b21 ph19 q1 (2 : Int32))), .val (.long z136), .second, .val (.int ph139), .val (.int ph143), .val (.ref b173)] [(.long q1)]))
                  refine o_lloadN X188 hx rfl (hb hby at_309) rfl ?_
                  refine o_lcmp X188 hx rfl (hb hby at_310) ?_
                  have hk190 : q1 = q1 := rfl
                  refine o_ifN (pc' := 314) X188 hx rfl (hb hby at_311) (lcY_eq hk190).2 ?_
                  refine o_iconst (z := (1 : Int32)) X188 hx rfl (hb hby at_314) (by decide) ?_
                  refine o_goto (pc' := 319) X188 hx (hb hby at_315) (by decide) (by decide) ?_
                  exact o_retB X188 hx Bd.returns (own_lv X188 hlk (by decide) (by decide)) (hb hby at_319) (by decide) ⟨rfl, N189⟩
            by_cases hc191 : ph139 = (0 : Int32)
            · skip
              refine o_ifY (pc' := 249) X132 hx (hb hby at_242) ((if0 _ _).trans (teq hc191).1) (by decide) (by decide) ?_
              refine o_iconst (z := (0 : Int32)) X132 hx rfl (hb hby at_249) (by decide) ?_
              have q192 : ph143 = (0 : Int32) := by
                rw [← hph143]
                simp only [if_pos hc191]
              rw [q192] at J144
              exact J144
            · skip
              refine o_ifN (pc' := 245) X132 hx rfl (hb hby at_242) ((if0 _ _).trans (feq hc191).1) ?_
              refine o_iconst (z := (1 : Int32)) X132 hx rfl (hb hby at_245) (by decide) ?_
              refine o_goto (pc' := 250) X132 hx (hb hby at_246) (by decide) (by decide) ?_
              have q193 : ph143 = (1 : Int32) := by
                rw [← hph143]
                simp only [if_neg hc191]
              rw [q193] at J144
              exact J144
          by_cases hc194 : z136 < (-2147483648 : Int64)
          · skip
            refine o_ifY (pc' := 232) X132 hx (hb hby at_216) (lcY_lt hc194).1 (by decide) (by decide) ?_
            refine o_iconst (z := (0 : Int32)) X132 hx rfl (hb hby at_232) (by decide) ?_
            have q195 : ph139 = (0 : Int32) := by
              rw [← hph139]
              simp only [if_pos hc194]
            rw [q195] at J140
            exact J140
          · skip
            refine o_ifN (pc' := 219) X132 hx rfl (hb hby at_216) (lcN_lt hc194).1 ?_
            refine o_lload X132 hx rfl (hb hby at_219) rfl ?_
            refine o_ldc2L X132 hx rfl (hb hby at_221) hZ hown (hw _ (List.mem_of_getElem? (i := 55) rfl)) ?_
            refine o_lcmp X132 hx rfl (hb hby at_224) ?_
            by_cases hc196 : (2147483647 : Int64) < z136
            · skip
              refine o_ifY (pc' := 232) X132 hx (hb hby at_225) (lcY_gt hc196).1 (by decide) (by decide) ?_
              refine o_iconst (z := (0 : Int32)) X132 hx rfl (hb hby at_232) (by decide) ?_
              have q197 : ph139 = (0 : Int32) := by
                rw [← hph139]
                simp only [if_neg hc194, if_pos hc196]
              rw [q197] at J140
              exact J140
            · skip
              refine o_ifN (pc' := 228) X132 hx rfl (hb hby at_225) (lcN_gt hc196).1 ?_
              refine o_iconst (z := (1 : Int32)) X132 hx rfl (hb hby at_228) (by decide) ?_
              refine o_goto (pc' := 233) X132 hx (hb hby at_229) (by decide) (by decide) ?_
              have q198 : ph139 = (1 : Int32) := by
                rw [← hph139]
                simp only [if_neg hc194, if_neg hc196]
              rw [q198] at J140
              exact J140
        · skip
          have Fc200 : Exa Z T47.heap b21 "tidemark/log/RecordMarks$RunMarking" := (Fc48.keep K47)
          have hw_201 : ¬ ((1024 : Int64) < (((q0 + (z6.toInt64)) - q0) - (0 : Int32).toInt64)) := hs122
          obtain ⟨cq199, kq199, q199a, q199b, q199c⟩ := isOf hZ rfl Fc200
          obtain ⟨_, _, ⟨T199, L199, k199, n199⟩, -, X199, ⟨Lc199, hQ199, l199, y199, z199⟩, st199⟩ := X47.virtualBack hx (y := (⟨"tidemark/log/RecordMarks$RunMarking", "add", "(IJJJ)V"⟩ : MethodName)) (z := (⟨"tidemark/log/RecordMarks$RunMarking", "add", "(IJJJ)V"⟩ : MethodName)) hown (mvT hZ (hw _ (List.mem_of_getElem? (i := 29) rfl))) (mvT hZ (hw _ (List.mem_of_getElem? (i := 30) rfl))) (notFace_of_selects (args := #[]) (mvT hZ (hw _ (List.mem_of_getElem? (i := 32) rfl)))) (mvT hZ (hw _ (List.mem_of_getElem? (i := 32) rfl))) (mvT hZ (hw _ (List.mem_of_getElem? (i := 31) rfl))) (by decide) (backOf (W := 0) (own_rmad1 l Z aA hw [] b21 z6 z10 z15 q5 b23_0 (own_f5 (-9223372036854775808 : Int64) q5) q0 (q0 + (z6.toInt64)) q1 z10 (0 : Int32) T47.heap n0 (Nat.le_trans (Nat.le_trans (Nat.le_trans Z0 E21.1) K23.1) K47.1) Fc200 gn21 f47_0 f47_1 f47_2 f47_3 f47_4 f47_5 f47_6 f47_7 hw_201) hZ (hw _ (List.mem_of_getElem? (i := 33) rfl)) (hw _ (List.mem_of_getElem? (i := 3) rfl)) (by decide) (by decide)) q199a q199c (g := (mkF m 186 #[.val (.long q0), .second, .val (.long q1), .second, .val (.long q2), .second, .val (.int p3), .val (.int p4), .val (.long q5), .second, .val (.int z1), .val (.int z3), .val (.int z6), .val (.long z10), .second, .val (.long z15), .second, .val (.long ph19), .second, .val (.ref b21), .val (.long z10), .second, .unset, .unset, .unset, .unset, .unset, .unset] [(.long q5), (.long z15), (.long z10), (.int z6), (.ref b21)])) rfl (by rw [hml]; rfl) (Steps.refl _) (argsL := [(.int z6), (.long z10), (.long z15), (.long q5)]) (rest := []) (lenOf own_pd11 rfl) rfl (by show 2 * 0 + _ ≤ _; exact Nat.le_of_eq rfl) (hb hby at_186) (fun _ _ => ⟨rfl, rfl, Nat.le_of_ble_eq_true rfl, Nat.le_of_ble_eq_true rfl⟩)
          dsimp only [Pt.U, Pt.locs, Pt.cells, Pt.slots] at X199 l199 y199 z199 st199 hQ199
          subst l199 y199 z199
          obtain ⟨rfl, N199q, K199, f199_0, f199_1, f199_2, f199_3, f199_4, f199_5, f199_6, f199_7⟩ := hQ199
          have N202 := Fr.app N49 N199q
          have Kp203 : Keep h0 T199.heap [] := Kp50.trans K199 (allS (Or.inr sz21) all0)
          refine og_tr st199 ?_
          show OG p e below _ _ (T199.setTop (mkF m 189 #[.val (.long q0), .second, .val (.long q1), .second, .val (.long q2), .second, .val (.int p3), .val (.int p4), .val (.long q5), .second, .val (.int z1), .val (.int z3), .val (.int z6), .val (.long z10), .second, .val (.long z15), .second, .val (.long ph19), .second, .val (.ref b21), .val (.long z10), .second, .unset, .unset, .unset, .unset, .unset, .unset] []))
          refine o_lload X199 hx rfl (hb hby at_189) rfl ?_
          refine o_lstore X199 hx rfl (hb hby at_191) (L' := #[.val (.long q0), .second, .val (.long q1), .second, .val (.long q2), .second, .val (.int p3), .val (.int p4), .val (.long q5), .second, .val (.int z1), .val (.int z3), .val (.int z6), .val (.long z10), .second, .val (.long z15), .second, .val (.long ph19), .second, .val (.ref b21), .val (.long z15), .second, .unset, .unset, .unset, .unset, .unset, .unset]) rfl ?_
          refine o_aload X199 hx rfl (hb hby at_193) rfl rfl ?_
          refine o_lload X199 hx rfl (hb hby at_195) rfl ?_
          have Fc205 : Exa Z T199.heap b21 "tidemark/log/RecordMarks$RunMarking" := (Fc200.keep K199)
          obtain ⟨cq204, kq204, q204a, q204b, q204c⟩ := isOf hZ rfl Fc205
          obtain ⟨_, _, ⟨T204, L204, k204, n204⟩, -, X204, ⟨Lc204, hQ204, l204, y204, z204⟩, st204⟩ := X199.virtualBack hx (y := (⟨"tidemark/log/RecordMarks$RunMarking", "takes", "(J)Z"⟩ : MethodName)) (z := (⟨"tidemark/log/RecordMarks$RunMarking", "takes", "(J)Z"⟩ : MethodName)) hown (mvT hZ (hw _ (List.mem_of_getElem? (i := 47) rfl))) (mvT hZ (hw _ (List.mem_of_getElem? (i := 48) rfl))) (notFace_of_selects (args := #[]) (mvT hZ (hw _ (List.mem_of_getElem? (i := 50) rfl)))) (mvT hZ (hw _ (List.mem_of_getElem? (i := 50) rfl))) (mvT hZ (hw _ (List.mem_of_getElem? (i := 49) rfl))) (by decide) (backOf (W := 0) (own_rm6 l Z aA hw [] b21 ph19 q1 (2 : Int32) T199.heap n0 (Nat.le_trans (Nat.le_trans (Nat.le_trans (Nat.le_trans Z0 E21.1) K23.1) K47.1) K199.1) f199_5 f199_4) hZ (hw _ (List.mem_of_getElem? (i := 51) rfl)) (hw _ (List.mem_of_getElem? (i := 3) rfl)) (by decide) (by decide)) q204a q204c (g := (mkF m 197 #[.val (.long q0), .second, .val (.long q1), .second, .val (.long q2), .second, .val (.int p3), .val (.int p4), .val (.long q5), .second, .val (.int z1), .val (.int z3), .val (.int z6), .val (.long z10), .second, .val (.long z15), .second, .val (.long ph19), .second, .val (.ref b21), .val (.long z15), .second, .unset, .unset, .unset, .unset, .unset, .unset] [(.long ph19), (.ref b21)])) rfl (by rw [hml]; rfl) (Steps.refl _) (argsL := [(.long ph19)]) (rest := []) (lenOf own_pd10 rfl) rfl (by show 2 * 0 + _ ≤ _; exact Nat.le_of_eq rfl) (hb hby at_197) (fun _ _ => ⟨rfl, rfl, Nat.le_of_ble_eq_true rfl, Nat.le_of_ble_eq_true rfl⟩)
          dsimp only [Pt.U, Pt.locs, Pt.cells, Pt.slots] at X204 l204 y204 z204 st204 hQ204
          subst l204 y204 z204
          obtain ⟨rfl, N204q, ee204⟩ := hQ204
          have N206 := Fr.app N202 N204q
          refine og_tr st204 ?_
          show OG p e below _ _ (T204.setTop (mkF m 200 #[.val (.long q0), .second, .val (.long q1), .second, .val (.long q2), .second, .val (.int p3), .val (.int p4), .val (.long q5), .second, .val (.int z1), .val (.int z3), .val (.int z6), .val (.long z10), .second, .val (.long z15), .second, .val (.long ph19), .second, .val (.ref b21), .val (.long z15), .second, .unset, .unset, .unset, .unset, .unset, .unset] [(.int (own_f6 b21 ph19 q1 (2 : Int32)))]))
          refine o_istore X204 hx rfl (hb hby at_200) (L' := #[.val (.long q0), .second, .val (.long q1), .second, .val (.long q2), .second, .val (.int p3), .val (.int p4), .val (.long q5), .second, .val (.int z1), .val (.int z3), .val (.int z6), .val (.long z10), .second, .val (.long z15), .second, .val (.long ph19), .second, .val (.ref b21), .val (.long z15), .second, .val (.int (own_f6 b21 ph19 q1 (2 : Int32))), .unset, .unset, .unset, .unset, .unset]) rfl ?_
          refine o_lload X204 hx rfl (hb hby at_202) rfl ?_
          refine o_lconst (z := (1 : Int64)) X204 hx rfl (hb hby at_204) (by decide) ?_
          obtain ⟨z207, hz207⟩ : ∃ z : Int64, ph19 - (1 : Int64) = z := ⟨_, rfl⟩
          refine o_lsub (z := z207) X204 hx rfl (hb hby at_205) hz207 ?_
          refine o_lloadN X204 hx rfl (hb hby at_206) rfl ?_
          obtain ⟨z208, hz208⟩ : ∃ z : Int64, z207 - q1 = z := ⟨_, rfl⟩
          refine o_lsub (z := z208) X204 hx rfl (hb hby at_207) hz208 ?_
          refine o_lstore X204 hx rfl (hb hby at_208) (L' := #[.val (.long q0), .second, .val (.long q1), .second, .val (.long q2), .second, .val (.int p3), .val (.int p4), .val (.long q5), .second, .val (.int z1), .val (.int z3), .val (.int z6), .val (.long z10), .second, .val (.long z15), .second, .val (.long ph19), .second, .val (.ref b21), .val (.long z15), .second, .val (.int (own_f6 b21 ph19 q1 (2 : Int32))), .val (.long z208), .second, .unset, .unset, .unset]) rfl ?_
          refine o_lload X204 hx rfl (hb hby at_210) rfl ?_
          refine o_ldc2L X204 hx rfl (hb hby at_212) hZ hown (hw _ (List.mem_of_getElem? (i := 52) rfl)) ?_
          refine o_lcmp X204 hx rfl (hb hby at_215) ?_
          obtain ⟨ph211, hph211⟩ : ∃ z : Int32, (if z208 < (-2147483648 : Int64) then (0 : Int32) else (if (2147483647 : Int64) < z208 then (0 : Int32) else (1 : Int32))) = z := ⟨_, rfl⟩
          have J212 : OG p e below (FE s room_1.cells room_1.slots) (own_Q0 Z q0 q1 q2 p3 p4 q5 arr h0 n0) (T204.setTop (mkF m 233 #[.val (.long q0), .second, .val (.long q1), .second, .val (.long q2), .second, .val (.int p3), .val (.int p4), .val (.long q5), .second, .val (.int z1), .val (.int z3), .val (.int z6), .val (.long z10), .second, .val (.long z15), .second, .val (.long ph19), .second, .val (.ref b21), .val (.long z15), .second, .val (.int (own_f6 b21 ph19 q1 (2 : Int32))), .val (.long z208), .second, .unset, .unset, .unset] [(.int ph211)])) := by
            refine o_istore X204 hx rfl (hb hby at_233) (L' := #[.val (.long q0), .second, .val (.long q1), .second, .val (.long q2), .second, .val (.int p3), .val (.int p4), .val (.long q5), .second, .val (.int z1), .val (.int z3), .val (.int z6), .val (.long z10), .second, .val (.long z15), .second, .val (.long ph19), .second, .val (.ref b21), .val (.long z15), .second, .val (.int (own_f6 b21 ph19 q1 (2 : Int32))), .val (.long z208), .second, .val (.int ph211), .unset, .unset]) rfl ?_
            refine o_iload X204 hx rfl (hb hby at_235) rfl ?_
            have hk213 : ¬ (z1 = (0 : Int32)) := by
              intro q; have hh := hc28; rw [q] at hh; exact hh (by decide)
            refine o_ifN (pc' := 240) X204 hx rfl (hb hby at_237) ((if0 _ _).trans (feq hk213).1) ?_
            refine o_iload X204 hx rfl (hb hby at_240) rfl ?_
            obtain ⟨ph215, hph215⟩ : ∃ z : Int32, (if ph211 = (0 : Int32) then (0 : Int32) else (1 : Int32)) = z := ⟨_, rfl⟩
            have J216 : OG p e below (FE s room_1.cells room_1.slots) (own_Q0 Z q0 q1 q2 p3 p4 q5 arr h0 n0) (T204.setTop (mkF m 250 #[.val (.long q0), .second, .val (.long q1), .second, .val (.long q2), .second, .val (.int p3), .val (.int p4), .val (.long q5), .second, .val (.int z1), .val (.int z3), .val (.int z6), .val (.long z10), .second, .val (.long z15), .second, .val (.long ph19), .second, .val (.ref b21), .val (.long z15), .second, .val (.int (own_f6 b21 ph19 q1 (2 : Int32))), .val (.long z208), .second, .val (.int ph211), .unset, .unset] [(.int ph215)])) := by
              refine o_istore X204 hx rfl (hb hby at_250) (L' := #[.val (.long q0), .second, .val (.long q1), .second, .val (.long q2), .second, .val (.int p3), .val (.int p4), .val (.long q5), .second, .val (.int z1), .val (.int z3), .val (.int z6), .val (.long z10), .second, .val (.long z15), .second, .val (.long ph19), .second, .val (.ref b21), .val (.long z15), .second, .val (.int (own_f6 b21 ph19 q1 (2 : Int32))), .val (.long z208), .second, .val (.int ph211), .val (.int ph215), .unset]) rfl ?_
              refine o_iload X204 hx rfl (hb hby at_252) rfl ?_
              refine o_iload X204 hx rfl (hb hby at_254) rfl ?_
              have hk217 : (own_f6 b21 ph19 q1 (2 : Int32)) = ph215 := by rw [own_tkN _ _ _ _ (by decide)]; subst hz1 hz2 hz3 hz4 hz5 hz6 hz7 hz8 hz9 hz10 hz11 hz12 hz13 hz14 hz15 hph19 hz207 hz208 hph211 hph215; exact (own_bb _ _).symm
              refine o_icmpY (pc' := 261) X204 hx (hb hby at_256) (teq hk217).1 (by decide) (by decide) ?_
              refine o_iload X204 hx rfl (hb hby at_261) rfl ?_
              have hk218 : ¬ (z1 = (0 : Int32)) := by
                intro q; have hh := hc28; rw [q] at hh; exact hh (by decide)
              refine o_ifN (pc' := 266) X204 hx rfl (hb hby at_263) ((if0 _ _).trans (feq hk218).1) ?_
              refine o_iload X204 hx rfl (hb hby at_266) rfl ?_
              by_cases hc219 : (own_f6 b21 ph19 q1 (2 : Int32)) = (0 : Int32)
              · skip
                refine o_ifN (pc' := 271) X204 hx rfl (hb hby at_268) ((if0 _ _).trans (teq hc219).2) ?_
                refine o_iconst (z := (1 : Int32)) X204 hx rfl (hb hby at_271) (by decide) ?_
                exact o_retB X204 hx Bd.returns (own_lv X204 hlk (by decide) (by decide)) (hb hby at_272) (by decide) ⟨rfl, N206⟩
              · skip
                refine o_ifY (pc' := 273) X204 hx (hb hby at_268) ((if0 _ _).trans (feq hc219).2) (by decide) (by decide) ?_
                refine o_aload X204 hx rfl (hb hby at_273) rfl rfl ?_
                refine o_iload X204 hx rfl (hb hby at_275) rfl ?_
                refine o_lload X204 hx rfl (hb hby at_277) rfl ?_
                refine o_lload X204 hx rfl (hb hby at_279) rfl ?_
                refine o_lload X204 hx rfl (hb hby at_281) rfl ?_
                by_cases hs220 : (1024 : Int64) < ((((q0 + (z6.toInt64)) + (z6.toInt64)) - q0) - (0 : Int32).toInt64)
                · skip
                  have Fc222 : Exa Z T199.heap b23_0 "tidemark/log/RecordMarks$LaterMarks" := ((f23_8.keep K47).keep K199)
                  have Fc223 : Fld Z T199.heap b23_0 "tidemark/log/RecordMarks$LaterMarks" "marks" "[I" (.ref b23_1) := ((f23_9.keep K47 (ninS (Ne.symm ne24) nin0)).keep K199 (ninS (Ne.symm ne24) nin0))
                  have Fc224 : Fld Z T199.heap b23_0 "tidemark/log/RecordMarks$LaterMarks" "count" "I" (.int (0 : Int32)) := ((f23_10.keep K47 (ninS (Ne.symm ne24) nin0)).keep K199 (ninS (Ne.symm ne24) nin0))
                  have Fc225 : Arv Z T199.heap b23_1 k_b23_1 .int (12 : Int32) [(.int (0 : Int32)), (.int (0 : Int32)), (.int (0 : Int32)), (.int (0 : Int32)), (.int (0 : Int32)), (.int (0 : Int32)), (.int (0 : Int32)), (.int (0 : Int32))] (.int (0 : Int32)) := ((f23_11.keep K47 (ninS (Ne.symm ne25) nin0)).keep K199 (ninS (Ne.symm ne25) nin0))
                  have hw_226 : (1024 : Int64) < ((((q0 + (z6.toInt64)) + (z6.toInt64)) - q0) - (0 : Int32).toInt64) := hs220
                  obtain ⟨cq221, kq221, q221a, q221b, q221c⟩ := isOf hZ ee204 Fc205
                  obtain ⟨_, _, ⟨T221, L221, k221, n221⟩, -, X221, ⟨Lc221, hQ221, l221, y221, z221⟩, st221⟩ := X204.virtualBack hx (y := (⟨"tidemark/log/RecordMarks$RunMarking", "add", "(IJJJ)V"⟩ : MethodName)) (z := (⟨"tidemark/log/RecordMarks$RunMarking", "add", "(IJJJ)V"⟩ : MethodName)) hown (mvT hZ (hw _ (List.mem_of_getElem? (i := 29) rfl))) (mvT hZ (hw _ (List.mem_of_getElem? (i := 30) rfl))) (notFace_of_selects (args := #[]) (mvT hZ (hw _ (List.mem_of_getElem? (i := 32) rfl)))) (mvT hZ (hw _ (List.mem_of_getElem? (i := 32) rfl))) (mvT hZ (hw _ (List.mem_of_getElem? (i := 31) rfl))) (by decide) (backOf (W := 0) (own_rmad2t0 l Z aA hw [] b21 z6 z15 ph19 q5 b23_0 (own_f5 (own_f5 (-9223372036854775808 : Int64) q5) q5) q0 ((q0 + (z6.toInt64)) + (z6.toInt64)) q1 z15 (0 : Int32) b23_1 k_b23_1 (0 : Int32) (0 : Int32) (0 : Int32) (0 : Int32) (0 : Int32) (0 : Int32) (0 : Int32) (0 : Int32) T199.heap n0 (Nat.le_trans (Nat.le_trans (Nat.le_trans (Nat.le_trans Z0 E21.1) K23.1) K47.1) K199.1) Fc205 gn21 f199_0 f199_1 f199_2 f199_3 f199_4 f199_5 f199_6 f199_7 Fc222 Fc223 Fc224 Fc225 gnb23_0 gnb23_1 ne24 ne25 nn23_0_1 hw_226) hZ (hw _ (List.mem_of_getElem? (i := 33) rfl)) (hw _ (List.mem_of_getElem? (i := 3) rfl)) (by decide) (by decide)) q221a q221c (g := (mkF m 283 #[.val (.long q0), .second, .val (.long q1), .second, .val (.long q2), .second, .val (.int p3), .val (.int p4), .val (.long q5), .second, .val (.int z1), .val (.int z3), .val (.int z6), .val (.long z10), .second, .val (.long z15), .second, .val (.long ph19), .second, .val (.ref b21), .val (.long z15), .second, .val (.int (own_f6 b21 ph19 q1 (2 : Int32))), .val (.long z208), .second, .val (.int ph211), .val (.int ph215), .unset] [(.long q5), (.long ph19), (.long z15), (.int z6), (.ref b21)])) rfl (by rw [hml]; rfl) (Steps.refl _) (argsL := [(.int z6), (.long z15), (.long ph19), (.long q5)]) (rest := []) (lenOf own_pd11 rfl) rfl (by show 2 * 0 + _ ≤ _; exact Nat.le_of_eq rfl) (hb hby at_283) (fun _ _ => ⟨rfl, ee204, Nat.le_of_ble_eq_true rfl, Nat.le_of_ble_eq_true rfl⟩)
                  dsimp only [Pt.U, Pt.locs, Pt.cells, Pt.slots] at X221 l221 y221 z221 st221 hQ221
                  subst l221 y221 z221
                  obtain ⟨rfl, N221q, K221, f221_0, f221_1, f221_2, f221_3, f221_4, f221_5, f221_6, f221_7, f221_8, f221_9, f221_10⟩ := hQ221
                  have N227 := Fr.app N206 N221q
                  have Kp228 : Keep h0 T221.heap [] := Kp203.trans K221 (allS (Or.inr sz21) (allS (Or.inr szb23_0) (allS (Or.inr szb23_1) all0)))
                  refine og_tr st221 ?_
                  show OG p e below _ _ (T221.setTop (mkF m 286 #[.val (.long q0), .second, .val (.long q1), .second, .val (.long q2), .second, .val (.int p3), .val (.int p4), .val (.long q5), .second, .val (.int z1), .val (.int z3), .val (.int z6), .val (.long z10), .second, .val (.long z15), .second, .val (.long ph19), .second, .val (.ref b21), .val (.long z15), .second, .val (.int (own_f6 b21 ph19 q1 (2 : Int32))), .val (.long z208), .second, .val (.int ph211), .val (.int ph215), .unset] []))
                  refine o_aload X221 hx rfl (hb hby at_286) rfl rfl ?_
                  have Fc230 : Exa Z T221.heap b23_0 "tidemark/log/RecordMarks$LaterMarks" := (Fc222.keep K221)
                  have hw_231 : (((ph19 - (1 : Int64)) - q1).toInt32).toInt64 = ((ph19 - (1 : Int64)) - q1) := own_tkX _ _ _ _ (by decide) hc219
                  have Fc232 : Exa Z T221.heap b21 "tidemark/log/RecordMarks$RunMarking" := (Fc205.keep K221)
                  obtain ⟨cq229, kq229, q229a, q229b, q229c⟩ := isOf hZ rfl Fc232
                  obtain ⟨_, _, ⟨T229, L229, k229, n229⟩, -, X229, ⟨Lc229, hQ229, l229, y229, z229⟩, st229⟩ := X221.virtualBack hx (y := (⟨"tidemark/log/RecordMarks$RunMarking", "marks", "()Ltidemark/log/RecordMarks$Span;"⟩ : MethodName)) (z := (⟨"tidemark/log/RecordMarks$RunMarking", "marks", "()Ltidemark/log/RecordMarks$Span;"⟩ : MethodName)) hown (mvT hZ (hw _ (List.mem_of_getElem? (i := 56) rfl))) (mvT hZ (hw _ (List.mem_of_getElem? (i := 57) rfl))) (notFace_of_selects (args := #[]) (mvT hZ (hw _ (List.mem_of_getElem? (i := 59) rfl)))) (mvT hZ (hw _ (List.mem_of_getElem? (i := 59) rfl))) (mvT hZ (hw _ (List.mem_of_getElem? (i := 58) rfl))) (by decide) (backOf (W := 0) (own_rmmk1 l Z aA hw [] b21 b23_0 (own_f5 (own_f5 (own_f5 (-9223372036854775808 : Int64) q5) q5) q5) q0 (((q0 + (z6.toInt64)) + (z6.toInt64)) + (z6.toInt64)) q1 ph19 ((((q0 + (z6.toInt64)) + (z6.toInt64)) - q0).toInt32) (3 : Int32) b23_1 k_b23_1 ((((q0 + (z6.toInt64)) + (z6.toInt64)) - q0).toInt32) ((((own_f5 (own_f5 (-9223372036854775808 : Int64) q5) q5).toUInt64 >>> ((32 : Int32) &&& 0x3f).toInt64.toUInt64).toInt64).toInt32) ((own_f5 (own_f5 (-9223372036854775808 : Int64) q5) q5).toInt32) (0 : Int32) (0 : Int32) (0 : Int32) (0 : Int32) (0 : Int32) T221.heap n0 (Nat.le_trans (Nat.le_trans (Nat.le_trans (Nat.le_trans (Nat.le_trans Z0 E21.1) K23.1) K47.1) K199.1) K221.1) f221_0 f221_1 f221_2 f221_3 f221_4 f221_5 f221_6 f221_7 Fc230 f221_9 f221_8 f221_10 hw_231) hZ (hw _ (List.mem_of_getElem? (i := 60) rfl)) (hw _ (List.mem_of_getElem? (i := 3) rfl)) (by decide) (by decide)) q229a q229c (g := (mkF m 288 #[.val (.long q0), .second, .val (.long q1), .second, .val (.long q2), .second, .val (.int p3), .val (.int p4), .val (.long q5), .second, .val (.int z1), .val (.int z3), .val (.int z6), .val (.long z10), .second, .val (.long z15), .second, .val (.long ph19), .second, .val (.ref b21), .val (.long z15), .second, .val (.int (own_f6 b21 ph19 q1 (2 : Int32))), .val (.long z208), .second, .val (.int ph211), .val (.int ph215), .unset] [(.ref b21)])) rfl (by rw [hml]; rfl) (Steps.refl _) (argsL := []) (rest := []) (lenOf own_pd12 rfl) rfl (by show 2 * 0 + _ ≤ _; exact Nat.le_of_eq rfl) (hb hby at_288) (fun _ _ => ⟨rfl, rfl, Nat.le_of_ble_eq_true rfl, Nat.le_of_ble_eq_true rfl⟩)
                  dsimp only [Pt.U, Pt.locs, Pt.cells, Pt.slots] at X229 l229 y229 z229 st229 hQ229
                  subst l229 y229 z229
                  obtain ⟨b229, rfl, N229q, K229, sq229_0, f229_0, f229_1, f229_2⟩ := hQ229
                  have ne233 : b21 ≠ b229 := Nat.ne_of_lt (Nat.lt_of_lt_of_le Fc232.lt sq229_0)
                  have ne234 : b23_0 ≠ b229 := Nat.ne_of_lt (Nat.lt_of_lt_of_le Fc230.lt sq229_0)
                  have ne235 : b23_1 ≠ b229 := Nat.ne_of_lt (Nat.lt_of_lt_of_le f221_10.lt sq229_0)
                  have gnb229 : n0 ≤ b229 := Nat.le_trans (Nat.le_trans (Nat.le_trans (Nat.le_trans (Nat.le_trans (Nat.le_trans Z0 E21.1) K23.1) K47.1) K199.1) K221.1) sq229_0
                  have szb229 : h0.size ≤ b229 := Nat.le_trans Kp228.1 sq229_0
                  have N236 := Fr.app N227 N229q
                  have Kp237 : Keep h0 T229.heap [] := Kp228.trans K229 all0
                  refine og_tr st229 ?_
                  show OG p e below _ _ (T229.setTop (mkF m 291 #[.val (.long q0), .second, .val (.long q1), .second, .val (.long q2), .second, .val (.int p3), .val (.int p4), .val (.long q5), .second, .val (.int z1), .val (.int z3), .val (.int z6), .val (.long z10), .second, .val (.long z15), .second, .val (.long ph19), .second, .val (.ref b21), .val (.long z15), .second, .val (.int (own_f6 b21 ph19 q1 (2 : Int32))), .val (.long z208), .second, .val (.int ph211), .val (.int ph215), .unset] [(.ref b229)]))
                  refine o_astore X229 hx rfl (hb hby at_291) rfl (L' := #[.val (.long q0), .second, .val (.long q1), .second, .val (.long q2), .second, .val (.int p3), .val (.int p4), .val (.long q5), .second, .val (.int z1), .val (.int z3), .val (.int z6), .val (.long z10), .second, .val (.long z15), .second, .val (.long ph19), .second, .val (.ref b21), .val (.long z15), .second, .val (.int (own_f6 b21 ph19 q1 (2 : Int32))), .val (.long z208), .second, .val (.int ph211), .val (.int ph215), .val (.ref b229)]) rfl ?_
                  refine o_aload X229 hx rfl (hb hby at_293) rfl rfl ?_
                  obtain ⟨cq238, kq238, q238a, q238b, q238c⟩ := isOf hZ rfl f229_0
                  obtain ⟨_, _, ⟨T238, L238, k238, n238⟩, -, X238, ⟨Lc238, hQ238, l238, y238, z238⟩, st238⟩ := X229.virtualBack hx (y := (⟨"tidemark/log/RecordMarks$Span", "nextOffset", "()J"⟩ : MethodName)) (z := (⟨"tidemark/log/RecordMarks$Span", "nextOffset", "()J"⟩ : MethodName)) hown (mvT hZ (hw _ (List.mem_of_getElem? (i := 102) rfl))) (mvT hZ (hw _ (List.mem_of_getElem? (i := 103) rfl))) (notFace_of_selects (args := #[]) (mvT hZ (hw _ (List.mem_of_getElem? (i := 105) rfl)))) (mvT hZ (hw _ (List.mem_of_getElem? (i := 105) rfl))) (mvT hZ (hw _ (List.mem_of_getElem? (i := 104) rfl))) (by decide) (backOf (W := 0) (own_rm13 l Z aA hw [] b229 q1 (((ph19 - (1 : Int64)) - q1).toInt32) T229.heap n0 (Nat.le_trans (Nat.le_trans (Nat.le_trans (Nat.le_trans (Nat.le_trans (Nat.le_trans Z0 E21.1) K23.1) K47.1) K199.1) K221.1) K229.1) f229_1 f229_2) hZ (hw _ (List.mem_of_getElem? (i := 106) rfl)) (hw _ (List.mem_of_getElem? (i := 80) rfl)) (by decide) (by decide)) q238a q238c (g := (mkF m 295 #[.val (.long q0), .second, .val (.long q1), .second, .val (.long q2), .second, .val (.int p3), .val (.int p4), .val (.long q5), .second, .val (.int z1), .val (.int z3), .val (.int z6), .val (.long z10), .second, .val (.long z15), .second, .val (.long ph19), .second, .val (.ref b21), .val (.long z15), .second, .val (.int (own_f6 b21 ph19 q1 (2 : Int32))), .val (.long z208), .second, .val (.int ph211), .val (.int ph215), .val (.ref b229)] [(.ref b229)])) rfl (by rw [hml]; rfl) (Steps.refl _) (argsL := []) (rest := []) (lenOf own_pd13 rfl) rfl (by show 2 * 0 + _ ≤ _; exact Nat.le_of_eq rfl) (hb hby at_295) (fun _ _ => ⟨rfl, rfl, Nat.le_of_ble_eq_true rfl, Nat.le_of_ble_eq_true rfl⟩)
                  dsimp only [Pt.U, Pt.locs, Pt.cells, Pt.slots] at X238 l238 y238 z238 st238 hQ238
                  subst l238 y238 z238
                  obtain ⟨rfl, N238q, ee238⟩ := hQ238
                  have N239 := Fr.app N236 N238q
                  refine og_tr st238 ?_
                  show OG p e below _ _ (T238.setTop (mkF m 298 #[.val (.long q0), .second, .val (.long q1), .second, .val (.long q2), .second, .val (.int p3), .val (.int p4), .val (.long q5), .second, .val (.int z1), .val (.int z3), .val (.int z6), .val (.long z10), .second, .val (.long z15), .second, .val (.long ph19), .second, .val (.ref b21), .val (.long z15), .second, .val (.int (own_f6 b21 ph19 q1 (2 : Int32))), .val (.long z208), .second, .val (.int ph211), .val (.int ph215), .val (.ref b229)] [(.long ((q1 + ((((ph19 - (1 : Int64)) - q1).toInt32).toInt64)) + (1 : Int64)))]))
                  refine o_lload X238 hx rfl (hb hby at_298) rfl ?_
                  refine o_lcmp X238 hx rfl (hb hby at_300) ?_
                  have hk240 : ((q1 + ((((ph19 - (1 : Int64)) - q1).toInt32).toInt64)) + (1 : Int64)) = ph19 := own_nx _ _ (own_tkX _ _ _ _ (by decide) hc219)
                  refine o_ifN (pc' := 304) X238 hx rfl (hb hby at_301) (lcY_eq hk240).2 ?_
                  refine o_aload X238 hx rfl (hb hby at_304) rfl rfl ?_
                  obtain ⟨cq241, kq241, q241a, q241b, q241c⟩ := isOf hZ ee238 f229_0
                  obtain ⟨_, _, ⟨T241, L241, k241, n241⟩, -, X241, ⟨Lc241, hQ241, l241, y241, z241⟩, st241⟩ := X238.virtualBack hx (y := (⟨"tidemark/log/RecordMarks$Span", "baseOffset", "()J"⟩ : MethodName)) (z := (⟨"tidemark/log/RecordMarks$Span", "baseOffset", "()J"⟩ : MethodName)) hown (mvT hZ (hw _ (List.mem_of_getElem? (i := 107) rfl))) (mvT hZ (hw _ (List.mem_of_getElem? (i := 108) rfl))) (notFace_of_selects (args := #[]) (mvT hZ (hw _ (List.mem_of_getElem? (i := 110) rfl)))) (mvT hZ (hw _ (List.mem_of_getElem? (i := 110) rfl))) (mvT hZ (hw _ (List.mem_of_getElem? (i := 109) rfl))) (by decide) (backOf (W := 0) (own_rm14 l Z aA hw [] b229 q1 T229.heap n0 (Nat.le_trans (Nat.le_trans (Nat.le_trans (Nat.le_trans (Nat.le_trans (Nat.le_trans Z0 E21.1) K23.1) K47.1) K199.1) K221.1) K229.1) f229_1) hZ (hw _ (List.mem_of_getElem? (i := 111) rfl)) (hw _ (List.mem_of_getElem? (i := 80) rfl)) (by decide) (by decide)) q241a q241c (g := (mkF m 306 #[.val (.long q0), .second, .val (.long q1), .second, .val (.long q2), .second, .val (.int p3), .val (.int p4), .val (.long q5), .second, .val (.int z1), .val (.int z3), .val (.int z6), .val (.long z10), .second, .val (.long z15), .second, .val (.long ph19), .second, .val (.ref b21), .val (.long z15), .second, .val (.int (own_f6 b21 ph19 q1 (2 : Int32))), .val (.long z208), .second, .val (.int ph211), .val (.int ph215), .val (.ref b229)] [(.ref b229)])) rfl (by rw [hml]; rfl) (Steps.refl _) (argsL := []) (rest := []) (lenOf own_pd13 rfl) rfl (by show 2 * 0 + _ ≤ _; exact Nat.le_of_eq rfl) (hb hby at_306) (fun _ _ => ⟨rfl, ee238, Nat.le_of_ble_eq_true rfl, Nat.le_of_ble_eq_true rfl⟩)
                  dsimp only [Pt.U, Pt.locs, Pt.cells, Pt.slots] at X241 l241 y241 z241 st241 hQ241
                  subst l241 y241 z241
                  obtain ⟨rfl, N241q, ee241⟩ := hQ241
                  have N242 := Fr.app N239 N241q
                  refine og_tr st241 ?_
                  show OG p e below _ _ (T241.setTop (mkF m 309 #[.val (.long q0), .second, .val (.long q1), .second, .val (.long q2), .second, .val (.int p3), .val (.int p4), .val (.long q5), .second, .val (.int z1), .val (.int z3), .val (.int z6), .val (.long z10), .second, .val (.long z15), .second, .val (.long ph19), .second, .val (.ref b21), .val (.long z15), .second, .val (.int (own_f6 b21 ph19 q1 (2 : Int32))), .val (.long z208), .second, .val (.int ph211), .val (.int ph215), .val (.ref b229)] [(.long q1)]))
                  refine o_lloadN X241 hx rfl (hb hby at_309) rfl ?_
                  refine o_lcmp X241 hx rfl (hb hby at_310) ?_
                  have hk243 : q1 = q1 := rfl
                  refine o_ifN (pc' := 314) X241 hx rfl (hb hby at_311) (lcY_eq hk243).2 ?_
                  refine o_iconst (z := (1 : Int32)) X241 hx rfl (hb hby at_314) (by decide) ?_
                  refine o_goto (pc' := 319) X241 hx (hb hby at_315) (by decide) (by decide) ?_
                  exact o_retB X241 hx Bd.returns (own_lv X241 hlk (by decide) (by decide)) (hb hby at_319) (by decide) ⟨rfl, N242⟩
                · skip
                  have hw_245 : ¬ ((1024 : Int64) < ((((q0 + (z6.toInt64)) + (z6.toInt64)) - q0) - (0 : Int32).toInt64)) := hs220
                  obtain ⟨cq244, kq244, q244a, q244b, q244c⟩ := isOf hZ ee204 Fc205
                  obtain ⟨_, _, ⟨T244, L244, k244, n244⟩, -, X244, ⟨Lc244, hQ244, l244, y244, z244⟩, st244⟩ := X204.virtualBack hx (y := (⟨"tidemark/log/RecordMarks$RunMarking", "add", "(IJJJ)V"⟩ : MethodName)) (z := (⟨"tidemark/log/RecordMarks$RunMarking", "add", "(IJJJ)V"⟩ : MethodName)) hown (mvT hZ (hw _ (List.mem_of_getElem? (i := 29) rfl))) (mvT hZ (hw _ (List.mem_of_getElem? (i := 30) rfl))) (notFace_of_selects (args := #[]) (mvT hZ (hw _ (List.mem_of_getElem? (i := 32) rfl)))) (mvT hZ (hw _ (List.mem_of_getElem? (i := 32) rfl))) (mvT hZ (hw _ (List.mem_of_getElem? (i := 31) rfl))) (by decide) (backOf (W := 0) (own_rmad2 l Z aA hw [] b21 z6 z15 ph19 q5 b23_0 (own_f5 (own_f5 (-9223372036854775808 : Int64) q5) q5) q0 ((q0 + (z6.toInt64)) + (z6.toInt64)) q1 z15 (0 : Int32) T199.heap n0 (Nat.le_trans (Nat.le_trans (Nat.le_trans (Nat.le_trans Z0 E21.1) K23.1) K47.1) K199.1) Fc205 gn21 f199_0 f199_1 f199_2 f199_3 f199_4 f199_5 f199_6 f199_7 hw_245) hZ (hw _ (List.mem_of_getElem? (i := 33) rfl)) (hw _ (List.mem_of_getElem? (i := 3) rfl)) (by decide) (by decide)) q244a q244c (g := (mkF m 283 #[.val (.long q0), .second, .val (.long q1), .second, .val (.long q2), .second, .val (.int p3), .val (.int p4), .val (.long q5), .second, .val (.int z1), .val (.int z3), .val (.int z6), .val (.long z10), .second, .val (.long z15), .second, .val (.long ph19), .second, .val (.ref b21), .val (.long z15), .second, .val (.int (own_f6 b21 ph19 q1 (2 : Int32))), .val (.long z208), .second, .val (.int ph211), .val (.int ph215), .unset] [(.long q5), (.long ph19), (.long z15), (.int z6), (.ref b21)])) rfl (by rw [hml]; rfl) (Steps.refl _) (argsL := [(.int z6), (.long z15), (.long ph19), (.long q5)]) (rest := []) (lenOf own_pd11 rfl) rfl (by show 2 * 0 + _ ≤ _; exact Nat.le_of_eq rfl) (hb hby at_283) (fun _ _ => ⟨rfl, ee204, Nat.le_of_ble_eq_true rfl, Nat.le_of_ble_eq_true rfl⟩)
                  dsimp only [Pt.U, Pt.locs, Pt.cells, Pt.slots] at X244 l244 y244 z244 st244 hQ244
                  subst l244 y244 z244
                  obtain ⟨rfl, N244q, K244, f244_0, f244_1, f244_2, f244_3, f244_4, f244_5, f244_6, f244_7⟩ := hQ244
                  have N246 := Fr.app N206 N244q
                  have Kp247 : Keep h0 T244.heap [] := Kp203.trans K244 (allS (Or.inr sz21) all0)
                  refine og_tr st244 ?_
                  show OG p e below _ _ (T244.setTop (mkF m 286 #[.val (.long q0), .second, .val (.long q1), .second, .val (.long q2), .second, .val (.int p3), .val (.int p4), .val (.long q5), .second, .val (.int z1), .val (.int z3), .val (.int z6), .val (.long z10), .second, .val (.long z15), .second, .val (.long ph19), .second, .val (.ref b21), .val (.long z15), .second, .val (.int (own_f6 b21 ph19 q1 (2 : Int32))), .val (.long z208), .second, .val (.int ph211), .val (.int ph215), .unset] []))
                  refine o_aload X244 hx rfl (hb hby at_286) rfl rfl ?_
                  have Fc249 : Exa Z T244.heap b23_0 "tidemark/log/RecordMarks$LaterMarks" := (((f23_8.keep K47).keep K199).keep K244)
                  have Fc250 : Fld Z T244.heap b23_0 "tidemark/log/RecordMarks$LaterMarks" "count" "I" (.int (0 : Int32)) := (((f23_10.keep K47 (ninS (Ne.symm ne24) nin0)).keep K199 (ninS (Ne.symm ne24) nin0)).keep K244 (ninS (Ne.symm ne24) nin0))
                  have Fc251 : Sta Z T244.heap "tidemark/log/RecordMarks" "NO_LATER_MARKS" "[I" (.ref arr) := (own_staK pre0 Kp247)
                  have hw_252 : (((ph19 - (1 : Int64)) - q1).toInt32).toInt64 = ((ph19 - (1 : Int64)) - q1) := own_tkX _ _ _ _ (by decide) hc219
                  have Fc253 : Exa Z T244.heap b21 "tidemark/log/RecordMarks$RunMarking" := (Fc205.keep K244)
                  obtain ⟨cq248, kq248, q248a, q248b, q248c⟩ := isOf hZ rfl Fc253
                  obtain ⟨_, _, ⟨T248, L248, k248, n248⟩, -, X248, ⟨Lc248, hQ248, l248, y248, z248⟩, st248⟩ := X244.virtualBack hx (y := (⟨"tidemark/log/RecordMarks$RunMarking", "marks", "()Ltidemark/log/RecordMarks$Span;"⟩ : MethodName)) (z := (⟨"tidemark/log/RecordMarks$RunMarking", "marks", "()Ltidemark/log/RecordMarks$Span;"⟩ : MethodName)) hown (mvT hZ (hw _ (List.mem_of_getElem? (i := 56) rfl))) (mvT hZ (hw _ (List.mem_of_getElem? (i := 57) rfl))) (notFace_of_selects (args := #[]) (mvT hZ (hw _ (List.mem_of_getElem? (i := 59) rfl)))) (mvT hZ (hw _ (List.mem_of_getElem? (i := 59) rfl))) (mvT hZ (hw _ (List.mem_of_getElem? (i := 58) rfl))) (by decide) (backOf (W := 0) (own_rmmk0 l Z aA hw [] b21 b23_0 (own_f5 (own_f5 (own_f5 (-9223372036854775808 : Int64) q5) q5) q5) q0 (((q0 + (z6.toInt64)) + (z6.toInt64)) + (z6.toInt64)) q1 ph19 (0 : Int32) (3 : Int32) arr T244.heap n0 (Nat.le_trans (Nat.le_trans (Nat.le_trans (Nat.le_trans (Nat.le_trans Z0 E21.1) K23.1) K47.1) K199.1) K244.1) f244_0 f244_1 f244_2 f244_3 f244_4 f244_5 f244_6 f244_7 Fc249 Fc250 Fc251 hw_252) hZ (hw _ (List.mem_of_getElem? (i := 60) rfl)) (hw _ (List.mem_of_getElem? (i := 3) rfl)) (by decide) (by decide)) q248a q248c (g := (mkF m 288 #[.val (.long q0), .second, .val (.long q1), .second, .val (.long q2), .second, .val (.int p3), .val (.int p4), .val (.long q5), .second, .val (.int z1), .val (.int z3), .val (.int z6), .val (.long z10), .second, .val (.long z15), .second, .val (.long ph19), .second, .val (.ref b21), .val (.long z15), .second, .val (.int (own_f6 b21 ph19 q1 (2 : Int32))), .val (.long z208), .second, .val (.int ph211), .val (.int ph215), .unset] [(.ref b21)])) rfl (by rw [hml]; rfl) (Steps.refl _) (argsL := []) (rest := []) (lenOf own_pd12 rfl) rfl (by show 2 * 0 + _ ≤ _; exact Nat.le_of_eq rfl) (hb hby at_288) (fun _ _ => ⟨rfl, rfl, Nat.le_of_ble_eq_true rfl, Nat.le_of_ble_eq_true rfl⟩)
                  dsimp only [Pt.U, Pt.locs, Pt.cells, Pt.slots] at X248 l248 y248 z248 st248 hQ248
                  subst l248 y248 z248
                  obtain ⟨b248, rfl, N248q, K248, sq248_0, f248_0, f248_1, f248_2⟩ := hQ248
                  have ne254 : b21 ≠ b248 := Nat.ne_of_lt (Nat.lt_of_lt_of_le Fc253.lt sq248_0)
                  have ne255 : b23_0 ≠ b248 := Nat.ne_of_lt (Nat.lt_of_lt_of_le Fc249.lt sq248_0)
                  have Fc256 : Arv Z T244.heap b23_1 k_b23_1 .int (12 : Int32) [(.int (0 : Int32)), (.int (0 : Int32)), (.int (0 : Int32)), (.int (0 : Int32)), (.int (0 : Int32)), (.int (0 : Int32)), (.int (0 : Int32)), (.int (0 : Int32))] (.int (0 : Int32)) := (((f23_11.keep K47 (ninS (Ne.symm ne25) nin0)).keep K199 (ninS (Ne.symm ne25) nin0)).keep K244 (ninS (Ne.symm ne25) nin0))
                  have ne257 : b23_1 ≠ b248 := Nat.ne_of_lt (Nat.lt_of_lt_of_le Fc256.lt sq248_0)
                  have gnb248 : n0 ≤ b248 := Nat.le_trans (Nat.le_trans (Nat.le_trans (Nat.le_trans (Nat.le_trans (Nat.le_trans Z0 E21.1) K23.1) K47.1) K199.1) K244.1) sq248_0
                  have szb248 : h0.size ≤ b248 := Nat.le_trans Kp247.1 sq248_0
                  have N258 := Fr.app N246 N248q
                  have Kp259 : Keep h0 T248.heap [] := Kp247.trans K248 all0
                  refine og_tr st248 ?_
                  show OG p e below _ _ (T248.setTop (mkF m 291 #[.val (.long q0), .second, .val (.long q1), .second, .val (.long q2), .second, .val (.int p3), .val (.int p4), .val (.long q5), .second, .val (.int z1), .val (.int z3), .val (.int z6), .val (.long z10), .second, .val (.long z15), .second, .val (.long ph19), .second, .val (.ref b21), .val (.long z15), .second, .val (.int (own_f6 b21 ph19 q1 (2 : Int32))), .val (.long z208), .second, .val (.int ph211), .val (.int ph215), .unset] [(.ref b248)]))
                  refine o_astore X248 hx rfl (hb hby at_291) rfl (L' := #[.val (.long q0), .second, .val (.long q1), .second, .val (.long q2), .second, .val (.int p3), .val (.int p4), .val (.long q5), .second, .val (.int z1), .val (.int z3), .val (.int z6), .val (.long z10), .second, .val (.long z15), .second, .val (.long ph19), .second, .val (.ref b21), .val (.long z15), .second, .val (.int (own_f6 b21 ph19 q1 (2 : Int32))), .val (.long z208), .second, .val (.int ph211), .val (.int ph215), .val (.ref b248)]) rfl ?_
                  refine o_aload X248 hx rfl (hb hby at_293) rfl rfl ?_
                  obtain ⟨cq260, kq260, q260a, q260b, q260c⟩ := isOf hZ rfl f248_0
                  obtain ⟨_, _, ⟨T260, L260, k260, n260⟩, -, X260, ⟨Lc260, hQ260, l260, y260, z260⟩, st260⟩ := X248.virtualBack hx (y := (⟨"tidemark/log/RecordMarks$Span", "nextOffset", "()J"⟩ : MethodName)) (z := (⟨"tidemark/log/RecordMarks$Span", "nextOffset", "()J"⟩ : MethodName)) hown (mvT hZ (hw _ (List.mem_of_getElem? (i := 102) rfl))) (mvT hZ (hw _ (List.mem_of_getElem? (i := 103) rfl))) (notFace_of_selects (args := #[]) (mvT hZ (hw _ (List.mem_of_getElem? (i := 105) rfl)))) (mvT hZ (hw _ (List.mem_of_getElem? (i := 105) rfl))) (mvT hZ (hw _ (List.mem_of_getElem? (i := 104) rfl))) (by decide) (backOf (W := 0) (own_rm13 l Z aA hw [] b248 q1 (((ph19 - (1 : Int64)) - q1).toInt32) T248.heap n0 (Nat.le_trans (Nat.le_trans (Nat.le_trans (Nat.le_trans (Nat.le_trans (Nat.le_trans Z0 E21.1) K23.1) K47.1) K199.1) K244.1) K248.1) f248_1 f248_2) hZ (hw _ (List.mem_of_getElem? (i := 106) rfl)) (hw _ (List.mem_of_getElem? (i := 80) rfl)) (by decide) (by decide)) q260a q260c (g := (mkF m 295 #[.val (.long q0), .second, .val (.long q1), .second, .val (.long q2), .second, .val (.int p3), .val (.int p4), .val (.long q5), .second, .val (.int z1), .val (.int z3), .val (.int z6), .val (.long z10), .second, .val (.long z15), .second, .val (.long ph19), .second, .val (.ref b21), .val (.long z15), .second, .val (.int (own_f6 b21 ph19 q1 (2 : Int32))), .val (.long z208), .second, .val (.int ph211), .val (.int ph215), .val (.ref b248)] [(.ref b248)])) rfl (by rw [hml]; rfl) (Steps.refl _) (argsL := []) (rest := []) (lenOf own_pd13 rfl) rfl (by show 2 * 0 + _ ≤ _; exact Nat.le_of_eq rfl) (hb hby at_295) (fun _ _ => ⟨rfl, rfl, Nat.le_of_ble_eq_true rfl, Nat.le_of_ble_eq_true rfl⟩)
                  dsimp only [Pt.U, Pt.locs, Pt.cells, Pt.slots] at X260 l260 y260 z260 st260 hQ260
                  subst l260 y260 z260
                  obtain ⟨rfl, N260q, ee260⟩ := hQ260
                  have N261 := Fr.app N258 N260q
                  refine og_tr st260 ?_
                  show OG p e below _ _ (T260.setTop (mkF m 298 #[.val (.long q0), .second, .val (.long q1), .second, .val (.long q2), .second, .val (.int p3), .val (.int p4), .val (.long q5), .second, .val (.int z1), .val (.int z3), .val (.int z6), .val (.long z10), .second, .val (.long z15), .second, .val (.long ph19), .second, .val (.ref b21), .val (.long z15), .second, .val (.int (own_f6 b21 ph19 q1 (2 : Int32))), .val (.long z208), .second, .val (.int ph211), .val (.int ph215), .val (.ref b248)] [(.long ((q1 + ((((ph19 - (1 : Int64)) - q1).toInt32).toInt64)) + (1 : Int64)))]))
                  refine o_lload X260 hx rfl (hb hby at_298) rfl ?_
                  refine o_lcmp X260 hx rfl (hb hby at_300) ?_
                  have hk262 : ((q1 + ((((ph19 - (1 : Int64)) - q1).toInt32).toInt64)) + (1 : Int64)) = ph19 := own_nx _ _ (own_tkX _ _ _ _ (by decide) hc219)
                  refine o_ifN (pc' := 304) X260 hx rfl (hb hby at_301) (lcY_eq hk262).2 ?_
                  refine o_aload X260 hx rfl (hb hby at_304) rfl rfl ?_
                  obtain ⟨cq263, kq263, q263a, q263b, q263c⟩ := isOf hZ ee260 f248_0
                  obtain ⟨_, _, ⟨T263, L263, k263, n263⟩, -, X263, ⟨Lc263, hQ263, l263, y263, z263⟩, st263⟩ := X260.virtualBack hx (y := (⟨"tidemark/log/RecordMarks$Span", "baseOffset", "()J"⟩ : MethodName)) (z := (⟨"tidemark/log/RecordMarks$Span", "baseOffset", "()J"⟩ : MethodName)) hown (mvT hZ (hw _ (List.mem_of_getElem? (i := 107) rfl))) (mvT hZ (hw _ (List.mem_of_getElem? (i := 108) rfl))) (notFace_of_selects (args := #[]) (mvT hZ (hw _ (List.mem_of_getElem? (i := 110) rfl)))) (mvT hZ (hw _ (List.mem_of_getElem? (i := 110) rfl))) (mvT hZ (hw _ (List.mem_of_getElem? (i := 109) rfl))) (by decide) (backOf (W := 0) (own_rm14 l Z aA hw [] b248 q1 T248.heap n0 (Nat.le_trans (Nat.le_trans (Nat.le_trans (Nat.le_trans (Nat.le_trans (Nat.le_trans Z0 E21.1) K23.1) K47.1) K199.1) K244.1) K248.1) f248_1) hZ (hw _ (List.mem_of_getElem? (i := 111) rfl)) (hw _ (List.mem_of_getElem? (i := 80) rfl)) (by decide) (by decide)) q263a q263c (g := (mkF m 306 #[.val (.long q0), .second, .val (.long q1), .second, .val (.long q2), .second, .val (.int p3), .val (.int p4), .val (.long q5), .second, .val (.int z1), .val (.int z3), .val (.int z6), .val (.long z10), .second, .val (.long z15), .second, .val (.long ph19), .second, .val (.ref b21), .val (.long z15), .second, .val (.int (own_f6 b21 ph19 q1 (2 : Int32))), .val (.long z208), .second, .val (.int ph211), .val (.int ph215), .val (.ref b248)] [(.ref b248)])) rfl (by rw [hml]; rfl) (Steps.refl _) (argsL := []) (rest := []) (lenOf own_pd13 rfl) rfl (by show 2 * 0 + _ ≤ _; exact Nat.le_of_eq rfl) (hb hby at_306) (fun _ _ => ⟨rfl, ee260, Nat.le_of_ble_eq_true rfl, Nat.le_of_ble_eq_true rfl⟩)
                  dsimp only [Pt.U, Pt.locs, Pt.cells, Pt.slots] at X263 l263 y263 z263 st263 hQ263
                  subst l263 y263 z263
                  obtain ⟨rfl, N263q, ee263⟩ := hQ263
                  have N264 := Fr.app N261 N263q
                  refine og_tr st263 ?_
                  show OG p e below _ _ (T263.setTop (mkF m 309 #[.val (.long q0), .second, .val (.long q1), .second, .val (.long q2), .second, .val (.int p3), .val (.int p4), .val (.long q5), .second, .val (.int z1), .val (.int z3), .val (.int z6), .val (.long z10), .second, .val (.long z15), .second, .val (.long ph19), .second, .val (.ref b21), .val (.long z15), .second, .val (.int (own_f6 b21 ph19 q1 (2 : Int32))), .val (.long z208), .second, .val (.int ph211), .val (.int ph215), .val (.ref b248)] [(.long q1)]))
                  refine o_lloadN X263 hx rfl (hb hby at_309) rfl ?_
                  refine o_lcmp X263 hx rfl (hb hby at_310) ?_
                  have hk265 : q1 = q1 := rfl
                  refine o_ifN (pc' := 314) X263 hx rfl (hb hby at_311) (lcY_eq hk265).2 ?_
                  refine o_iconst (z := (1 : Int32)) X263 hx rfl (hb hby at_314) (by decide) ?_
                  refine o_goto (pc' := 319) X263 hx (hb hby at_315) (by decide) (by decide) ?_
                  exact o_retB X263 hx Bd.returns (own_lv X263 hlk (by decide) (by decide)) (hb hby at_319) (by decide) ⟨rfl, N264⟩
            by_cases hc266 : ph211 = (0 : Int32)
            · skip
              refine o_ifY (pc' := 249) X204 hx (hb hby at_242) ((if0 _ _).trans (teq hc266).1) (by decide) (by decide) ?_
              refine o_iconst (z := (0 : Int32)) X204 hx rfl (hb hby at_249) (by decide) ?_
              have q267 : ph215 = (0 : Int32) := by
                rw [← hph215]
                simp only [if_pos hc266]
              rw [q267] at J216
              exact J216
            · skip
              refine o_ifN (pc' := 245) X204 hx rfl (hb hby at_242) ((if0 _ _).trans (feq hc266).1) ?_
              refine o_iconst (z := (1 : Int32)) X204 hx rfl (hb hby at_245) (by decide) ?_
              refine o_goto (pc' := 250) X204 hx (hb hby at_246) (by decide) (by decide) ?_
              have q268 : ph215 = (1 : Int32) := by
                rw [← hph215]
                simp only [if_neg hc266]
              rw [q268] at J216
              exact J216
          by_cases hc269 : z208 < (-2147483648 : Int64)
          · skip
            refine o_ifY (pc' := 232) X204 hx (hb hby at_216) (lcY_lt hc269).1 (by decide) (by decide) ?_
            refine o_iconst (z := (0 : Int32)) X204 hx rfl (hb hby at_232) (by decide) ?_
            have q270 : ph211 = (0 : Int32) := by
              rw [← hph211]
              simp only [if_pos hc269]
            rw [q270] at J212
            exact J212
          · skip
            refine o_ifN (pc' := 219) X204 hx rfl (hb hby at_216) (lcN_lt hc269).1 ?_
            refine o_lload X204 hx rfl (hb hby at_219) rfl ?_
            refine o_ldc2L X204 hx rfl (hb hby at_221) hZ hown (hw _ (List.mem_of_getElem? (i := 55) rfl)) ?_
            refine o_lcmp X204 hx rfl (hb hby at_224) ?_
            by_cases hc271 : (2147483647 : Int64) < z208
            · skip
              refine o_ifY (pc' := 232) X204 hx (hb hby at_225) (lcY_gt hc271).1 (by decide) (by decide) ?_
              refine o_iconst (z := (0 : Int32)) X204 hx rfl (hb hby at_232) (by decide) ?_
              have q272 : ph211 = (0 : Int32) := by
                rw [← hph211]
                simp only [if_neg hc269, if_pos hc271]
              rw [q272] at J212
              exact J212
            · skip
              refine o_ifN (pc' := 228) X204 hx rfl (hb hby at_225) (lcN_gt hc271).1 ?_
              refine o_iconst (z := (1 : Int32)) X204 hx rfl (hb hby at_228) (by decide) ?_
              refine o_goto (pc' := 233) X204 hx (hb hby at_229) (by decide) (by decide) ?_
              have q273 : ph211 = (1 : Int32) := by
                rw [← hph211]
                simp only [if_neg hc269, if_neg hc271]
              rw [q273] at J212
              exact J212
  by_cases hc274 : z3 = (0 : Int32)
  · skip
    refine o_ifN (pc' := 60) X0 hx rfl (hb hby at_57) ((if0 _ _).trans (teq hc274).2) ?_
    refine o_lload X0 hx rfl (hb hby at_60) rfl ?_
    refine o_lstore X0 hx rfl (hb hby at_62) (L' := #[.val (.long q0), .second, .val (.long q1), .second, .val (.long q2), .second, .val (.int p3), .val (.int p4), .val (.long q5), .second, .val (.int z1), .val (.int z3), .val (.int z6), .val (.long z10), .second, .val (.long z15), .second, .val (.long q2), .second, .unset, .unset, .unset, .unset, .unset, .unset, .unset, .unset, .unset]) rfl ?_
    refine o_goto (pc' := 135) X0 hx (hb hby at_64) (by decide) (by decide) ?_
    have q275 : ph19 = q2 := by
      rw [← hph19]
      simp only [if_pos hc274]
    rw [q275] at J20
    exact J20
  · skip
    refine o_ifY (pc' := 67) X0 hx (hb hby at_57) ((if0 _ _).trans (feq hc274).2) (by decide) (by decide) ?_
    refine o_iload X0 hx rfl (hb hby at_67) rfl ?_
    refine o_iconst (z := (1 : Int32)) X0 hx rfl (hb hby at_69) (by decide) ?_
    by_cases hc276 : z3 = (1 : Int32)
    · skip
      refine o_icmpN (pc' := 73) X0 hx rfl (hb hby at_70) (teq hc276).2 ?_
      refine o_lloadN X0 hx rfl (hb hby at_73) rfl ?_
      refine o_lconst (z := (1 : Int64)) X0 hx rfl (hb hby at_74) (by decide) ?_
      refine o_ladd (z := (q1 + (1 : Int64))) X0 hx rfl (hb hby at_75) rfl ?_
      refine o_lload X0 hx rfl (hb hby at_76) rfl ?_
      refine o_l2i (z := (q2.toInt32)) X0 hx rfl (hb hby at_78) rfl ?_
      refine o_i2l (z := ((q2.toInt32).toInt64)) X0 hx rfl (hb hby at_79) rfl ?_
      refine o_ladd (z := ((q1 + (1 : Int64)) + ((q2.toInt32).toInt64))) X0 hx rfl (hb hby at_80) rfl ?_
      refine o_lstore X0 hx rfl (hb hby at_81) (L' := #[.val (.long q0), .second, .val (.long q1), .second, .val (.long q2), .second, .val (.int p3), .val (.int p4), .val (.long q5), .second, .val (.int z1), .val (.int z3), .val (.int z6), .val (.long z10), .second, .val (.long z15), .second, .val (.long ((q1 + (1 : Int64)) + ((q2.toInt32).toInt64))), .second, .unset, .unset, .unset, .unset, .unset, .unset, .unset, .unset, .unset]) rfl ?_
      refine o_goto (pc' := 135) X0 hx (hb hby at_83) (by decide) (by decide) ?_
      have q277 : ph19 = ((q1 + (1 : Int64)) + ((q2.toInt32).toInt64)) := by
        rw [← hph19]
        simp only [if_neg hc274, if_pos hc276]
      rw [q277] at J20
      exact J20
    · skip
      refine o_icmpY (pc' := 86) X0 hx (hb hby at_70) (feq hc276).2 (by decide) (by decide) ?_
      refine o_iload X0 hx rfl (hb hby at_86) rfl ?_
      refine o_iconst (z := (2 : Int32)) X0 hx rfl (hb hby at_88) (by decide) ?_
      by_cases hc278 : z3 = (2 : Int32)
      · skip
        refine o_icmpN (pc' := 92) X0 hx rfl (hb hby at_89) (teq hc278).2 ?_
        refine o_lloadN X0 hx rfl (hb hby at_92) rfl ?_
        refine o_lconst (z := (1 : Int64)) X0 hx rfl (hb hby at_93) (by decide) ?_
        refine o_ladd (z := (q1 + (1 : Int64))) X0 hx rfl (hb hby at_94) rfl ?_
        refine o_ldc2L X0 hx rfl (hb hby at_95) hZ hown (hw _ (List.mem_of_getElem? (i := 55) rfl)) ?_
        refine o_ladd (z := ((q1 + (1 : Int64)) + (2147483647 : Int64))) X0 hx rfl (hb hby at_98) rfl ?_
        refine o_lload X0 hx rfl (hb hby at_99) rfl ?_
        refine o_ldc2L X0 hx rfl (hb hby at_101) hZ hown (hw _ (List.mem_of_getElem? (i := 53) rfl)) ?_
        refine o_land (z := (q2 &&& (7 : Int64))) X0 hx rfl (hb hby at_104) rfl ?_
        refine o_ladd (z := (((q1 + (1 : Int64)) + (2147483647 : Int64)) + (q2 &&& (7 : Int64)))) X0 hx rfl (hb hby at_105) rfl ?_
        refine o_ldc2L X0 hx rfl (hb hby at_106) hZ hown (hw _ (List.mem_of_getElem? (i := 117) rfl)) ?_
        refine o_lsub (z := ((((q1 + (1 : Int64)) + (2147483647 : Int64)) + (q2 &&& (7 : Int64))) - (3 : Int64))) X0 hx rfl (hb hby at_109) rfl ?_
        refine o_lstore X0 hx rfl (hb hby at_110) (L' := #[.val (.long q0), .second, .val (.long q1), .second, .val (.long q2), .second, .val (.int p3), .val (.int p4), .val (.long q5), .second, .val (.int z1), .val (.int z3), .val (.int z6), .val (.long z10), .second, .val (.long z15), .second, .val (.long ((((q1 + (1 : Int64)) + (2147483647 : Int64)) + (q2 &&& (7 : Int64))) - (3 : Int64))), .second, .unset, .unset, .unset, .unset, .unset, .unset, .unset, .unset, .unset]) rfl ?_
        refine o_goto (pc' := 135) X0 hx (hb hby at_112) (by decide) (by decide) ?_
        have q279 : ph19 = ((((q1 + (1 : Int64)) + (2147483647 : Int64)) + (q2 &&& (7 : Int64))) - (3 : Int64)) := by
          rw [← hph19]
          simp only [if_neg hc274, if_neg hc276, if_pos hc278]
        rw [q279] at J20
        exact J20
      · skip
        refine o_icmpY (pc' := 115) X0 hx (hb hby at_89) (feq hc278).2 (by decide) (by decide) ?_
        refine o_lloadN X0 hx rfl (hb hby at_115) rfl ?_
        refine o_lconst (z := (1 : Int64)) X0 hx rfl (hb hby at_116) (by decide) ?_
        refine o_ladd (z := (q1 + (1 : Int64))) X0 hx rfl (hb hby at_117) rfl ?_
        refine o_ldc2L X0 hx rfl (hb hby at_118) hZ hown (hw _ (List.mem_of_getElem? (i := 52) rfl)) ?_
        refine o_ladd (z := ((q1 + (1 : Int64)) + (-2147483648 : Int64))) X0 hx rfl (hb hby at_121) rfl ?_
        refine o_lload X0 hx rfl (hb hby at_122) rfl ?_
        refine o_ldc2L X0 hx rfl (hb hby at_124) hZ hown (hw _ (List.mem_of_getElem? (i := 53) rfl)) ?_
        refine o_land (z := (q2 &&& (7 : Int64))) X0 hx rfl (hb hby at_127) rfl ?_
        refine o_ladd (z := (((q1 + (1 : Int64)) + (-2147483648 : Int64)) + (q2 &&& (7 : Int64)))) X0 hx rfl (hb hby at_128) rfl ?_
        refine o_ldc2L X0 hx rfl (hb hby at_129) hZ hown (hw _ (List.mem_of_getElem? (i := 54) rfl)) ?_
        refine o_lsub (z := ((((q1 + (1 : Int64)) + (-2147483648 : Int64)) + (q2 &&& (7 : Int64))) - (4 : Int64))) X0 hx rfl (hb hby at_132) rfl ?_
        refine o_lstore X0 hx rfl (hb hby at_133) (L' := #[.val (.long q0), .second, .val (.long q1), .second, .val (.long q2), .second, .val (.int p3), .val (.int p4), .val (.long q5), .second, .val (.int z1), .val (.int z3), .val (.int z6), .val (.long z10), .second, .val (.long z15), .second, .val (.long ((((q1 + (1 : Int64)) + (-2147483648 : Int64)) + (q2 &&& (7 : Int64))) - (4 : Int64))), .second, .unset, .unset, .unset, .unset, .unset, .unset, .unset, .unset, .unset]) rfl ?_
        have q280 : ph19 = ((((q1 + (1 : Int64)) + (-2147483648 : Int64)) + (q2 &&& (7 : Int64))) - (4 : Int64)) := by
          rw [← hph19]
          simp only [if_neg hc274, if_neg hc276, if_neg hc278]
        rw [q280] at J20
        exact J20
set_option maxRecDepth 65536 in
set_option maxHeartbeats 40000000 in
theorem own_comes {Post : Tables → Env → Array Value → State → Outcome → State → Prop} (hpost : ∀ tb e args s v u, (limb_1_1.after args s (.returned v) u = true ∧ limb_1_2.after args s (.returned v) u = true ∧ True) → FrameEnd s (.returned v) u (Jvm.fieldLocs frame_1_writes args s ++ Jvm.arrayLocs frame_1_arrays args s ++ Jvm.staticLocs frame_1_statics s) 24 192 → Post tb e args s (.returned v) u) :
    ArmFor flags0 classFile x code maxLocals ret World_1 tables_1 room_1 Calls_1 rest_1 Pre_1 Post := by
  intro l hfl _ _ p e ha hc hk s m args below hf hA hF happ hP
  obtain ⟨hcalls, hrest, hpre⟩ := hP
  obtain ⟨-, -, -, hnamed, -, -, -, hat⟩ := (Spec.applies_iff hf).mp happ
  obtain ⟨hg, hn⟩ := and_e (Cond.before_iff.mp (show (Jvm.Cond.and given_1 narrow_1).before args s = true from hpre))
  obtain ⟨g0, gr0⟩ := and_e hg
  obtain ⟨gi0, gr1⟩ := and_e gr0
  obtain ⟨gi1, gr2⟩ := and_e gr1
  obtain ⟨gi2, gr3⟩ := and_e gr2
  obtain ⟨gi3, gr4⟩ := and_e gr3
  obtain ⟨gi4, gr5⟩ := and_e gr4
  have gi5 := gr5
  obtain ⟨w0, w1, w2, w3, w4, w5, rfl⟩ : ∃ w0 w1 w2 w3 w4 w5 : Value, args = #[w0, w1, w2, w3, w4, w5] := by
    have hs : args.size = 6 := by simpa [Cond.value, given_1] using g0
    obtain ⟨L⟩ := args
    match L, hs with
    | [w0, w1, w2, w3, w4, w5], _ => exact ⟨w0, w1, w2, w3, w4, w5, rfl⟩
  have hw := fun d (hd : d ∈ tables_1) => atoms_spec (ws := Jvm.Cond.code x code maxLocals ret :: tables_1) hat d (List.mem_cons_of_mem _ hd)
  have hfit : Fit s := fun {y c} hc i hi => by
    obtain ⟨ha, rfl⟩ := Array.getElem?_eq_some_iff.mp hc
    have q := List.all_eq_true.mp ((Array.all_eq_true_iff_forall_mem.mp hF) _ (Array.getElem_mem ha)) i (List.mem_range.mpr hi)
    simpa [Array.getElem?_eq_getElem hi] using q
  obtain ⟨i0, ei0⟩ := isL_v gi0
  obtain rfl : w0 = (.long i0) := Option.some.inj ei0
  obtain ⟨i1, ei1⟩ := isL_v gi1
  obtain rfl : w1 = (.long i1) := Option.some.inj ei1
  obtain ⟨i2, ei2⟩ := isL_v gi2
  obtain rfl : w2 = (.long i2) := Option.some.inj ei2
  obtain ⟨i3, ei3⟩ := is_v gi3
  obtain rfl : w3 = (.int i3) := Option.some.inj ei3
  obtain ⟨i4, ei4⟩ := is_v gi4
  obtain rfl : w4 = (.int i4) := Option.some.inj ei4
  obtain ⟨i5, ei5⟩ := isL_v gi5
  obtain rfl : w5 = (.long i5) := Option.some.inj ei5
  obtain ⟨n1, -⟩ := and_e hn
  obtain ⟨v0, ev0, -⟩ := static_fit hfit (hw _ (List.mem_of_getElem? (i := 73) rfl)) (ty := .array .int) (by decide)
  obtain ⟨arr, cell0, rfl, -⟩ := Jvm.Free.IntBox.arrayOf_fwd (Cond.before_iff.mpr n1) ev0
  have S0 := Sta.start (Z := s) ev0 (Or.inr ⟨(hw _ (List.mem_of_getElem? (i := 72) rfl)), (hw _ (List.mem_of_getElem? (i := 73) rfl))⟩)
  obtain ⟨n, o, h1, h2, h3, _, L, rfl, ⟨rfl, N⟩, hq⟩ := own_rm0 l s _ hw tables_1 i0 i1 i2 i3 i4 i5 arr s.heap s.heap.size (Nat.le_refl _) S0 p e ha hc hk s m _ below hf ((Spec.applies_iff_loose hf).mp happ).1 ⟨rfl, State.Warmed39.refl s, rfl⟩ trivial
  refine ⟨n, _, h1, h2, h3, hpost _ _ _ _ _ _ ⟨Cond.after_iff.mpr rfl, Cond.after_iff.mpr (eq_i res_at (Term.int_eval (1)) rfl), trivial⟩ ⟨hq.1, hq.2.1, (hq.2.2.sift fun y hy => Or.inr (N y hy)).mono (by decide) (by decide)⟩⟩
theorem main_1_1 : Claimed_1_1 := own_comes fun _ _ _ _ _ _ h hF => ⟨h.1, hF⟩
theorem main_1_2 : Claimed_1_2 := own_comes fun _ _ _ _ _ _ h hF => ⟨h.2.1, hF⟩
end Jvm.Pilot.@@N@@
namespace Jvm.Pilot.@@N@@
open Jvm Jvm.ClassFile Sem Op Lib Jvm.Free Jvm.Stand Jvm.Pilot.@@N@@.Jvm.D
/-! MADE BY PROGRAM (witnessworld.py) out of the Statement's table words and the real class files: 16 classes; the members and pool entries that the words name. The judged class is class 1, her method 1. -/
namespace start1
open Jvm.ClassFile
def u (s : String) : CpInfo := .utf8 (stringToUtf16 s)
/-- a pool by its gaps: so many unusable entries, then the entry; so many at the end -/
def gap : Nat → List CpInfo → List CpInfo
  | 0, r => r
  | n + 1, r => .unusable :: gap n r
def poolList (es : List (Nat × CpInfo)) (last : Nat) : List CpInfo := es.foldr (fun e r => gap e.1 (e.2 :: r)) (gap last [])
def pool (es : List (Nat × CpInfo)) (last : Nat) : Array CpInfo := ⟨poolList es last⟩
def fileOf (pool : Array CpInfo) (this : Nat) (attrs : Array Attribute := #[]) (ms : Array MethodInfo := #[]) (fl : Nat := 33) (sup : Nat := 0) (ifs : Array Nat := #[]) (fds : Array FieldInfo := #[]) : ClassFile where
  minorVersion := 0
  majorVersion := 65
  constantPool := pool
  accessFlags := fl
  thisClass := this
  superClass := sup
  interfaces := ifs
  fields := fds
  methods := ms
  attributes := attrs
def plain (name : String) (sup : Option ClassId) : Class where
  name := name
  kind := .ordinary
  loader := none
  accessFlags := 33
  super := sup
  interfaces := #[]
  cf := none
  fields := #[]
  methods := #[]
  instanceTypes := #[]
  staticTypes := #[]
  resolved := #[]
  callSites := []
  init := .initialized
  statics := none
  mirror := none

def pool0 : Array CpInfo := pool [(5, u "<init>"), (0, u "()V"), (1, .class_ 10), (1, u "java/lang/Object")] 113

def k0c0 : Code := { maxStack := 0, maxLocals := 1, code := object_method_1_code, exceptionTable := #[], attributes := #[] }
def k0m0 : Method := { name := "<init>", desc := "()V", sig := { parameters := [], returnType := none }, accessFlags := 1, code := some k0c0 }
/-- java/lang/Object -/
def k0 : Class := { plain "java/lang/Object" none with
  accessFlags := 33
  interfaces := #[]
  cf := some (fileOf pool0 8 #[] #[{ accessFlags := 1, nameIndex := 5, descriptorIndex := 6, attributes := #[] }] 33 0 #[] #[])
  fields := #[]
  methods := #[k0m0]
  instanceTypes := #[]
  staticTypes := #[]
  resolved := Array.replicate 124 none
  statics := none }

def pool1 : Array CpInfo := pool [(2, .class_ 4), (1, u "java/lang/Object"), (0, u "<init>"), (0, u "()V"), (0, .integer 65535), (2, .long 2147483647), (1, .long 7), (1, .long 3), (1, .long 18446744071562067968), (1, .long 4), (1, .class_ 21), (0, u "tidemark/log/RecordMarks$RunMarking"), (0, .methodref 20 23), (0, .nameAndType 5 24), (0, u "(J)V"), (0, .methodref 20 26), (0, .nameAndType 27 28), (0, u "add"), (0, u "(IJJJ)V"), (0, .methodref 20 30), (0, .nameAndType 31 32), (0, u "takes"), (0, u "(J)Z"), (0, .methodref 20 34), (0, .nameAndType 35 36), (0, u "marks"), (0, u "()Ltidemark/log/RecordMarks$Span;"), (0, .methodref 38 39), (0, .class_ 40), (0, .nameAndType 41 42), (0, u "tidemark/log/RecordMarks$Span"), (0, u "nextOffset"), (0, u "()J"), (0, .methodref 38 44), (0, .nameAndType 45 42), (0, u "baseOffset"), (0, .class_ 47), (0, u "tidemark/log/RunMarkingTakesPinLaw"), (2, u "law"), (0, u "(JJJIIJ)Z")] 8

def k1m0 : Method := { name := "<init>", desc := "()V", sig := { parameters := [], returnType := none }, accessFlags := 1, code := none }
def k1c1 : Code := { maxStack := 8, maxLocals := 28, code := code, exceptionTable := #[], attributes := #[] }
def k1m1 : Method := { name := "law", desc := "(JJJIIJ)Z", sig := { parameters := [.long, .long, .long, .int, .int, .long], returnType := some .boolean }, accessFlags := 9, code := some k1c1 }
/-- tidemark/log/RunMarkingTakesPinLaw -/
def k1 : Class := { plain "tidemark/log/RunMarkingTakesPinLaw" (some 0) with
  accessFlags := 49
  interfaces := #[]
  cf := some (fileOf pool1 46 #[] #[{ accessFlags := 1, nameIndex := 5, descriptorIndex := 6, attributes := #[] }, { accessFlags := 9, nameIndex := 50, descriptorIndex := 51, attributes := #[] }] 49 2 #[] #[])
  fields := #[]
  methods := #[k1m0, k1m1]
  instanceTypes := #[]
  staticTypes := #[]
  resolved := Array.replicate 60 none
  statics := none }

def pool2 : Array CpInfo := pool [(1, .class_ 2), (0, u "tidemark/log/RecordMarks"), (0, .methodref 4 5), (0, .class_ 6), (0, .nameAndType 7 8), (0, u "java/lang/Object"), (0, u "<init>"), (0, u "()V"), (0, .class_ 10), (0, u "tidemark/log/RecordMarks$LaterMarks"), (0, .methodref 9 12), (0, .nameAndType 7 13), (0, u "(I)V"), (0, .fieldref 15 16), (0, .class_ 17), (0, .nameAndType 18 19), (0, u "tidemark/log/RecordMarks$RunMarking"), (0, u "later"), (0, u "Ltidemark/log/RecordMarks$LaterMarks;"), (2, .long 9223372036854775808), (1, .fieldref 15 25), (0, .nameAndType 26 27), (0, u "largest"), (0, u "J"), (0, .fieldref 15 29), (0, .nameAndType 30 27), (0, u "position"), (0, .fieldref 15 32), (0, .nameAndType 33 27), (0, u "end"), (0, .fieldref 15 35), (0, .nameAndType 36 27), (0, u "baseOffset"), (0, .fieldref 15 38), (0, .nameAndType 39 40), (0, u "batches"), (0, u "I"), (0, .fieldref 15 42), (0, .nameAndType 43 40), (0, u "lastStart"), (0, .long 1024), (1, .methodref 9 47), (0, .nameAndType 48 49), (0, u "add"), (0, u "(IJ)V"), (0, .fieldref 15 51), (0, .nameAndType 52 27), (0, u "nextOffset"), (0, .methodref 54 55), (0, .class_ 56), (0, .nameAndType 57 58), (0, u "java/lang/Math"), (0, u "max"), (0, u "(JJ)J"), (0, .class_ 60), (0, u "tidemark/log/RecordMarks$InRun"), (0, .methodref 9 62), (0, .nameAndType 63 64), (0, u "toArray"), (0, u "()[I"), (0, .methodref 59 66), (0, .nameAndType 7 67), (0, u "(JIJJJ[I)V"), (0, u "(J)V"), (2, u "takes"), (0, u "(J)Z"), (1, u "(IJJJ)V"), (2, u "marks"), (0, u "()Ltidemark/log/RecordMarks$Span;")] 10

def k2c0 : Code := { maxStack := 4, maxLocals := 3, code := prog_115_method_1_code, exceptionTable := #[], attributes := #[] }
def k2m0 : Method := { name := "<init>", desc := "(J)V", sig := { parameters := [.long], returnType := none }, accessFlags := 0, code := some k2c0 }
def k2c1 : Code := { maxStack := 4, maxLocals := 5, code := prog_115_method_2_code, exceptionTable := #[], attributes := #[] }
def k2m1 : Method := { name := "takes", desc := "(J)Z", sig := { parameters := [.long], returnType := some .boolean }, accessFlags := 0, code := some k2c1 }
def k2c2 : Code := { maxStack := 5, maxLocals := 8, code := prog_115_method_3_code, exceptionTable := #[], attributes := #[] }
def k2m2 : Method := { name := "add", desc := "(IJJJ)V", sig := { parameters := [.int, .long, .long, .long], returnType := none }, accessFlags := 0, code := some k2c2 }
def k2c3 : Code := { maxStack := 12, maxLocals := 1, code := prog_115_method_6_code, exceptionTable := #[], attributes := #[] }
def k2m3 : Method := { name := "marks", desc := "()Ltidemark/log/RecordMarks$Span;", sig := { parameters := [], returnType := some (.object "tidemark/log/RecordMarks$Span") }, accessFlags := 0, code := some k2c3 }
/-- tidemark/log/RecordMarks$RunMarking -/
def k2 : Class := { plain "tidemark/log/RecordMarks$RunMarking" (some 0) with
  accessFlags := 48
  interfaces := #[]
  cf := some (fileOf pool2 15 #[.nestHost 1] #[{ accessFlags := 0, nameIndex := 7, descriptorIndex := 68, attributes := #[] }, { accessFlags := 0, nameIndex := 71, descriptorIndex := 72, attributes := #[] }, { accessFlags := 0, nameIndex := 48, descriptorIndex := 74, attributes := #[] }, { accessFlags := 0, nameIndex := 77, descriptorIndex := 78, attributes := #[] }] 48 4 #[] #[{ accessFlags := 18, nameIndex := 30, descriptorIndex := 27, attributes := #[] }, { accessFlags := 18, nameIndex := 18, descriptorIndex := 19, attributes := #[] }, { accessFlags := 2, nameIndex := 43, descriptorIndex := 40, attributes := #[] }, { accessFlags := 2, nameIndex := 39, descriptorIndex := 40, attributes := #[] }, { accessFlags := 2, nameIndex := 33, descriptorIndex := 27, attributes := #[] }, { accessFlags := 2, nameIndex := 36, descriptorIndex := 27, attributes := #[] }, { accessFlags := 2, nameIndex := 52, descriptorIndex := 27, attributes := #[] }, { accessFlags := 2, nameIndex := 26, descriptorIndex := 27, attributes := #[] }])
  fields := #[{ name := "position", type := .long, accessFlags := 18, slot := 0, constantValue := 0 }, { name := "later", type := (.object "tidemark/log/RecordMarks$LaterMarks"), accessFlags := 18, slot := 1, constantValue := 0 }, { name := "lastStart", type := .int, accessFlags := 2, slot := 2, constantValue := 0 }, { name := "batches", type := .int, accessFlags := 2, slot := 3, constantValue := 0 }, { name := "end", type := .long, accessFlags := 2, slot := 4, constantValue := 0 }, { name := "baseOffset", type := .long, accessFlags := 2, slot := 5, constantValue := 0 }, { name := "nextOffset", type := .long, accessFlags := 2, slot := 6, constantValue := 0 }, { name := "largest", type := .long, accessFlags := 2, slot := 7, constantValue := 0 }]
  methods := #[k2m0, k2m1, k2m2, k2m3]
  instanceTypes := #[.long, (.object "tidemark/log/RecordMarks$LaterMarks"), .int, .int, .long, .long, .long, .long]
  staticTypes := #[]
  resolved := Array.replicate 89 none
  statics := none }

def pool3 : Array CpInfo := pool [(1, .class_ 2), (0, u "tidemark/log/RecordMarks"), (0, .methodref 4 5), (0, .class_ 6), (0, .nameAndType 7 8), (0, u "java/lang/Object"), (0, u "<init>"), (0, u "()V"), (0, .fieldref 10 11), (0, .class_ 12), (0, .nameAndType 13 14), (0, u "tidemark/log/RecordMarks$LaterMarks"), (0, u "marks"), (0, u "[I"), (0, .fieldref 10 16), (0, .nameAndType 17 18), (0, u "count"), (0, u "I"), (6, .methodref 26 27), (0, .class_ 28), (0, .nameAndType 29 30), (0, u "java/util/Arrays"), (0, u "copyOf"), (0, u "([II)[I"), (0, .fieldref 1 32), (0, .nameAndType 33 14), (0, u "NO_LATER_MARKS"), (0, u "(I)V"), (2, u "add"), (0, u "(IJ)V"), (1, u "toArray"), (0, u "()[I")] 6

def k3c0 : Code := { maxStack := 3, maxLocals := 2, code := prog_113_method_1_code, exceptionTable := #[], attributes := #[] }
def k3m0 : Method := { name := "<init>", desc := "(I)V", sig := { parameters := [.int], returnType := none }, accessFlags := 0, code := some k3c0 }
def k3c1 : Code := { maxStack := 5, maxLocals := 5, code := prog_113_method_2_code, exceptionTable := #[], attributes := #[] }
def k3m1 : Method := { name := "add", desc := "(IJ)V", sig := { parameters := [.int, .long], returnType := none }, accessFlags := 0, code := some k3c1 }
def k3c2 : Code := { maxStack := 3, maxLocals := 1, code := prog_113_method_3_code, exceptionTable := #[], attributes := #[] }
def k3m2 : Method := { name := "toArray", desc := "()[I", sig := { parameters := [], returnType := some (.array .int) }, accessFlags := 0, code := some k3c2 }
/-- tidemark/log/RecordMarks$LaterMarks -/
def k3 : Class := { plain "tidemark/log/RecordMarks$LaterMarks" (some 0) with
  accessFlags := 48
  interfaces := #[]
  cf := some (fileOf pool3 10 #[.nestHost 1] #[{ accessFlags := 0, nameIndex := 7, descriptorIndex := 34, attributes := #[] }, { accessFlags := 0, nameIndex := 37, descriptorIndex := 38, attributes := #[] }, { accessFlags := 0, nameIndex := 40, descriptorIndex := 41, attributes := #[] }] 48 4 #[] #[{ accessFlags := 2, nameIndex := 13, descriptorIndex := 14, attributes := #[] }, { accessFlags := 2, nameIndex := 17, descriptorIndex := 18, attributes := #[] }])
  fields := #[{ name := "marks", type := (.array .int), accessFlags := 2, slot := 0, constantValue := 0 }, { name := "count", type := .int, accessFlags := 2, slot := 1, constantValue := 0 }]
  methods := #[k3m0, k3m1, k3m2]
  instanceTypes := #[(.array .int), .int]
  staticTypes := #[]
  resolved := Array.replicate 48 none
  statics := none }

def pool4 : Array CpInfo := pool [(1, .class_ 2), (0, u "java/lang/Math"), (1, .class_ 6), (1, u "java/lang/Object"), (0, u "<init>"), (0, u "()V"), (89, .class_ 100), (1, u "java/lang/Math$RandomNumberGeneratorHolder"), (20, u "(JJ)J"), (50, u "negativeZeroFloatBits"), (0, u "J"), (2, u "negativeZeroDoubleBits"), (21, u "max"), (2, u "min"), (43, u "$assertionsDisabled"), (0, u "Z"), (88, u "(II)I"), (2, u "twoToTheDoubleScaleDown"), (0, u "D"), (4, u "twoToTheDoubleScaleUp"), (9, u "E"), (3, u "PI"), (2, u "TAU"), (2, u "DEGREES_TO_RADIANS"), (0, u "RADIANS_TO_DEGREES"), (39, u "toIntExact"), (0, u "(J)I")] 53

def k4m0 : Method := { name := "<init>", desc := "()V", sig := { parameters := [], returnType := none }, accessFlags := 2, code := none }
def k4c1 : Code := { maxStack := 4, maxLocals := 2, code := jdk_29_method_43_code, exceptionTable := #[], attributes := #[] }
def k4m1 : Method := { name := "toIntExact", desc := "(J)I", sig := { parameters := [.long], returnType := some .int }, accessFlags := 9, code := some k4c1 }
def k4c2 : Code := { maxStack := 4, maxLocals := 4, code := jdk_29_method_66_code, exceptionTable := #[], attributes := #[] }
def k4m2 : Method := { name := "max", desc := "(JJ)J", sig := { parameters := [.long, .long], returnType := some .long }, accessFlags := 9, code := some k4c2 }
def k4c3 : Code := { maxStack := 2, maxLocals := 2, code := jdk_29_method_69_code, exceptionTable := #[], attributes := #[] }
def k4m3 : Method := { name := "min", desc := "(II)I", sig := { parameters := [.int, .int], returnType := some .int }, accessFlags := 9, code := some k4c3 }
/-- java/lang/Math -/
def k4 : Class := { plain "java/lang/Math" (some 0) with
  accessFlags := 49
  interfaces := #[]
  cf := some (fileOf pool4 1 #[.nestMembers #[98]] #[{ accessFlags := 2, nameIndex := 7, descriptorIndex := 8, attributes := #[] }, { accessFlags := 9, nameIndex := 405, descriptorIndex := 406, attributes := #[] }, { accessFlags := 9, nameIndex := 198, descriptorIndex := 121, attributes := #[] }, { accessFlags := 9, nameIndex := 201, descriptorIndex := 335, attributes := #[] }] 49 4 #[] #[{ accessFlags := 25, nameIndex := 354, descriptorIndex := 339, attributes := #[] }, { accessFlags := 25, nameIndex := 358, descriptorIndex := 339, attributes := #[] }, { accessFlags := 25, nameIndex := 361, descriptorIndex := 339, attributes := #[] }, { accessFlags := 26, nameIndex := 364, descriptorIndex := 339, attributes := #[] }, { accessFlags := 26, nameIndex := 365, descriptorIndex := 339, attributes := #[] }, { accessFlags := 26, nameIndex := 172, descriptorIndex := 173, attributes := #[] }, { accessFlags := 26, nameIndex := 176, descriptorIndex := 173, attributes := #[] }, { accessFlags := 8, nameIndex := 344, descriptorIndex := 339, attributes := #[] }, { accessFlags := 8, nameIndex := 338, descriptorIndex := 339, attributes := #[] }, { accessFlags := 4120, nameIndex := 245, descriptorIndex := 246, attributes := #[] }])
  fields := #[{ name := "E", type := .double, accessFlags := 25, slot := 0, constantValue := 0 }, { name := "PI", type := .double, accessFlags := 25, slot := 1, constantValue := 0 }, { name := "TAU", type := .double, accessFlags := 25, slot := 2, constantValue := 0 }, { name := "DEGREES_TO_RADIANS", type := .double, accessFlags := 26, slot := 3, constantValue := 0 }, { name := "RADIANS_TO_DEGREES", type := .double, accessFlags := 26, slot := 4, constantValue := 0 }, { name := "negativeZeroFloatBits", type := .long, accessFlags := 26, slot := 5, constantValue := 0 }, { name := "negativeZeroDoubleBits", type := .long, accessFlags := 26, slot := 6, constantValue := 0 }, { name := "twoToTheDoubleScaleUp", type := .double, accessFlags := 8, slot := 7, constantValue := 0 }, { name := "twoToTheDoubleScaleDown", type := .double, accessFlags := 8, slot := 8, constantValue := 0 }, { name := "$assertionsDisabled", type := .boolean, accessFlags := 4120, slot := 9, constantValue := 0 }]
  methods := #[k4m0, k4m1, k4m2, k4m3]
  instanceTypes := #[]
  staticTypes := #[.double, .double, .double, .double, .double, .long, .long, .double, .double, .boolean]
  resolved := Array.replicate 460 none
  statics := none }

def pool5 : Array CpInfo := pool [(1, .class_ 2), (0, u "tidemark/log/RecordMarks"), (2, .methodref 6 7), (0, .class_ 8), (0, .nameAndType 9 10), (0, u "java/lang/Object"), (0, u "<init>"), (0, u "()V"), (9, .class_ 21), (0, u "tidemark/log/RecordMarks$Marking"), (11, .class_ 34), (0, u "tidemark/log/RecordMarks$Compressed"), (22, .class_ 59), (1, u "tidemark/log/RecordMarks$Kept"), (3, .class_ 65), (1, u "tidemark/log/RecordMarks$Decompressed"), (22, u "NO_LATER_MARKS"), (0, u "[I"), (2, u "NO_LONE_RECORDS"), (0, u "[J"), (0, .class_ 95), (0, u "tidemark/log/RecordMarks$1"), (3, u "NONE"), (0, u "Ltidemark/log/RecordMarks;"), (0, u "INTERVAL_BYTES"), (0, u "I"), (2, u "MIN_MARKED_BYTES"), (1, u "MIN_MARKED_COMPRESSED_BYTES"), (1, u "KEPT_INTERVAL_BYTES"), (1, u "MAX_STRETCH_BYTES"), (1, u "MARK_INTS"), (1, u "MARK_BYTES"), (1, u "LONE_LONGS"), (27, .class_ 146), (0, u "tidemark/log/RecordMarks$Table"), (0, .class_ 148), (0, u "tidemark/log/RecordMarks$Kept$1"), (0, .class_ 150), (0, u "tidemark/log/RecordMarks$InRun"), (0, .class_ 152), (0, u "tidemark/log/RecordMarks$RunMarking"), (0, .class_ 154), (0, u "tidemark/log/RecordMarks$InBatch"), (0, .class_ 156), (0, u "tidemark/log/RecordMarks$Span"), (0, .class_ 158), (0, u "tidemark/log/RecordMarks$LaterMarks")] 19

def k5c0 : Code := { maxStack := 1, maxLocals := 1, code := prog_105_method_1_code, exceptionTable := #[], attributes := #[] }
def k5m0 : Method := { name := "<init>", desc := "()V", sig := { parameters := [], returnType := none }, accessFlags := 2, code := some k5c0 }
/-- tidemark/log/RecordMarks -/
def k5 : Class := { plain "tidemark/log/RecordMarks" (some 0) with
  accessFlags := 1056
  interfaces := #[]
  cf := some (fileOf pool5 1 #[.nestMembers #[145, 57, 147, 63, 149, 151, 33, 153, 155, 20, 157, 94]] #[{ accessFlags := 2, nameIndex := 9, descriptorIndex := 10, attributes := #[] }] 1056 6 #[] #[{ accessFlags := 24, nameIndex := 101, descriptorIndex := 102, attributes := #[] }, { accessFlags := 24, nameIndex := 105, descriptorIndex := 102, attributes := #[] }, { accessFlags := 24, nameIndex := 107, descriptorIndex := 102, attributes := #[] }, { accessFlags := 24, nameIndex := 109, descriptorIndex := 102, attributes := #[] }, { accessFlags := 24, nameIndex := 111, descriptorIndex := 102, attributes := #[] }, { accessFlags := 26, nameIndex := 113, descriptorIndex := 102, attributes := #[] }, { accessFlags := 26, nameIndex := 115, descriptorIndex := 102, attributes := #[] }, { accessFlags := 26, nameIndex := 88, descriptorIndex := 89, attributes := #[] }, { accessFlags := 26, nameIndex := 117, descriptorIndex := 102, attributes := #[] }, { accessFlags := 26, nameIndex := 92, descriptorIndex := 93, attributes := #[] }, { accessFlags := 24, nameIndex := 99, descriptorIndex := 100, attributes := #[] }])
  fields := #[{ name := "INTERVAL_BYTES", type := .int, accessFlags := 24, slot := 0, constantValue := 0 }, { name := "MIN_MARKED_BYTES", type := .int, accessFlags := 24, slot := 1, constantValue := 0 }, { name := "MIN_MARKED_COMPRESSED_BYTES", type := .int, accessFlags := 24, slot := 2, constantValue := 0 }, { name := "KEPT_INTERVAL_BYTES", type := .int, accessFlags := 24, slot := 3, constantValue := 0 }, { name := "MAX_STRETCH_BYTES", type := .int, accessFlags := 24, slot := 4, constantValue := 0 }, { name := "MARK_INTS", type := .int, accessFlags := 26, slot := 5, constantValue := 0 }, { name := "MARK_BYTES", type := .int, accessFlags := 26, slot := 6, constantValue := 0 }, { name := "NO_LATER_MARKS", type := (.array .int), accessFlags := 26, slot := 7, constantValue := 0 }, { name := "LONE_LONGS", type := .int, accessFlags := 26, slot := 8, constantValue := 0 }, { name := "NO_LONE_RECORDS", type := (.array .long), accessFlags := 26, slot := 9, constantValue := 0 }, { name := "NONE", type := (.object "tidemark/log/RecordMarks"), accessFlags := 24, slot := 10, constantValue := 0 }]
  methods := #[k5m0]
  instanceTypes := #[]
  staticTypes := #[.int, .int, .int, .int, .int, .int, .int, (.array .int), .int, (.array .long), (.object "tidemark/log/RecordMarks")]
  resolved := Array.replicate 178 none
  statics := some 0 }

def pool6 : Array CpInfo := pool [(1, .class_ 2), (0, u "tidemark/log/RecordMarks"), (0, .methodref 1 4), (0, .nameAndType 5 6), (0, u "<init>"), (0, u "()V"), (0, .fieldref 8 9), (0, .class_ 10), (0, .nameAndType 11 12), (0, u "tidemark/log/RecordMarks$Span"), (0, u "position"), (0, u "J"), (0, .fieldref 8 14), (0, .nameAndType 15 16), (0, u "size"), (0, u "I"), (0, .fieldref 8 18), (0, .nameAndType 19 12), (0, u "baseOffset"), (0, .methodref 21 22), (0, .class_ 23), (0, .nameAndType 24 25), (0, u "java/lang/Math"), (0, u "toIntExact"), (0, u "(J)I"), (0, .fieldref 8 27), (0, .nameAndType 28 16), (0, u "lastOffsetDelta"), (0, .fieldref 8 30), (0, .nameAndType 31 12), (0, u "maxTimestamp"), (0, .fieldref 8 33), (0, .nameAndType 34 35), (0, u "later"), (0, u "[I"), (2, u "nextOffset"), (0, u "()J"), (39, u "(JIJJJ[I)V")] 43

def k6c0 : Code := { maxStack := 5, maxLocals := 11, code := prog_116_method_1_code, exceptionTable := #[], attributes := #[] }
def k6m0 : Method := { name := "<init>", desc := "(JIJJJ[I)V", sig := { parameters := [.long, .int, .long, .long, .long, (.array .int)], returnType := none }, accessFlags := 2, code := some k6c0 }
def k6c1 : Code := { maxStack := 2, maxLocals := 1, code := prog_116_method_4_code, exceptionTable := #[], attributes := #[] }
def k6m1 : Method := { name := "baseOffset", desc := "()J", sig := { parameters := [], returnType := some .long }, accessFlags := 0, code := some k6c1 }
def k6c2 : Code := { maxStack := 4, maxLocals := 1, code := prog_116_method_5_code, exceptionTable := #[], attributes := #[] }
def k6m2 : Method := { name := "nextOffset", desc := "()J", sig := { parameters := [], returnType := some .long }, accessFlags := 0, code := some k6c2 }
/-- tidemark/log/RecordMarks$Span -/
def k6 : Class := { plain "tidemark/log/RecordMarks$Span" (some 5) with
  accessFlags := 1056
  interfaces := #[]
  cf := some (fileOf pool6 8 #[.nestHost 1] #[{ accessFlags := 2, nameIndex := 5, descriptorIndex := 79, attributes := #[] }, { accessFlags := 0, nameIndex := 19, descriptorIndex := 39, attributes := #[] }, { accessFlags := 0, nameIndex := 38, descriptorIndex := 39, attributes := #[] }] 1056 1 #[] #[{ accessFlags := 18, nameIndex := 11, descriptorIndex := 12, attributes := #[] }, { accessFlags := 18, nameIndex := 19, descriptorIndex := 12, attributes := #[] }, { accessFlags := 18, nameIndex := 31, descriptorIndex := 12, attributes := #[] }, { accessFlags := 18, nameIndex := 15, descriptorIndex := 16, attributes := #[] }, { accessFlags := 18, nameIndex := 28, descriptorIndex := 16, attributes := #[] }, { accessFlags := 18, nameIndex := 34, descriptorIndex := 35, attributes := #[] }])
  fields := #[{ name := "position", type := .long, accessFlags := 18, slot := 0, constantValue := 0 }, { name := "baseOffset", type := .long, accessFlags := 18, slot := 1, constantValue := 0 }, { name := "maxTimestamp", type := .long, accessFlags := 18, slot := 2, constantValue := 0 }, { name := "size", type := .int, accessFlags := 18, slot := 3, constantValue := 0 }, { name := "lastOffsetDelta", type := .int, accessFlags := 18, slot := 4, constantValue := 0 }, { name := "later", type := (.array .int), accessFlags := 18, slot := 5, constantValue := 0 }]
  methods := #[k6m0, k6m1, k6m2]
  instanceTypes := #[.long, .long, .long, .int, .int, (.array .int)]
  staticTypes := #[]
  resolved := Array.replicate 123 none
  statics := none }

def pool7 : Array CpInfo := pool [(1, .methodref 2 3), (0, .class_ 4), (0, .nameAndType 5 6), (0, u "tidemark/log/RecordMarks$Span"), (0, u "<init>"), (0, u "(JIJJJ[I)V"), (20, .class_ 29), (1, u "tidemark/log/RecordMarks"), (11, .class_ 43), (1, u "tidemark/log/RecordMarks$InRun")] 49

def k7c0 : Code := { maxStack := 11, maxLocals := 11, code := prog_110_method_1_code, exceptionTable := #[], attributes := #[] }
def k7m0 : Method := { name := "<init>", desc := "(JIJJJ[I)V", sig := { parameters := [.long, .int, .long, .long, .long, (.array .int)], returnType := none }, accessFlags := 0, code := some k7c0 }
/-- tidemark/log/RecordMarks$InRun -/
def k7 : Class := { plain "tidemark/log/RecordMarks$InRun" (some 6) with
  accessFlags := 48
  interfaces := #[]
  cf := some (fileOf pool7 41 #[.nestHost 27] #[{ accessFlags := 0, nameIndex := 5, descriptorIndex := 6, attributes := #[] }] 48 2 #[] #[])
  fields := #[]
  methods := #[k7m0]
  instanceTypes := #[.long, .long, .long, .int, .int, (.array .int)]
  staticTypes := #[]
  resolved := Array.replicate 93 none
  statics := none }

def pool8 : Array CpInfo := pool [(2, .class_ 4), (1, u "java/lang/Object"), (0, u "<init>"), (0, u "()V"), (7, .class_ 16), (1, u "java/util/Arrays"), (57, .class_ 76), (1, u "java/util/Arrays$NaturalOrder"), (36, .class_ 115), (1, u "java/util/Arrays$LegacyMergeSort"), (1, u "Z"), (32, .methodref 151 152), (0, .class_ 153), (0, .nameAndType 154 155), (0, u "java/lang/System"), (0, u "arraycopy"), (0, u "(Ljava/lang/Object;ILjava/lang/Object;II)V"), (146, u "copyOf"), (1, .methodref 305 306), (0, .class_ 307), (0, .nameAndType 308 309), (0, u "java/lang/Math"), (0, u "min"), (0, u "(II)I"), (65, .class_ 376), (0, u "java/util/Arrays$ArrayList"), (68, u "$assertionsDisabled"), (269, u "MIN_ARRAY_SORT_GRAN"), (0, u "I"), (2, u "INSERTIONSORT_THRESHOLD"), (151, u "([II)[I"), (103, .class_ 976), (0, u "java/util/Arrays$ArrayItr")] 52

def k8m0 : Method := { name := "<init>", desc := "()V", sig := { parameters := [], returnType := none }, accessFlags := 2, code := none }
def k8c1 : Code := { maxStack := 6, maxLocals := 3, code := jdk_65_method_123_code, exceptionTable := #[], attributes := #[] }
def k8m1 : Method := { name := "copyOf", desc := "([II)[I", sig := { parameters := [(.array .int), .int], returnType := some (.array .int) }, accessFlags := 9, code := some k8c1 }
/-- java/util/Arrays -/
def k8 : Class := { plain "java/util/Arrays" (some 0) with
  accessFlags := 49
  interfaces := #[]
  cf := some (fileOf pool8 14 #[.nestMembers #[975, 375, 113, 74]] #[{ accessFlags := 2, nameIndex := 5, descriptorIndex := 6, attributes := #[] }, { accessFlags := 9, nameIndex := 302, descriptorIndex := 871, attributes := #[] }] 49 2 #[] #[{ accessFlags := 26, nameIndex := 715, descriptorIndex := 716, attributes := #[] }, { accessFlags := 26, nameIndex := 719, descriptorIndex := 716, attributes := #[] }, { accessFlags := 4120, nameIndex := 445, descriptorIndex := 117, attributes := #[] }])
  fields := #[{ name := "MIN_ARRAY_SORT_GRAN", type := .int, accessFlags := 26, slot := 0, constantValue := 0 }, { name := "INSERTIONSORT_THRESHOLD", type := .int, accessFlags := 26, slot := 1, constantValue := 0 }, { name := "$assertionsDisabled", type := .boolean, accessFlags := 4120, slot := 2, constantValue := 0 }]
  methods := #[k8m0, k8m1]
  instanceTypes := #[]
  staticTypes := #[.int, .int, .boolean]
  resolved := Array.replicate 1029 none
  statics := none }

def pool9 : Array CpInfo := pool [(2, .class_ 4), (1, u "java/lang/Object"), (0, u "<init>"), (0, u "()V"), (1, .class_ 10), (1, u "java/lang/System"), (0, u "allowSecurityManager"), (0, u "I"), (16, u "cons"), (0, u "Ljava/io/Console;"), (77, .class_ 110), (1, u "java/lang/System$CallersHolder"), (43, u "initialErrStream"), (0, u "Ljava/io/PrintStream;"), (19, u "security"), (0, u "Ljava/lang/SecurityManager;"), (31, .class_ 209), (0, u "java/lang/System$1"), (7, u "props"), (0, u "Ljava/util/Properties;"), (2, u "lineSeparator"), (0, u "Ljava/lang/String;"), (96, .class_ 321), (1, u "java/lang/System$LoggerFinder"), (5, .class_ 328), (0, u "java/lang/System$Logger"), (67, u "err"), (2, u "out"), (91, u "notSupportedJnuEncoding"), (15, u "in"), (17, u "initialIn"), (0, u "Ljava/io/InputStream;"), (35, u "bootLayer"), (0, u "Ljava/lang/ModuleLayer;"), (99, .class_ 664), (0, u "java/lang/System$2"), (9, u "NEVER"), (2, u "MAYBE"), (49, u "arraycopy"), (0, u "(Ljava/lang/Object;ILjava/lang/Object;II)V"), (72, .class_ 802), (0, u "java/lang/System$Logger$Level")] 31

def k9m0 : Method := { name := "<init>", desc := "()V", sig := { parameters := [], returnType := none }, accessFlags := 2, code := none }
def k9m1 : Method := { name := "arraycopy", desc := "(Ljava/lang/Object;ILjava/lang/Object;II)V", sig := { parameters := [(.object "java/lang/Object"), .int, (.object "java/lang/Object"), .int, .int], returnType := none }, accessFlags := 265, code := none }
/-- java/lang/System -/
def k9 : Class := { plain "java/lang/System" (some 0) with
  accessFlags := 49
  interfaces := #[]
  cf := some (fileOf pool9 8 #[.nestMembers #[319, 327, 801, 108, 663, 208]] #[{ accessFlags := 2, nameIndex := 5, descriptorIndex := 6, attributes := #[] }, { accessFlags := 265, nameIndex := 727, descriptorIndex := 728, attributes := #[] }] 49 2 #[] #[{ accessFlags := 25, nameIndex := 507, descriptorIndex := 526, attributes := #[] }, { accessFlags := 25, nameIndex := 399, descriptorIndex := 155, attributes := #[] }, { accessFlags := 25, nameIndex := 396, descriptorIndex := 155, attributes := #[] }, { accessFlags := 10, nameIndex := 525, descriptorIndex := 526, attributes := #[] }, { accessFlags := 26, nameIndex := 674, descriptorIndex := 12, attributes := #[] }, { accessFlags := 26, nameIndex := 677, descriptorIndex := 12, attributes := #[] }, { accessFlags := 10, nameIndex := 11, descriptorIndex := 12, attributes := #[] }, { accessFlags := 74, nameIndex := 175, descriptorIndex := 176, attributes := #[] }, { accessFlags := 10, nameIndex := 491, descriptorIndex := 222, attributes := #[] }, { accessFlags := 74, nameIndex := 29, descriptorIndex := 30, attributes := #[] }, { accessFlags := 74, nameIndex := 154, descriptorIndex := 155, attributes := #[] }, { accessFlags := 10, nameIndex := 217, descriptorIndex := 218, attributes := #[] }, { accessFlags := 10, nameIndex := 221, descriptorIndex := 222, attributes := #[] }, { accessFlags := 8, nameIndex := 562, descriptorIndex := 563, attributes := #[] }])
  fields := #[{ name := "in", type := (.object "java/io/InputStream"), accessFlags := 25, slot := 0, constantValue := 0 }, { name := "out", type := (.object "java/io/PrintStream"), accessFlags := 25, slot := 1, constantValue := 0 }, { name := "err", type := (.object "java/io/PrintStream"), accessFlags := 25, slot := 2, constantValue := 0 }, { name := "initialIn", type := (.object "java/io/InputStream"), accessFlags := 10, slot := 3, constantValue := 0 }, { name := "NEVER", type := .int, accessFlags := 26, slot := 4, constantValue := 0 }, { name := "MAYBE", type := .int, accessFlags := 26, slot := 5, constantValue := 0 }, { name := "allowSecurityManager", type := .int, accessFlags := 10, slot := 6, constantValue := 0 }, { name := "security", type := (.object "java/lang/SecurityManager"), accessFlags := 74, slot := 7, constantValue := 0 }, { name := "notSupportedJnuEncoding", type := (.object "java/lang/String"), accessFlags := 10, slot := 8, constantValue := 0 }, { name := "cons", type := (.object "java/io/Console"), accessFlags := 74, slot := 9, constantValue := 0 }, { name := "initialErrStream", type := (.object "java/io/PrintStream"), accessFlags := 74, slot := 10, constantValue := 0 }, { name := "props", type := (.object "java/util/Properties"), accessFlags := 10, slot := 11, constantValue := 0 }, { name := "lineSeparator", type := (.object "java/lang/String"), accessFlags := 10, slot := 12, constantValue := 0 }, { name := "bootLayer", type := (.object "java/lang/ModuleLayer"), accessFlags := 8, slot := 13, constantValue := 0 }]
  methods := #[k9m0, k9m1]
  instanceTypes := #[]
  staticTypes := #[(.object "java/io/InputStream"), (.object "java/io/PrintStream"), (.object "java/io/PrintStream"), (.object "java/io/InputStream"), .int, .int, .int, (.object "java/lang/SecurityManager"), (.object "java/lang/String"), (.object "java/io/Console"), (.object "java/io/PrintStream"), (.object "java/util/Properties"), (.object "java/lang/String"), (.object "java/lang/ModuleLayer")]
  resolved := Array.replicate 834 none
  statics := none }

def pool10 : Array CpInfo := pool [(1, u "java/lang/Cloneable"), (0, .class_ 1), (0, u "java/lang/Object"), (0, .class_ 3)] 3

/-- java/lang/Cloneable -/
def k10 : Class := { plain "java/lang/Cloneable" (some 0) with
  accessFlags := 1537
  interfaces := #[]
  cf := some (fileOf pool10 2 #[] #[] 1537 4 #[] #[])
  fields := #[]
  methods := #[]
  instanceTypes := #[]
  staticTypes := #[]
  resolved := Array.replicate 8 none
  statics := none }

def pool11 : Array CpInfo := pool [(1, u "java/io/Serializable"), (0, .class_ 1), (0, u "java/lang/Object"), (0, .class_ 3)] 3

/-- java/io/Serializable -/
def k11 : Class := { plain "java/io/Serializable" (some 0) with
  accessFlags := 1537
  interfaces := #[]
  cf := some (fileOf pool11 2 #[] #[] 1537 4 #[] #[])
  fields := #[]
  methods := #[]
  instanceTypes := #[]
  staticTypes := #[]
  resolved := Array.replicate 8 none
  statics := none }

/-- the primitive byte -/
def k12 : Class := { plain "byte" none with kind := .primitive 'B', accessFlags := 0x411 }
/-- [B -/
def k13 : Class := { plain "[B" (some 0) with kind := .array 12 .byte, interfaces := #[10, 11], accessFlags := 1041 }

/-- the primitive int -/
def k14 : Class := { plain "int" none with kind := .primitive 'I', accessFlags := 0x411 }
/-- [I -/
def k15 : Class := { plain "[I" (some 0) with kind := .array 14 .int, interfaces := #[10, 11], accessFlags := 1041 }

def heap : Heap := #[{ cls := 5, slots := #[.int 0, .int 0, .int 0, .int 0, .int 0, .int 0, .int 0, .ref 1, .int 0, .null, .null], vm := .statics 5 },
  { cls := 15, slots := #[], vm := .none }]
def classes : Array Class := #[k0, k1, k2, k3, k4, k5, k6, k7, k8, k9, k10, k11, k12, k13, k14, k15]
def interned : List (Array UInt16 × Addr) := []
def slotsUsed : Nat := 11
def theMethod : MethodId := ⟨1, 1⟩
def args0 : Array Value := #[.long 5, .long 7, .long 3, .int 4, .int 9, .long 8]
def aboutOver (below : List Frame) : State where
  vm := { classes := classes, interned := interned.toArray }
  heap := heap
  slotsUsed := slotsUsed
  threads := #[{ frames := .invoking theMethod args0 :: below }]
def below0 : List Frame := [.native { method := ⟨0, 0⟩, args := #[] }]
def about1 : State := aboutOver below0
def p0 : Program := .bare "" "" ""
def e0 : Env := launch0.env 0 0 0
theorem w_frames : about1.frames = Frame.invoking theMethod args0 :: below0 := rfl
set_option maxRecDepth 65536 in
theorem w_args : argsFit about1.vm theMethod args0 = true := by decide +kernel
set_option maxRecDepth 65536 in
theorem w_heap : heapFits about1 = true := by decide +kernel
set_option maxRecDepth 65536 in
theorem w_runnable : about1.curStatus? = some .runnable := by decide +kernel
set_option maxRecDepth 65536 in
theorem w_alone : about1.alone = true := by decide +kernel
set_option maxRecDepth 65536 in
theorem w_named : about1.methodNamed? x = some theMethod := by decide +kernel
set_option maxRecDepth 65536 in
theorem w_hears : about1.hears theMethod below0 = true := by decide +kernel
set_option maxRecDepth 65536 in
theorem w_ripe : about1.ripe theMethod args0 below0 = true := by decide +kernel
theorem w_running : about1.status = .running := rfl
set_option maxRecDepth 65536 in
theorem w_room : about1.hasRoom e0.platform room_1 = true :=
  launch0.hasRoom_least _ room_1 (by decide +kernel) (by decide +kernel) (by decide +kernel) (by decide +kernel) (by decide +kernel) (by decide +kernel)
theorem allAtoms_all (ts : List Jvm.Cond) (a : Array Jvm.Value) (st : Jvm.State) : (allAtoms ts).before a st = ts.all (fun c => c.before a st) := by
  induction ts with
  | nil => rfl
  | cons c t ih =>
    show (Jvm.Cond.and c (allAtoms t)).before a st = _
    rw [Jvm.Cond.before_and, ih, List.all_cons]
def words1 : List Jvm.Cond := Jvm.Cond.code x code maxLocals ret :: tables_1
/-- a 'code' word, met by the world's own term for the bytes: nothing is compared byte by byte -/
theorem code_word {y : MethodName} {bytes : ByteArray} {mx : Nat} {rt : Option FieldType} {a : Array Value} {s : State} {m : MethodId} {meth : Method} {c : Code} (h1 : s.methodNamed? y = some m) (h2 : s.vm.method? m = some meth) (h3 : meth.code = some c) (h4 : c.code = bytes)
    (h5 : (c.maxLocals == mx && c.exceptionTable.isEmpty && decide (c.maxStack ≤ mostOperands) && decide (meth.sig.returnType = rt) && !meth.locks && decide (parseMethodDescriptor y.desc = some meth.sig)) = true) : (Jvm.Cond.code y bytes mx rt).before a s = true := by
  simp only [Bool.and_eq_true, beq_iff_eq, Bool.not_eq_true', decide_eq_true_eq] at h5
  obtain ⟨⟨⟨⟨⟨g1, g2⟩, g3⟩, g4⟩, g5⟩, g6⟩ := h5
  simp [Cond.before, Cond.holds, Cond.value, h1, h2, h3, h4, g1, g2, g3, g4, g5, g6]
def isCode : Jvm.Cond → Bool
  | .code _ _ _ _ => true
  | _ => false
theorem all_split {L : List Jvm.Cond} {P : Jvm.Cond → Bool} (h1 : L.all (fun c => isCode c || P c) = true) (h2 : ∀ c ∈ L.filter isCode, P c = true) : L.all P = true := by
  refine List.all_eq_true.mpr fun c hc => ?_
  have h := List.all_eq_true.mp h1 c hc
  rcases Bool.eq_false_or_eq_true (isCode c) with hi | hi
  · exact h2 c (List.mem_filter.mpr ⟨hc, hi⟩)
  · simpa [hi] using h
set_option maxRecDepth 65536 in
theorem w_c0 : (Jvm.Cond.code x code maxLocals ret).before args0 about1 = true := code_word (m := ⟨1, 1⟩) (meth := k1m1) (c := k1c1) (by decide +kernel) rfl rfl rfl (by decide +kernel)
set_option maxRecDepth 65536 in
theorem w_c1 : (Jvm.Cond.code ({ cls := "tidemark/log/RecordMarks$RunMarking", name := "<init>", desc := "(J)V" } : Jvm.MethodName) prog_115_method_1_code (3 : Nat) (Option.none : Option Jvm.ClassFile.FieldType)).before args0 about1 = true := code_word (m := ⟨2, 0⟩) (meth := k2m0) (c := k2c0) (by decide +kernel) rfl rfl rfl (by decide +kernel)
set_option maxRecDepth 65536 in
theorem w_c2 : (Jvm.Cond.code ({ cls := "java/lang/Object", name := "<init>", desc := "()V" } : Jvm.MethodName) object_method_1_code (1 : Nat) (Option.none : Option Jvm.ClassFile.FieldType)).before args0 about1 = true := code_word (m := ⟨0, 0⟩) (meth := k0m0) (c := k0c0) (by decide +kernel) rfl rfl rfl (by decide +kernel)
set_option maxRecDepth 65536 in
theorem w_c3 : (Jvm.Cond.code ({ cls := "tidemark/log/RecordMarks$LaterMarks", name := "<init>", desc := "(I)V" } : Jvm.MethodName) prog_113_method_1_code (2 : Nat) (Option.none : Option Jvm.ClassFile.FieldType)).before args0 about1 = true := code_word (m := ⟨3, 0⟩) (meth := k3m0) (c := k3c0) (by decide +kernel) rfl rfl rfl (by decide +kernel)
set_option maxRecDepth 65536 in
theorem w_c4 : (Jvm.Cond.code ({ cls := "tidemark/log/RecordMarks$RunMarking", name := "add", desc := "(IJJJ)V" } : Jvm.MethodName) prog_115_method_3_code (8 : Nat) (Option.none : Option Jvm.ClassFile.FieldType)).before args0 about1 = true := code_word (m := ⟨2, 2⟩) (meth := k2m2) (c := k2c2) (by decide +kernel) rfl rfl rfl (by decide +kernel)
set_option maxRecDepth 65536 in
theorem w_c5 : (Jvm.Cond.code ({ cls := "java/lang/Math", name := "max", desc := "(JJ)J" } : Jvm.MethodName) jdk_29_method_66_code (4 : Nat) (Option.some Jvm.ClassFile.FieldType.long)).before args0 about1 = true := code_word (m := ⟨4, 2⟩) (meth := k4m2) (c := k4c2) (by decide +kernel) rfl rfl rfl (by decide +kernel)
set_option maxRecDepth 65536 in
theorem w_c6 : (Jvm.Cond.code ({ cls := "tidemark/log/RecordMarks$RunMarking", name := "takes", desc := "(J)Z" } : Jvm.MethodName) prog_115_method_2_code (5 : Nat) (Option.some Jvm.ClassFile.FieldType.boolean)).before args0 about1 = true := code_word (m := ⟨2, 1⟩) (meth := k2m1) (c := k2c1) (by decide +kernel) rfl rfl rfl (by decide +kernel)
set_option maxRecDepth 65536 in
theorem w_c7 : (Jvm.Cond.code ({ cls := "tidemark/log/RecordMarks$RunMarking", name := "marks", desc := "()Ltidemark/log/RecordMarks$Span;" } : Jvm.MethodName) prog_115_method_6_code (1 : Nat) (Option.some (Jvm.ClassFile.FieldType.object "tidemark/log/RecordMarks$Span"))).before args0 about1 = true := code_word (m := ⟨2, 3⟩) (meth := k2m3) (c := k2c3) (by decide +kernel) rfl rfl rfl (by decide +kernel)
set_option maxRecDepth 65536 in
theorem w_c8 : (Jvm.Cond.code ({ cls := "tidemark/log/RecordMarks$LaterMarks", name := "toArray", desc := "()[I" } : Jvm.MethodName) prog_113_method_3_code (1 : Nat) (Option.some (Jvm.ClassFile.FieldType.array Jvm.ClassFile.FieldType.int))).before args0 about1 = true := code_word (m := ⟨3, 2⟩) (meth := k3m2) (c := k3c2) (by decide +kernel) rfl rfl rfl (by decide +kernel)
set_option maxRecDepth 65536 in
theorem w_c9 : (Jvm.Cond.code ({ cls := "tidemark/log/RecordMarks$InRun", name := "<init>", desc := "(JIJJJ[I)V" } : Jvm.MethodName) prog_110_method_1_code (11 : Nat) (Option.none : Option Jvm.ClassFile.FieldType)).before args0 about1 = true := code_word (m := ⟨7, 0⟩) (meth := k7m0) (c := k7c0) (by decide +kernel) rfl rfl rfl (by decide +kernel)
set_option maxRecDepth 65536 in
theorem w_c10 : (Jvm.Cond.code ({ cls := "tidemark/log/RecordMarks$Span", name := "<init>", desc := "(JIJJJ[I)V" } : Jvm.MethodName) prog_116_method_1_code (11 : Nat) (Option.none : Option Jvm.ClassFile.FieldType)).before args0 about1 = true := code_word (m := ⟨6, 0⟩) (meth := k6m0) (c := k6c0) (by decide +kernel) rfl rfl rfl (by decide +kernel)
set_option maxRecDepth 65536 in
theorem w_c11 : (Jvm.Cond.code ({ cls := "tidemark/log/RecordMarks", name := "<init>", desc := "()V" } : Jvm.MethodName) prog_105_method_1_code (1 : Nat) (Option.none : Option Jvm.ClassFile.FieldType)).before args0 about1 = true := code_word (m := ⟨5, 0⟩) (meth := k5m0) (c := k5c0) (by decide +kernel) rfl rfl rfl (by decide +kernel)
set_option maxRecDepth 65536 in
theorem w_c12 : (Jvm.Cond.code ({ cls := "java/lang/Math", name := "toIntExact", desc := "(J)I" } : Jvm.MethodName) jdk_29_method_43_code (2 : Nat) (Option.some Jvm.ClassFile.FieldType.int)).before args0 about1 = true := code_word (m := ⟨4, 1⟩) (meth := k4m1) (c := k4c1) (by decide +kernel) rfl rfl rfl (by decide +kernel)
set_option maxRecDepth 65536 in
theorem w_c13 : (Jvm.Cond.code ({ cls := "tidemark/log/RecordMarks$Span", name := "nextOffset", desc := "()J" } : Jvm.MethodName) prog_116_method_5_code (1 : Nat) (Option.some Jvm.ClassFile.FieldType.long)).before args0 about1 = true := code_word (m := ⟨6, 2⟩) (meth := k6m2) (c := k6c2) (by decide +kernel) rfl rfl rfl (by decide +kernel)
set_option maxRecDepth 65536 in
theorem w_c14 : (Jvm.Cond.code ({ cls := "tidemark/log/RecordMarks$Span", name := "baseOffset", desc := "()J" } : Jvm.MethodName) prog_116_method_4_code (1 : Nat) (Option.some Jvm.ClassFile.FieldType.long)).before args0 about1 = true := code_word (m := ⟨6, 1⟩) (meth := k6m1) (c := k6c1) (by decide +kernel) rfl rfl rfl (by decide +kernel)
set_option maxRecDepth 65536 in
theorem w_c15 : (Jvm.Cond.code ({ cls := "tidemark/log/RecordMarks$LaterMarks", name := "add", desc := "(IJ)V" } : Jvm.MethodName) prog_113_method_2_code (5 : Nat) (Option.none : Option Jvm.ClassFile.FieldType)).before args0 about1 = true := code_word (m := ⟨3, 1⟩) (meth := k3m1) (c := k3c1) (by decide +kernel) rfl rfl rfl (by decide +kernel)
set_option maxRecDepth 65536 in
theorem w_c16 : (Jvm.Cond.code ({ cls := "java/util/Arrays", name := "copyOf", desc := "([II)[I" } : Jvm.MethodName) jdk_65_method_123_code (3 : Nat) (Option.some (Jvm.ClassFile.FieldType.array Jvm.ClassFile.FieldType.int))).before args0 about1 = true := code_word (m := ⟨8, 1⟩) (meth := k8m1) (c := k8c1) (by decide +kernel) rfl rfl rfl (by decide +kernel)
set_option maxRecDepth 65536 in
theorem w_c17 : (Jvm.Cond.code ({ cls := "java/lang/Math", name := "min", desc := "(II)I" } : Jvm.MethodName) jdk_29_method_69_code (2 : Nat) (Option.some Jvm.ClassFile.FieldType.int)).before args0 about1 = true := code_word (m := ⟨4, 3⟩) (meth := k4m3) (c := k4c3) (by decide +kernel) rfl rfl rfl (by decide +kernel)
def codes1 : List Jvm.Cond := [Jvm.Cond.code x code maxLocals ret, Jvm.Cond.code ({ cls := "tidemark/log/RecordMarks$RunMarking", name := "<init>", desc := "(J)V" } : Jvm.MethodName) prog_115_method_1_code (3 : Nat) (Option.none : Option Jvm.ClassFile.FieldType), Jvm.Cond.code ({ cls := "java/lang/Object", name := "<init>", desc := "()V" } : Jvm.MethodName) object_method_1_code (1 : Nat) (Option.none : Option Jvm.ClassFile.FieldType), Jvm.Cond.code ({ cls := "tidemark/log/RecordMarks$LaterMarks", name := "<init>", desc := "(I)V" } : Jvm.MethodName) prog_113_method_1_code (2 : Nat) (Option.none : Option Jvm.ClassFile.FieldType), Jvm.Cond.code ({ cls := "tidemark/log/RecordMarks$RunMarking", name := "add", desc := "(IJJJ)V" } : Jvm.MethodName) prog_115_method_3_code (8 : Nat) (Option.none : Option Jvm.ClassFile.FieldType), Jvm.Cond.code ({ cls := "java/lang/Math", name := "max", desc := "(JJ)J" } : Jvm.MethodName) jdk_29_method_66_code (4 : Nat) (Option.some Jvm.ClassFile.FieldType.long), Jvm.Cond.code ({ cls := "tidemark/log/RecordMarks$RunMarking", name := "takes", desc := "(J)Z" } : Jvm.MethodName) prog_115_method_2_code (5 : Nat) (Option.some Jvm.ClassFile.FieldType.boolean), Jvm.Cond.code ({ cls := "tidemark/log/RecordMarks$RunMarking", name := "marks", desc := "()Ltidemark/log/RecordMarks$Span;" } : Jvm.MethodName) prog_115_method_6_code (1 : Nat) (Option.some (Jvm.ClassFile.FieldType.object "tidemark/log/RecordMarks$Span")), Jvm.Cond.code ({ cls := "tidemark/log/RecordMarks$LaterMarks", name := "toArray", desc := "()[I" } : Jvm.MethodName) prog_113_method_3_code (1 : Nat) (Option.some (Jvm.ClassFile.FieldType.array Jvm.ClassFile.FieldType.int)), Jvm.Cond.code ({ cls := "tidemark/log/RecordMarks$InRun", name := "<init>", desc := "(JIJJJ[I)V" } : Jvm.MethodName) prog_110_method_1_code (11 : Nat) (Option.none : Option Jvm.ClassFile.FieldType), Jvm.Cond.code ({ cls := "tidemark/log/RecordMarks$Span", name := "<init>", desc := "(JIJJJ[I)V" } : Jvm.MethodName) prog_116_method_1_code (11 : Nat) (Option.none : Option Jvm.ClassFile.FieldType), Jvm.Cond.code ({ cls := "tidemark/log/RecordMarks", name := "<init>", desc := "()V" } : Jvm.MethodName) prog_105_method_1_code (1 : Nat) (Option.none : Option Jvm.ClassFile.FieldType), Jvm.Cond.code ({ cls := "java/lang/Math", name := "toIntExact", desc := "(J)I" } : Jvm.MethodName) jdk_29_method_43_code (2 : Nat) (Option.some Jvm.ClassFile.FieldType.int), Jvm.Cond.code ({ cls := "tidemark/log/RecordMarks$Span", name := "nextOffset", desc := "()J" } : Jvm.MethodName) prog_116_method_5_code (1 : Nat) (Option.some Jvm.ClassFile.FieldType.long), Jvm.Cond.code ({ cls := "tidemark/log/RecordMarks$Span", name := "baseOffset", desc := "()J" } : Jvm.MethodName) prog_116_method_4_code (1 : Nat) (Option.some Jvm.ClassFile.FieldType.long), Jvm.Cond.code ({ cls := "tidemark/log/RecordMarks$LaterMarks", name := "add", desc := "(IJ)V" } : Jvm.MethodName) prog_113_method_2_code (5 : Nat) (Option.none : Option Jvm.ClassFile.FieldType), Jvm.Cond.code ({ cls := "java/util/Arrays", name := "copyOf", desc := "([II)[I" } : Jvm.MethodName) jdk_65_method_123_code (3 : Nat) (Option.some (Jvm.ClassFile.FieldType.array Jvm.ClassFile.FieldType.int)), Jvm.Cond.code ({ cls := "java/lang/Math", name := "min", desc := "(II)I" } : Jvm.MethodName) jdk_29_method_69_code (2 : Nat) (Option.some Jvm.ClassFile.FieldType.int)]
set_option maxRecDepth 65536 in
theorem codes_eq : words1.filter isCode = codes1 := rfl
theorem w_codes : ∀ c ∈ words1.filter isCode, c.before args0 about1 = true := by
  rw [codes_eq]
  intro c hc
  simp only [codes1, List.mem_cons, List.not_mem_nil, or_false] at hc
  rcases hc with rfl | rfl | rfl | rfl | rfl | rfl | rfl | rfl | rfl | rfl | rfl | rfl | rfl | rfl | rfl | rfl | rfl | rfl
  · exact w_c0
  · exact w_c1
  · exact w_c2
  · exact w_c3
  · exact w_c4
  · exact w_c5
  · exact w_c6
  · exact w_c7
  · exact w_c8
  · exact w_c9
  · exact w_c10
  · exact w_c11
  · exact w_c12
  · exact w_c13
  · exact w_c14
  · exact w_c15
  · exact w_c16
  · exact w_c17
set_option maxRecDepth 65536 in
theorem w_t1 : (words1.take 24).all (fun c => isCode c || c.before args0 about1) = true := by decide +kernel
set_option maxRecDepth 65536 in
theorem w_t2 : ((words1.drop 24).take 24).all (fun c => isCode c || c.before args0 about1) = true := by decide +kernel
set_option maxRecDepth 65536 in
theorem w_t3 : (((words1.drop 24).drop 24).take 24).all (fun c => isCode c || c.before args0 about1) = true := by decide +kernel
set_option maxRecDepth 65536 in
theorem w_t4 : ((((words1.drop 24).drop 24).drop 24).take 24).all (fun c => isCode c || c.before args0 about1) = true := by decide +kernel
set_option maxRecDepth 65536 in
theorem w_t5 : (((((words1.drop 24).drop 24).drop 24).drop 24).take 24).all (fun c => isCode c || c.before args0 about1) = true := by decide +kernel
set_option maxRecDepth 65536 in
theorem w_t6 : (((((words1.drop 24).drop 24).drop 24).drop 24).drop 24).all (fun c => isCode c || c.before args0 about1) = true := by decide +kernel
theorem w_tables : (allAtoms (Jvm.Cond.code x code maxLocals ret :: tables_1)).before args0 about1 = true := by
  rw [allAtoms_all]
  show words1.all (fun c => c.before args0 about1) = true
  refine all_split ?_ w_codes
  rw [← List.take_append_drop 24 words1, List.all_append, w_t1, ← List.take_append_drop 24 (words1.drop 24), List.all_append, w_t2, ← List.take_append_drop 24 ((words1.drop 24).drop 24), List.all_append, w_t3, ← List.take_append_drop 24 (((words1.drop 24).drop 24).drop 24), List.all_append, w_t4, ← List.take_append_drop 24 ((((words1.drop 24).drop 24).drop 24).drop 24), List.all_append, w_t5, w_t6]
  rfl
set_option maxRecDepth 65536 in
theorem w_case : (Jvm.Cond.and given_1 narrow_1).before args0 about1 = true := by decide +kernel
theorem w_applies : (headSpec (Jvm.Cond.code x code maxLocals ret :: tables_1) room_1).applies x e0.platform about1 = true :=
  (Spec.applies_iff w_frames).mpr ⟨w_running, w_runnable, w_alone, w_named, w_hears, w_ripe, w_room, w_tables⟩
theorem atStart : AtStart classFile x code maxLocals ret World_1 tables_1 room_1 Calls_1 rest_1 Pre_1 launch0 p0 e0 about1 theMethod args0 below0 :=
  ⟨lists_1, trivial, launch0.admits_env _ _ _, launch0.least_env, fairChoices_fair.cas, fairChoices_fair.clock, w_frames, w_args, w_heap, w_applies, trivial, trivial, w_case⟩
end start1
theorem witness_1 : WitnessClaimed_1 := ⟨start1.p0, start1.e0, start1.about1, start1.theMethod, start1.args0, start1.below0, start1.atStart⟩
end Jvm.Pilot.@@N@@

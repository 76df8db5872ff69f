import JvmDerived
import JvmDerived.Pilot.@@N@@Statement
import JvmDerived.Pilot.@@N@@Code
set_option linter.unusedVariables false
set_option linter.unusedSimpArgs false
namespace Jvm.RoadKit
open Sem ClassFile Op Lib Jvm.Stand Jvm.Free Jvm.LawKit
section Own
variable {p : Program} {l : Launch} {e : Env} {R : Room} {s : State} {m : MethodId} {args : Array Value} {below : List Frame} {meth : Method} {c : Code} {T : State} {locs : List Loc} {cells slots : Nat} {Q : Option Value → Heap → List Loc → Prop} {Φ : Outcome → State → List Loc → Prop} {k n : Nat} {pc pc' : Nat} {L L' : Array Slot} {S : List Value}
def OG (p : Program) (e : Env) (below : List Frame) (Φ : Outcome → State → List Loc → Prop) (Q : Option Value → Heap → List Loc → Prop) (t : State) : Prop :=
  ∃ s₂ o, Steps p.tables e below t s₂ ∧ s₂.status = .running ∧ Ended s₂ below o ∧ ∃ v L, o = .returned v ∧ Q v s₂.heap L ∧ Φ o s₂ L
abbrev FE (s : State) (k n : Nat) : Outcome → State → List Loc → Prop := fun o t L => FrameEnd s o t L k n
abbrev FEW (s : State) (k n : Nat) : Outcome → State → List Loc → Prop := fun o t L => ReturnedEndW s o t L k n
theorem og_of {t t' : State} (st : ∀ g, Steps p.tables e below t' g → Steps p.tables e below t g) (G : OG p e below Φ Q t') : OG p e below Φ Q t := by
  obtain ⟨s₂, o, h, r⟩ := G; exact ⟨s₂, o, st _ h, r⟩
theorem og_tr {t t' : State} (st : Steps p.tables e below t t') (G : OG p e below Φ Q t') : OG p e below Φ Q t := og_of (fun _ k => st.trans k) G
def Lv (e : Env) (below : List Frame) (Φ : Outcome → State → List Loc → Prop) (m : MethodId) (meth : Method) (T : State) (locs : List Loc) : Prop :=
  ∀ v : Option Value, (meth.sig.returnType = none → v = none) → ∃ fs, (∀ (f : JFrame) (acts : List Action), f.method = m → f.locked = none → f.entered = [] → (doReturn e (T.setTop f) acts v).1 = T.setFrames fs) ∧ (T.setFrames fs).status = .running ∧ Ended (T.setFrames fs) below (.returned v) ∧ Φ (.returned v) (T.setFrames fs) locs
theorem own_lv (X : Stand p l e R s m args below meth c T locs cells slots) (hlk : meth.locks = false) (hk : cells ≤ k) (hn : slots ≤ n) : Lv e below (FE s k n) m meth T locs := fun v hv => by
  obtain ⟨fs, hr, hrun, hended, hW, hsame⟩ := X.leave (v := v) hv hlk
  exact ⟨fs, hr, hrun, hended, ⟨_, rfl⟩, hW, hsame.mono hk hn⟩
theorem own_lvW {vm₁ : Vm} {q : Nat} (X : Stand p l e R (s.setVm vm₁) m args below meth c T locs cells slots) (hlk : meth.locks = false) (hS : s.Since vm₁ q) (hq : q ≤ T.heap.size) (hk : cells ≤ k) (hn : slots ≤ n) : Lv e below (FEW s k n) m meth T locs := fun v hv => by
  obtain ⟨fs, hr, hrun, hended, h1, h2, h3, h4⟩ := X.leaveW hS hq (v := v) hv hlk
  exact ⟨fs, hr, hrun, hended, h1, h2, h3, h4.mono hk hn⟩
theorem og_end (hE : Lv e below Φ m meth T locs) {v : Option Value} (hv : meth.sig.returnType = none → v = none) {g : JFrame}
    (st : ∀ fs, (∀ (f : JFrame) (acts : List Action), f.method = m → f.locked = none → f.entered = [] → (doReturn e (T.setTop f) acts v).1 = T.setFrames fs) → Steps p.tables e below (T.setTop g) (T.setFrames fs))
    (hQ : Q v T.heap locs) : OG p e below Φ Q (T.setTop g) := by
  obtain ⟨fs, hr, hrun, hended, hF⟩ := hE v hv
  exact ⟨_, _, st fs hr, hrun, hended, _, _, rfl, hQ, hF⟩
theorem own_mono (X : Stand p l e R s m args below meth c T locs cells slots) {cells' slots' : Nat} (hc : cells ≤ cells') (hs : slots ≤ slots') : Stand p l e R s m args below meth c T locs cells' slots' :=
  ⟨X.admits, X.cas, X.clock, X.frames, X.room, X.hears, X.method, X.code, X.here, X.tail, X.warmed, X.limits, X.bytes, X.same.mono hc hs⟩
theorem retI (X : Stand p l e R s m args below meth c T locs cells slots) (hx : p.tables.exec = Jvm.exec) {pc : Nat} {Ls : Array Slot} {z : Int32} {rest : List Value} (hret : meth.sig.returnType = some .int) (hd : decode c.code pc = .ok (.ireturn, 1)) {fs : List Frame}
    (hl : ∀ (f : JFrame) (acts : List Action), f.method = m → f.locked = none → f.entered = [] → (doReturn e (T.setTop f) acts (some (.int z))).1 = T.setFrames fs) : Steps p.tables e below (T.setTop (mkF m pc Ls (.int z :: rest))) (T.setFrames fs) := by
  have hm' : T.vm.method? m = some meth := X.method'
  have hn : narrow .int (.int z) = .int z := rfl
  show Steps p.tables e below (T.setTop { method := m, pc := pc, locals := Ls, stack := _ :: rest, locked := none }) _
  jvm_step X.here [X.here.top, hx, hd, hm', hret, hn]
  first | (intro acts; rw [hl _ acts rfl rfl rfl]) | rw [hl _ _ rfl rfl rfl]
  exact Steps.refl _
theorem o_retI (X : Stand p l e R s m args below meth c T locs cells slots) (hx : p.tables.exec = Jvm.exec) (hret : meth.sig.returnType = some .int) (hE : Lv e below Φ m meth T locs) (hd : decode c.code pc = .ok (.ireturn, 1)) {z : Int32} (hQ : Q (some (.int z)) T.heap locs) : OG p e below Φ Q (T.setTop (mkF m pc L (.int z :: S))) :=
  og_end hE (fun h => by rw [hret] at h; cases h) (fun fs hr => retI X hx hret hd hr) hQ
theorem o_retN (X : Stand p l e R s m args below meth c T locs cells slots) (hx : p.tables.exec = Jvm.exec) {t : FieldType} (hret : meth.sig.returnType = some t) (ht : t = .boolean ∨ t = .byte ∨ t = .char ∨ t = .short) (hE : Lv e below Φ m meth T locs) (hd : decode c.code pc = .ok (.ireturn, 1)) {z : Int32} (hQ : Q (some (.int (nar t z))) T.heap locs) : OG p e below Φ Q (T.setTop (mkF m pc L (.int z :: S))) :=
  og_end hE (fun h => by rw [hret] at h; cases h) (fun fs hr => retN X hx hret ht hd hr) hQ
theorem o_retB (X : Stand p l e R s m args below meth c T locs cells slots) (hx : p.tables.exec = Jvm.exec) (hret : meth.sig.returnType = some .boolean) (hE : Lv e below Φ m meth T locs) (hd : decode c.code pc = .ok (.ireturn, 1)) {z : Int32} (hz : z = 0 ∨ z = 1) (hQ : Q (some (.int z)) T.heap locs) : OG p e below Φ Q (T.setTop (mkF m pc L (.int z :: S))) :=
  o_retN X hx hret (Or.inl rfl) hE hd (by have q : nar .boolean z = z := by { rcases hz with rfl | rfl <;> rfl }; rw [q]; exact hQ)
theorem o_retL (X : Stand p l e R s m args below meth c T locs cells slots) (hx : p.tables.exec = Jvm.exec) (hret : meth.sig.returnType = some .long) (hE : Lv e below Φ m meth T locs) (hd : decode c.code pc = .ok (.lreturn, 1)) {z : Int64} (hQ : Q (some (.long z)) T.heap locs) : OG p e below Φ Q (T.setTop (mkF m pc L (.long z :: S))) :=
  og_end hE (fun h => by rw [hret] at h; cases h) (fun fs hr => retOut X hx hret rfl (Or.inr (Or.inl ⟨rfl, rfl, z, rfl⟩)) hd hr) hQ
theorem o_retA (X : Stand p l e R s m args below meth c T locs cells slots) (hx : p.tables.exec = Jvm.exec) {t : FieldType} (hret : meth.sig.returnType = some t) (ht : t.isReference = true) (hE : Lv e below Φ m meth T locs) (hd : decode c.code pc = .ok (.areturn, 1)) {w : Value} (hw : w.isRef = true) (hnw : narrow t w = w) (hQ : Q (some w) T.heap locs) : OG p e below Φ Q (T.setTop (mkF m pc L (w :: S))) :=
  og_end hE (fun h => by rw [hret] at h; cases h) (fun fs hr => retOut X hx hret hnw (Or.inr (Or.inr (Or.inr (Or.inr ⟨rfl, ht, hw⟩)))) hd hr) hQ
theorem o_ret0 (X : Stand p l e R s m args below meth c T locs cells slots) (hx : p.tables.exec = Jvm.exec) (hret : meth.sig.returnType = none) (hE : Lv e below Φ m meth T locs) (hd : decode c.code pc = .ok (.return_, 1)) (hQ : Q none T.heap locs) : OG p e below Φ Q (T.setTop (mkF m pc L [])) :=
  og_end hE (fun _ => rfl) (fun fs hr => X.returnOut hx hret hd hr) hQ
theorem lcY_eq {x y : Int64} (h : x = y) : ifCond.holds .eq (lcmpW x y) = true ∧ ifCond.holds .ne (lcmpW x y) = false := ⟨(if0 _ _).trans (teq ((lw_eq x y).mpr h)).1, (if0 _ _).trans (teq ((lw_eq x y).mpr h)).2⟩
theorem lcN_eq {x y : Int64} (h : ¬ x = y) : ifCond.holds .eq (lcmpW x y) = false ∧ ifCond.holds .ne (lcmpW x y) = true := ⟨(if0 _ _).trans (feq (mt (lw_eq x y).mp h)).1, (if0 _ _).trans (feq (mt (lw_eq x y).mp h)).2⟩
theorem lcY_lt {x y : Int64} (h : x < y) : ifCond.holds .lt (lcmpW x y) = true ∧ ifCond.holds .ge (lcmpW x y) = false := ⟨(if0 _ _).trans (tlt ((lw_lt x y).mpr h)).1, (if0 _ _).trans (tlt ((lw_lt x y).mpr h)).2.1⟩
theorem lcN_lt {x y : Int64} (h : ¬ x < y) : ifCond.holds .lt (lcmpW x y) = false ∧ ifCond.holds .ge (lcmpW x y) = true := ⟨(if0 _ _).trans (flt (mt (lw_lt x y).mp h)).1, (if0 _ _).trans (flt (mt (lw_lt x y).mp h)).2.1⟩
theorem lcY_gt {x y : Int64} (h : y < x) : ifCond.holds .gt (lcmpW x y) = true ∧ ifCond.holds .le (lcmpW x y) = false := ⟨(if0 _ _).trans (tlt ((lw_gt x y).mpr h)).2.2.1, (if0 _ _).trans (tlt ((lw_gt x y).mpr h)).2.2.2⟩
theorem lcN_gt {x y : Int64} (h : ¬ y < x) : ifCond.holds .gt (lcmpW x y) = false ∧ ifCond.holds .le (lcmpW x y) = true := ⟨(if0 _ _).trans (flt (mt (lw_gt x y).mp h)).2.2.1, (if0 _ _).trans (flt (mt (lw_gt x y).mp h)).2.2.2⟩
theorem o_iloadN (X : Stand p l e R s m args below meth c T locs cells slots) (hx : p.tables.exec = Jvm.exec) {i : Fin 4} {v : Int32} (hp : pc + 1 = pc') (hd : decode c.code pc = .ok (.iload_n i, 1)) (hl : L[i.val]? = some (.val (.int v))) (G : OG p e below Φ Q (T.setTop (mkF m pc' L (.int v :: S)))) : OG p e below Φ Q (T.setTop (mkF m pc L S)) := by
  subst hp; exact og_of (fun _ st => XS.iloadN X.here hx rfl hd hl st) G
theorem o_iload (X : Stand p l e R s m args below meth c T locs cells slots) (hx : p.tables.exec = Jvm.exec) {i : Nat} {v : Int32} (hp : pc + 2 = pc') (hd : decode c.code pc = .ok (.iload i, 2)) (hl : L[i]? = some (.val (.int v))) (G : OG p e below Φ Q (T.setTop (mkF m pc' L (.int v :: S)))) : OG p e below Φ Q (T.setTop (mkF m pc L S)) := by
  subst hp; exact og_of (fun _ st => XS.iload X.here hx rfl hd hl st) G
theorem o_istoreN (X : Stand p l e R s m args below meth c T locs cells slots) (hx : p.tables.exec = Jvm.exec) {i : Fin 4} {v : Int32} (hp : pc + 1 = pc') (hd : decode c.code pc = .ok (.istore_n i, 1)) (hl : storeLocals L i.val (.int v) = some L') (G : OG p e below Φ Q (T.setTop (mkF m pc' L' S))) : OG p e below Φ Q (T.setTop (mkF m pc L (.int v :: S))) := by
  subst hp; exact og_of (fun _ st => XS.istoreN X.here hx rfl hd rfl hl st) G
theorem o_istore (X : Stand p l e R s m args below meth c T locs cells slots) (hx : p.tables.exec = Jvm.exec) {i : Nat} {v : Int32} (hp : pc + 2 = pc') (hd : decode c.code pc = .ok (.istore i, 2)) (hl : storeLocals L i (.int v) = some L') (G : OG p e below Φ Q (T.setTop (mkF m pc' L' S))) : OG p e below Φ Q (T.setTop (mkF m pc L (.int v :: S))) := by
  subst hp; exact og_of (fun _ st => XS.istore X.here hx rfl hd rfl hl st) G
theorem o_lloadN (X : Stand p l e R s m args below meth c T locs cells slots) (hx : p.tables.exec = Jvm.exec) {i : Fin 4} {v : Int64} (hp : pc + 1 = pc') (hd : decode c.code pc = .ok (.lload_n i, 1)) (hl : L[i.val]? = some (.val (.long v))) (G : OG p e below Φ Q (T.setTop (mkF m pc' L (.long v :: S)))) : OG p e below Φ Q (T.setTop (mkF m pc L S)) := by
  subst hp; exact og_of (fun _ st => XS.lloadN X.here hx rfl hd hl st) G
theorem o_lload (X : Stand p l e R s m args below meth c T locs cells slots) (hx : p.tables.exec = Jvm.exec) {i : Nat} {v : Int64} (hp : pc + 2 = pc') (hd : decode c.code pc = .ok (.lload i, 2)) (hl : L[i]? = some (.val (.long v))) (G : OG p e below Φ Q (T.setTop (mkF m pc' L (.long v :: S)))) : OG p e below Φ Q (T.setTop (mkF m pc L S)) := by
  subst hp; exact og_of (fun _ st => XS.lload X.here hx rfl hd hl st) G
theorem o_lstoreN (X : Stand p l e R s m args below meth c T locs cells slots) (hx : p.tables.exec = Jvm.exec) {i : Fin 4} {v : Int64} (hp : pc + 1 = pc') (hd : decode c.code pc = .ok (.lstore_n i, 1)) (hl : storeLocals L i.val (.long v) = some L') (G : OG p e below Φ Q (T.setTop (mkF m pc' L' S))) : OG p e below Φ Q (T.setTop (mkF m pc L (.long v :: S))) := by
  subst hp; exact og_of (fun _ st => XS.lstoreN X.here hx rfl hd rfl hl st) G
theorem o_lstore (X : Stand p l e R s m args below meth c T locs cells slots) (hx : p.tables.exec = Jvm.exec) {i : Nat} {v : Int64} (hp : pc + 2 = pc') (hd : decode c.code pc = .ok (.lstore i, 2)) (hl : storeLocals L i (.long v) = some L') (G : OG p e below Φ Q (T.setTop (mkF m pc' L' S))) : OG p e below Φ Q (T.setTop (mkF m pc L (.long v :: S))) := by
  subst hp; exact og_of (fun _ st => XS.lstore X.here hx rfl hd rfl hl st) G
theorem o_aloadN (X : Stand p l e R s m args below meth c T locs cells slots) (hx : p.tables.exec = Jvm.exec) {i : Fin 4} {v : Value} (hp : pc + 1 = pc') (hd : decode c.code pc = .ok (.aload_n i, 1)) (hl : L[i.val]? = some (.val v)) (hv : v.isRef = true) (G : OG p e below Φ Q (T.setTop (mkF m pc' L (v :: S)))) : OG p e below Φ Q (T.setTop (mkF m pc L S)) := by
  subst hp; exact og_of (fun _ st => XS.aloadN X.here hx rfl hd hl hv st) G
theorem o_aload (X : Stand p l e R s m args below meth c T locs cells slots) (hx : p.tables.exec = Jvm.exec) {i : Nat} {v : Value} (hp : pc + 2 = pc') (hd : decode c.code pc = .ok (.aload i, 2)) (hl : L[i]? = some (.val v)) (hv : v.isRef = true) (G : OG p e below Φ Q (T.setTop (mkF m pc' L (v :: S)))) : OG p e below Φ Q (T.setTop (mkF m pc L S)) := by
  subst hp; exact og_of (fun _ st => XS.aload X.here hx rfl hd hl hv st) G
theorem o_astoreN (X : Stand p l e R s m args below meth c T locs cells slots) (hx : p.tables.exec = Jvm.exec) {i : Fin 4} {v : Value} (hp : pc + 1 = pc') (hd : decode c.code pc = .ok (.astore_n i, 1)) (hv : v.isRef = true) (hl : storeLocals L i.val v = some L') (G : OG p e below Φ Q (T.setTop (mkF m pc' L' S))) : OG p e below Φ Q (T.setTop (mkF m pc L (v :: S))) := by
  subst hp; exact og_of (fun _ st => XS.astoreN X.here hx rfl hd rfl hv hl st) G
theorem o_astore (X : Stand p l e R s m args below meth c T locs cells slots) (hx : p.tables.exec = Jvm.exec) {i : Nat} {v : Value} (hp : pc + 2 = pc') (hd : decode c.code pc = .ok (.astore i, 2)) (hv : v.isRef = true) (hl : storeLocals L i v = some L') (G : OG p e below Φ Q (T.setTop (mkF m pc' L' S))) : OG p e below Φ Q (T.setTop (mkF m pc L (v :: S))) := by
  subst hp; exact og_of (fun _ st => XS.astore X.here hx rfl hd rfl hv hl st) G
theorem o_iconst (X : Stand p l e R s m args below meth c T locs cells slots) (hx : p.tables.exec = Jvm.exec) {i : Int} {z : Int32} (hp : pc + 1 = pc') (hd : decode c.code pc = .ok (.iconst i, 1)) (hz : Int32.ofInt i = z) (G : OG p e below Φ Q (T.setTop (mkF m pc' L (.int z :: S)))) : OG p e below Φ Q (T.setTop (mkF m pc L S)) := by
  subst hp hz; exact og_of (fun _ st => XS.iconst X.here hx rfl hd st) G
theorem o_bipush (X : Stand p l e R s m args below meth c T locs cells slots) (hx : p.tables.exec = Jvm.exec) {i : Int} {z : Int32} (hp : pc + 2 = pc') (hd : decode c.code pc = .ok (.bipush i, 2)) (hz : (Int8.ofInt i).toInt32 = z) (G : OG p e below Φ Q (T.setTop (mkF m pc' L (.int z :: S)))) : OG p e below Φ Q (T.setTop (mkF m pc L S)) := by
  subst hp hz; exact og_of (fun _ st => XS.bipush X.here hx rfl hd st) G
theorem o_sipush (X : Stand p l e R s m args below meth c T locs cells slots) (hx : p.tables.exec = Jvm.exec) {i : Int} {z : Int32} (hp : pc + 3 = pc') (hd : decode c.code pc = .ok (.sipush i, 3)) (hz : (Int16.ofInt i).toInt32 = z) (G : OG p e below Φ Q (T.setTop (mkF m pc' L (.int z :: S)))) : OG p e below Φ Q (T.setTop (mkF m pc L S)) := by
  subst hp hz; exact og_of (fun _ st => XS.sipush X.here hx rfl hd st) G
theorem o_lconst (X : Stand p l e R s m args below meth c T locs cells slots) (hx : p.tables.exec = Jvm.exec) {i : Fin 2} {z : Int64} (hp : pc + 1 = pc') (hd : decode c.code pc = .ok (.lconst i, 1)) (hz : Int64.ofNat i = z) (G : OG p e below Φ Q (T.setTop (mkF m pc' L (.long z :: S)))) : OG p e below Φ Q (T.setTop (mkF m pc L S)) := by
  subst hp hz; exact og_of (fun _ st => XS.lconst X.here hx rfl hd st) G
theorem o_aconst_null (X : Stand p l e R s m args below meth c T locs cells slots) (hx : p.tables.exec = Jvm.exec) (hp : pc + 1 = pc') (hd : decode c.code pc = .ok (.aconst_null, 1))  (G : OG p e below Φ Q (T.setTop (mkF m pc' L (.null :: S)))) : OG p e below Φ Q (T.setTop (mkF m pc L S)) := by
  subst hp; exact og_of (fun _ st => XS.aconstNull X.here hx rfl hd st) G
theorem o_iadd (X : Stand p l e R s m args below meth c T locs cells slots) (hx : p.tables.exec = Jvm.exec) {x : Int32} {y : Int32} {z : Int32} (hp : pc + 1 = pc') (hd : decode c.code pc = .ok (.iadd, 1)) (hz : x + y = z) (G : OG p e below Φ Q (T.setTop (mkF m pc' L (.int z :: S)))) : OG p e below Φ Q (T.setTop (mkF m pc L (.int y :: .int x :: S))) := by
  subst hp hz; exact og_of (fun _ st => XS.iadd X.here hx rfl hd rfl st) G
theorem o_ladd (X : Stand p l e R s m args below meth c T locs cells slots) (hx : p.tables.exec = Jvm.exec) {x : Int64} {y : Int64} {z : Int64} (hp : pc + 1 = pc') (hd : decode c.code pc = .ok (.ladd, 1)) (hz : x + y = z) (G : OG p e below Φ Q (T.setTop (mkF m pc' L (.long z :: S)))) : OG p e below Φ Q (T.setTop (mkF m pc L (.long y :: .long x :: S))) := by
  subst hp hz; exact og_of (fun _ st => XS.ladd X.here hx rfl hd rfl st) G
theorem o_isub (X : Stand p l e R s m args below meth c T locs cells slots) (hx : p.tables.exec = Jvm.exec) {x : Int32} {y : Int32} {z : Int32} (hp : pc + 1 = pc') (hd : decode c.code pc = .ok (.isub, 1)) (hz : x - y = z) (G : OG p e below Φ Q (T.setTop (mkF m pc' L (.int z :: S)))) : OG p e below Φ Q (T.setTop (mkF m pc L (.int y :: .int x :: S))) := by
  subst hp hz; exact og_of (fun _ st => XS.isub X.here hx rfl hd rfl st) G
theorem o_lsub (X : Stand p l e R s m args below meth c T locs cells slots) (hx : p.tables.exec = Jvm.exec) {x : Int64} {y : Int64} {z : Int64} (hp : pc + 1 = pc') (hd : decode c.code pc = .ok (.lsub, 1)) (hz : x - y = z) (G : OG p e below Φ Q (T.setTop (mkF m pc' L (.long z :: S)))) : OG p e below Φ Q (T.setTop (mkF m pc L (.long y :: .long x :: S))) := by
  subst hp hz; exact og_of (fun _ st => XS.lsub X.here hx rfl hd rfl st) G
theorem o_imul (X : Stand p l e R s m args below meth c T locs cells slots) (hx : p.tables.exec = Jvm.exec) {x : Int32} {y : Int32} {z : Int32} (hp : pc + 1 = pc') (hd : decode c.code pc = .ok (.imul, 1)) (hz : x * y = z) (G : OG p e below Φ Q (T.setTop (mkF m pc' L (.int z :: S)))) : OG p e below Φ Q (T.setTop (mkF m pc L (.int y :: .int x :: S))) := by
  subst hp hz; exact og_of (fun _ st => XS.imul X.here hx rfl hd rfl st) G
theorem o_lmul (X : Stand p l e R s m args below meth c T locs cells slots) (hx : p.tables.exec = Jvm.exec) {x : Int64} {y : Int64} {z : Int64} (hp : pc + 1 = pc') (hd : decode c.code pc = .ok (.lmul, 1)) (hz : x * y = z) (G : OG p e below Φ Q (T.setTop (mkF m pc' L (.long z :: S)))) : OG p e below Φ Q (T.setTop (mkF m pc L (.long y :: .long x :: S))) := by
  subst hp hz; exact og_of (fun _ st => XS.lmul X.here hx rfl hd rfl st) G
theorem o_iand (X : Stand p l e R s m args below meth c T locs cells slots) (hx : p.tables.exec = Jvm.exec) {x : Int32} {y : Int32} {z : Int32} (hp : pc + 1 = pc') (hd : decode c.code pc = .ok (.iand, 1)) (hz : x &&& y = z) (G : OG p e below Φ Q (T.setTop (mkF m pc' L (.int z :: S)))) : OG p e below Φ Q (T.setTop (mkF m pc L (.int y :: .int x :: S))) := by
  subst hp hz; exact og_of (fun _ st => XS.iand X.here hx rfl hd rfl st) G
theorem o_land (X : Stand p l e R s m args below meth c T locs cells slots) (hx : p.tables.exec = Jvm.exec) {x : Int64} {y : Int64} {z : Int64} (hp : pc + 1 = pc') (hd : decode c.code pc = .ok (.land, 1)) (hz : x &&& y = z) (G : OG p e below Φ Q (T.setTop (mkF m pc' L (.long z :: S)))) : OG p e below Φ Q (T.setTop (mkF m pc L (.long y :: .long x :: S))) := by
  subst hp hz; exact og_of (fun _ st => XS.land X.here hx rfl hd rfl st) G
theorem o_ior (X : Stand p l e R s m args below meth c T locs cells slots) (hx : p.tables.exec = Jvm.exec) {x : Int32} {y : Int32} {z : Int32} (hp : pc + 1 = pc') (hd : decode c.code pc = .ok (.ior, 1)) (hz : x ||| y = z) (G : OG p e below Φ Q (T.setTop (mkF m pc' L (.int z :: S)))) : OG p e below Φ Q (T.setTop (mkF m pc L (.int y :: .int x :: S))) := by
  subst hp hz; exact og_of (fun _ st => XS.ior X.here hx rfl hd rfl st) G
theorem o_lor (X : Stand p l e R s m args below meth c T locs cells slots) (hx : p.tables.exec = Jvm.exec) {x : Int64} {y : Int64} {z : Int64} (hp : pc + 1 = pc') (hd : decode c.code pc = .ok (.lor, 1)) (hz : x ||| y = z) (G : OG p e below Φ Q (T.setTop (mkF m pc' L (.long z :: S)))) : OG p e below Φ Q (T.setTop (mkF m pc L (.long y :: .long x :: S))) := by
  subst hp hz; exact og_of (fun _ st => XS.lor X.here hx rfl hd rfl st) G
theorem o_ixor (X : Stand p l e R s m args below meth c T locs cells slots) (hx : p.tables.exec = Jvm.exec) {x : Int32} {y : Int32} {z : Int32} (hp : pc + 1 = pc') (hd : decode c.code pc = .ok (.ixor, 1)) (hz : x ^^^ y = z) (G : OG p e below Φ Q (T.setTop (mkF m pc' L (.int z :: S)))) : OG p e below Φ Q (T.setTop (mkF m pc L (.int y :: .int x :: S))) := by
  subst hp hz; exact og_of (fun _ st => XS.ixor X.here hx rfl hd rfl st) G
theorem o_lxor (X : Stand p l e R s m args below meth c T locs cells slots) (hx : p.tables.exec = Jvm.exec) {x : Int64} {y : Int64} {z : Int64} (hp : pc + 1 = pc') (hd : decode c.code pc = .ok (.lxor, 1)) (hz : x ^^^ y = z) (G : OG p e below Φ Q (T.setTop (mkF m pc' L (.long z :: S)))) : OG p e below Φ Q (T.setTop (mkF m pc L (.long y :: .long x :: S))) := by
  subst hp hz; exact og_of (fun _ st => XS.lxor X.here hx rfl hd rfl st) G
theorem o_ishl (X : Stand p l e R s m args below meth c T locs cells slots) (hx : p.tables.exec = Jvm.exec) {x : Int32} {y : Int32} {z : Int32} (hp : pc + 1 = pc') (hd : decode c.code pc = .ok (.ishl, 1)) (hz : x <<< (y &&& 31) = z) (G : OG p e below Φ Q (T.setTop (mkF m pc' L (.int z :: S)))) : OG p e below Φ Q (T.setTop (mkF m pc L (.int y :: .int x :: S))) := by
  subst hp hz; exact og_of (fun _ st => XS.ishl X.here hx rfl hd rfl st) G
theorem o_ishr (X : Stand p l e R s m args below meth c T locs cells slots) (hx : p.tables.exec = Jvm.exec) {x : Int32} {y : Int32} {z : Int32} (hp : pc + 1 = pc') (hd : decode c.code pc = .ok (.ishr, 1)) (hz : x >>> (y &&& 31) = z) (G : OG p e below Φ Q (T.setTop (mkF m pc' L (.int z :: S)))) : OG p e below Φ Q (T.setTop (mkF m pc L (.int y :: .int x :: S))) := by
  subst hp hz; exact og_of (fun _ st => XS.ishr X.here hx rfl hd rfl st) G
theorem o_iushr (X : Stand p l e R s m args below meth c T locs cells slots) (hx : p.tables.exec = Jvm.exec) {x : Int32} {y : Int32} {z : Int32} (hp : pc + 1 = pc') (hd : decode c.code pc = .ok (.iushr, 1)) (hz : (x.toUInt32 >>> (y &&& 31).toUInt32).toInt32 = z) (G : OG p e below Φ Q (T.setTop (mkF m pc' L (.int z :: S)))) : OG p e below Φ Q (T.setTop (mkF m pc L (.int y :: .int x :: S))) := by
  subst hp hz; exact og_of (fun _ st => XS.iushr X.here hx rfl hd rfl st) G
theorem o_lshl (X : Stand p l e R s m args below meth c T locs cells slots) (hx : p.tables.exec = Jvm.exec) {x : Int64} {y : Int32} {z : Int64} (hp : pc + 1 = pc') (hd : decode c.code pc = .ok (.lshl, 1)) (hz : x <<< (y &&& 0x3f).toInt64 = z) (G : OG p e below Φ Q (T.setTop (mkF m pc' L (.long z :: S)))) : OG p e below Φ Q (T.setTop (mkF m pc L (.int y :: .long x :: S))) := by
  subst hp hz; exact og_of (fun _ st => XS.lshl X.here hx rfl hd rfl st) G
theorem o_lshr (X : Stand p l e R s m args below meth c T locs cells slots) (hx : p.tables.exec = Jvm.exec) {x : Int64} {y : Int32} {z : Int64} (hp : pc + 1 = pc') (hd : decode c.code pc = .ok (.lshr, 1)) (hz : x >>> (y &&& 0x3f).toInt64 = z) (G : OG p e below Φ Q (T.setTop (mkF m pc' L (.long z :: S)))) : OG p e below Φ Q (T.setTop (mkF m pc L (.int y :: .long x :: S))) := by
  subst hp hz; exact og_of (fun _ st => XS.lshr X.here hx rfl hd rfl st) G
theorem o_lushr (X : Stand p l e R s m args below meth c T locs cells slots) (hx : p.tables.exec = Jvm.exec) {x : Int64} {y : Int32} {z : Int64} (hp : pc + 1 = pc') (hd : decode c.code pc = .ok (.lushr, 1)) (hz : (x.toUInt64 >>> (y &&& 0x3f).toInt64.toUInt64).toInt64 = z) (G : OG p e below Φ Q (T.setTop (mkF m pc' L (.long z :: S)))) : OG p e below Φ Q (T.setTop (mkF m pc L (.int y :: .long x :: S))) := by
  subst hp hz; exact og_of (fun _ st => XS.lushr X.here hx rfl hd rfl st) G
theorem o_idiv (X : Stand p l e R s m args below meth c T locs cells slots) (hx : p.tables.exec = Jvm.exec) {x : Int32} {y : Int32} {z : Int32} (hp : pc + 1 = pc') (hd : decode c.code pc = .ok (.idiv, 1)) (hz : x / y = z) (hy : y ≠ 0) (G : OG p e below Φ Q (T.setTop (mkF m pc' L (.int z :: S)))) : OG p e below Φ Q (T.setTop (mkF m pc L (.int y :: .int x :: S))) := by
  subst hp hz; exact og_of (fun _ st => XS.idiv X.here hx rfl hd rfl hy st) G
theorem o_ldiv (X : Stand p l e R s m args below meth c T locs cells slots) (hx : p.tables.exec = Jvm.exec) {x : Int64} {y : Int64} {z : Int64} (hp : pc + 1 = pc') (hd : decode c.code pc = .ok (.ldiv, 1)) (hz : x / y = z) (hy : y ≠ 0) (G : OG p e below Φ Q (T.setTop (mkF m pc' L (.long z :: S)))) : OG p e below Φ Q (T.setTop (mkF m pc L (.long y :: .long x :: S))) := by
  subst hp hz; exact og_of (fun _ st => XS.ldiv X.here hx rfl hd rfl hy st) G
theorem o_irem (X : Stand p l e R s m args below meth c T locs cells slots) (hx : p.tables.exec = Jvm.exec) {x y z : Int32} (hp : pc + 1 = pc') (hd : decode c.code pc = .ok (.irem, 1)) (hz : x % y = z) (hy : y ≠ 0) (G : OG p e below Φ Q (T.setTop (mkF m pc' L (.int z :: S)))) : OG p e below Φ Q (T.setTop (mkF m pc L (.int y :: .int x :: S))) := by
  subst hp hz; exact og_of (fun _ st => XS.irem X.here hx rfl hd rfl hy (by rw [irem_eq_mod x y]; exact st)) G
theorem o_lrem (X : Stand p l e R s m args below meth c T locs cells slots) (hx : p.tables.exec = Jvm.exec) {x y z : Int64} (hp : pc + 1 = pc') (hd : decode c.code pc = .ok (.lrem, 1)) (hz : x % y = z) (hy : y ≠ 0) (G : OG p e below Φ Q (T.setTop (mkF m pc' L (.long z :: S)))) : OG p e below Φ Q (T.setTop (mkF m pc L (.long y :: .long x :: S))) := by
  subst hp hz; exact og_of (fun _ st => XS.lrem X.here hx rfl hd rfl hy (by rw [lrem_mod x y]; exact st)) G
theorem o_ineg (X : Stand p l e R s m args below meth c T locs cells slots) (hx : p.tables.exec = Jvm.exec) {x : Int32} {z : Int32} (hp : pc + 1 = pc') (hd : decode c.code pc = .ok (.ineg, 1)) (hz : -x = z) (G : OG p e below Φ Q (T.setTop (mkF m pc' L (.int z :: S)))) : OG p e below Φ Q (T.setTop (mkF m pc L (.int x :: S))) := by
  subst hp hz; exact og_of (fun _ st => XS.ineg X.here hx rfl hd rfl st) G
theorem o_lneg (X : Stand p l e R s m args below meth c T locs cells slots) (hx : p.tables.exec = Jvm.exec) {x : Int64} {z : Int64} (hp : pc + 1 = pc') (hd : decode c.code pc = .ok (.lneg, 1)) (hz : -x = z) (G : OG p e below Φ Q (T.setTop (mkF m pc' L (.long z :: S)))) : OG p e below Φ Q (T.setTop (mkF m pc L (.long x :: S))) := by
  subst hp hz; exact og_of (fun _ st => XS.lneg X.here hx rfl hd rfl st) G
theorem o_i2l (X : Stand p l e R s m args below meth c T locs cells slots) (hx : p.tables.exec = Jvm.exec) {x : Int32} {z : Int64} (hp : pc + 1 = pc') (hd : decode c.code pc = .ok (.i2l, 1)) (hz : x.toInt64 = z) (G : OG p e below Φ Q (T.setTop (mkF m pc' L (.long z :: S)))) : OG p e below Φ Q (T.setTop (mkF m pc L (.int x :: S))) := by
  subst hp hz; exact og_of (fun _ st => XS.i2l X.here hx rfl hd rfl st) G
theorem o_l2i (X : Stand p l e R s m args below meth c T locs cells slots) (hx : p.tables.exec = Jvm.exec) {x : Int64} {z : Int32} (hp : pc + 1 = pc') (hd : decode c.code pc = .ok (.l2i, 1)) (hz : x.toInt32 = z) (G : OG p e below Φ Q (T.setTop (mkF m pc' L (.int z :: S)))) : OG p e below Φ Q (T.setTop (mkF m pc L (.long x :: S))) := by
  subst hp hz; exact og_of (fun _ st => XS.l2i X.here hx rfl hd rfl st) G
theorem o_i2b (X : Stand p l e R s m args below meth c T locs cells slots) (hx : p.tables.exec = Jvm.exec) {x : Int32} {z : Int32} (hp : pc + 1 = pc') (hd : decode c.code pc = .ok (.i2b, 1)) (hz : x.toInt8.toInt32 = z) (G : OG p e below Φ Q (T.setTop (mkF m pc' L (.int z :: S)))) : OG p e below Φ Q (T.setTop (mkF m pc L (.int x :: S))) := by
  subst hp hz; exact og_of (fun _ st => XS.i2b X.here hx rfl hd rfl st) G
theorem o_i2s (X : Stand p l e R s m args below meth c T locs cells slots) (hx : p.tables.exec = Jvm.exec) {x : Int32} {z : Int32} (hp : pc + 1 = pc') (hd : decode c.code pc = .ok (.i2s, 1)) (hz : x.toInt16.toInt32 = z) (G : OG p e below Φ Q (T.setTop (mkF m pc' L (.int z :: S)))) : OG p e below Φ Q (T.setTop (mkF m pc L (.int x :: S))) := by
  subst hp hz; exact og_of (fun _ st => XS.i2s X.here hx rfl hd rfl st) G
theorem o_i2c (X : Stand p l e R s m args below meth c T locs cells slots) (hx : p.tables.exec = Jvm.exec) {x : Int32} {z : Int32} (hp : pc + 1 = pc') (hd : decode c.code pc = .ok (.i2c, 1)) (hz : x.toUInt32.toUInt16.toUInt32.toInt32 = z) (G : OG p e below Φ Q (T.setTop (mkF m pc' L (.int z :: S)))) : OG p e below Φ Q (T.setTop (mkF m pc L (.int x :: S))) := by
  subst hp hz; exact og_of (fun _ st => XS.i2c X.here hx rfl hd rfl st) G
theorem o_lcmp (X : Stand p l e R s m args below meth c T locs cells slots) (hx : p.tables.exec = Jvm.exec) {x y : Int64} (hp : pc + 1 = pc') (hd : decode c.code pc = .ok (.lcmp, 1))  (G : OG p e below Φ Q (T.setTop (mkF m pc' L (.int (lcmpW x y) :: S)))) : OG p e below Φ Q (T.setTop (mkF m pc L (.long y :: .long x :: S))) := by
  subst hp; exact og_of (fun _ st => XS.lcmp X.here hx rfl hd rfl st) G
theorem o_dup (X : Stand p l e R s m args below meth c T locs cells slots) (hx : p.tables.exec = Jvm.exec) {v : Value} (hp : pc + 1 = pc') (hd : decode c.code pc = .ok (.dup, 1)) (hc : v.category = 1) (G : OG p e below Φ Q (T.setTop (mkF m pc' L (v :: v :: S)))) : OG p e below Φ Q (T.setTop (mkF m pc L (v :: S))) := by
  subst hp; exact og_of (fun _ st => XS.dup X.here hx rfl hd rfl hc st) G
theorem o_pop (X : Stand p l e R s m args below meth c T locs cells slots) (hx : p.tables.exec = Jvm.exec) {v : Value} (hp : pc + 1 = pc') (hd : decode c.code pc = .ok (.pop, 1)) (hc : v.category = 1) (G : OG p e below Φ Q (T.setTop (mkF m pc' L S))) : OG p e below Φ Q (T.setTop (mkF m pc L (v :: S))) := by
  subst hp; exact og_of (fun _ st => XS.pop X.here hx rfl hd rfl hc st) G
theorem o_dup_x1 (X : Stand p l e R s m args below meth c T locs cells slots) (hx : p.tables.exec = Jvm.exec) {v w : Value} (hp : pc + 1 = pc') (hd : decode c.code pc = .ok (.dup_x1, 1)) (hc : v.category = 1) (hc2 : w.category = 1) (G : OG p e below Φ Q (T.setTop (mkF m pc' L (v :: w :: v :: S)))) : OG p e below Φ Q (T.setTop (mkF m pc L (v :: w :: S))) := by
  subst hp; exact og_of (fun _ st => XS.dupX1 X.here hx rfl hd rfl hc hc2 st) G
theorem o_dup2 (X : Stand p l e R s m args below meth c T locs cells slots) (hx : p.tables.exec = Jvm.exec) {v w : Value} (hp : pc + 1 = pc') (hd : decode c.code pc = .ok (.dup2, 1)) (hc : v.category = 1) (hc2 : w.category = 1) (G : OG p e below Φ Q (T.setTop (mkF m pc' L (v :: w :: v :: w :: S)))) : OG p e below Φ Q (T.setTop (mkF m pc L (v :: w :: S))) := by
  subst hp; exact og_of (fun _ st => XT.dup2 X.here hx rfl hd rfl hc hc2 st) G
theorem o_dup2L (X : Stand p l e R s m args below meth c T locs cells slots) (hx : p.tables.exec = Jvm.exec) {v : Int64} (hp : pc + 1 = pc') (hd : decode c.code pc = .ok (.dup2, 1))  (G : OG p e below Φ Q (T.setTop (mkF m pc' L (.long v :: .long v :: S)))) : OG p e below Φ Q (T.setTop (mkF m pc L (.long v :: S))) := by
  subst hp; exact og_of (fun _ st => XT.dup2L X.here hx rfl hd rfl st) G
theorem o_dup_x2 (X : Stand p l e R s m args below meth c T locs cells slots) (hx : p.tables.exec = Jvm.exec) {u v w : Value} (hp : pc + 1 = pc') (hd : decode c.code pc = .ok (.dup_x2, 1)) (hu : u.category = 1) (hv : v.category = 1) (hw : w.category = 1) (G : OG p e below Φ Q (T.setTop (mkF m pc' L (u :: v :: w :: u :: S)))) : OG p e below Φ Q (T.setTop (mkF m pc L (u :: v :: w :: S))) := by
  subst hp; refine og_of (fun _ st => ?_) G
  jvm_step X.here [X.here.top, hx, hd, hu, hv, hw]
  exact st
theorem o_iinc (X : Stand p l e R s m args below meth c T locs cells slots) (hx : p.tables.exec = Jvm.exec) {i : Nat} {cst : Int} {x z : Int32} (hp : pc + 3 = pc') (hd : decode c.code pc = .ok (.iinc i cst, 3)) (hl : L[i]? = some (.val (.int x))) (hz : x + Int32.ofInt cst = z) (hl' : storeLocals L i (.int z) = some L') (G : OG p e below Φ Q (T.setTop (mkF m pc' L' S))) : OG p e below Φ Q (T.setTop (mkF m pc L S)) := by
  subst hp hz; exact og_of (fun _ st => XS.iinc X.here hx rfl hd hl hl' st) G
theorem o_goto (X : Stand p l e R s m args below meth c T locs cells slots) (hx : p.tables.exec = Jvm.exec) {o : Int} (hd : decode c.code pc = .ok (.goto o, 3)) (ho : 0 ≤ (pc : Int) + o) (hp : ((pc : Int) + o).toNat = pc') (G : OG p e below Φ Q (T.setTop (mkF m pc' L S))) : OG p e below Φ Q (T.setTop (mkF m pc L S)) := og_of (fun _ st => XS.goto X.here hx rfl rfl hd ho hp st) G
theorem o_ifY (X : Stand p l e R s m args below meth c T locs cells slots) (hx : p.tables.exec = Jvm.exec) {cd : ClassFile.Cond} {x : Int32} {o : Int} (hd : decode c.code pc = .ok (.ifCond cd o, 3)) (hc : ifCond.holds cd x = true) (ho : 0 ≤ (pc : Int) + o) (hp : ((pc : Int) + o).toNat = pc') (G : OG p e below Φ Q (T.setTop (mkF m pc' L S))) : OG p e below Φ Q (T.setTop (mkF m pc L (.int x :: S))) := og_of (fun _ st => XS.ifYes X.here hx rfl rfl hd rfl hc ho hp st) G
theorem o_ifN (X : Stand p l e R s m args below meth c T locs cells slots) (hx : p.tables.exec = Jvm.exec) {cd : ClassFile.Cond} {x : Int32} {o : Int} (hp : pc + 3 = pc') (hd : decode c.code pc = .ok (.ifCond cd o, 3)) (hc : ifCond.holds cd x = false) (G : OG p e below Φ Q (T.setTop (mkF m pc' L S))) : OG p e below Φ Q (T.setTop (mkF m pc L (.int x :: S))) := by
  subst hp; exact og_of (fun _ st => XS.ifNo X.here hx rfl hd rfl hc st) G
theorem o_icmpY (X : Stand p l e R s m args below meth c T locs cells slots) (hx : p.tables.exec = Jvm.exec) {cd : ClassFile.Cond} {x y : Int32} {o : Int} (hd : decode c.code pc = .ok (.if_icmp cd o, 3)) (hc : if_icmp.holds cd x y = true) (ho : 0 ≤ (pc : Int) + o) (hp : ((pc : Int) + o).toNat = pc') (G : OG p e below Φ Q (T.setTop (mkF m pc' L S))) : OG p e below Φ Q (T.setTop (mkF m pc L (.int y :: .int x :: S))) := og_of (fun _ st => XS.icmpYes X.here hx rfl rfl hd rfl hc ho hp st) G
theorem o_icmpN (X : Stand p l e R s m args below meth c T locs cells slots) (hx : p.tables.exec = Jvm.exec) {cd : ClassFile.Cond} {x y : Int32} {o : Int} (hp : pc + 3 = pc') (hd : decode c.code pc = .ok (.if_icmp cd o, 3)) (hc : if_icmp.holds cd x y = false) (G : OG p e below Φ Q (T.setTop (mkF m pc' L S))) : OG p e below Φ Q (T.setTop (mkF m pc L (.int y :: .int x :: S))) := by
  subst hp; exact og_of (fun _ st => XS.icmpNo X.here hx rfl hd rfl hc st) G
theorem o_ifnullY (X : Stand p l e R s m args below meth c T locs cells slots) (hx : p.tables.exec = Jvm.exec) {o : Int} (hd : decode c.code pc = .ok (.ifnull o, 3)) (ho : 0 ≤ (pc : Int) + o) (hp : ((pc : Int) + o).toNat = pc') (G : OG p e below Φ Q (T.setTop (mkF m pc' L S))) : OG p e below Φ Q (T.setTop (mkF m pc L (.null :: S))) := og_of (fun _ st => XS.ifnullYes X.here hx rfl rfl hd rfl ho hp st) G
theorem o_ifnullN (X : Stand p l e R s m args below meth c T locs cells slots) (hx : p.tables.exec = Jvm.exec) {o : Int} {a : Addr} (hp : pc + 3 = pc') (hd : decode c.code pc = .ok (.ifnull o, 3)) (G : OG p e below Φ Q (T.setTop (mkF m pc' L S))) : OG p e below Φ Q (T.setTop (mkF m pc L (.ref a :: S))) := by
  subst hp; exact og_of (fun _ st => XS.ifnullNo X.here hx rfl hd rfl st) G
theorem o_ifnonnullY (X : Stand p l e R s m args below meth c T locs cells slots) (hx : p.tables.exec = Jvm.exec) {o : Int} {a : Addr} (hd : decode c.code pc = .ok (.ifnonnull o, 3)) (ho : 0 ≤ (pc : Int) + o) (hp : ((pc : Int) + o).toNat = pc') (G : OG p e below Φ Q (T.setTop (mkF m pc' L S))) : OG p e below Φ Q (T.setTop (mkF m pc L (.ref a :: S))) := og_of (fun _ st => XS.ifnonnullYes X.here hx rfl rfl hd rfl ho hp st) G
theorem o_ifnonnullN (X : Stand p l e R s m args below meth c T locs cells slots) (hx : p.tables.exec = Jvm.exec) {o : Int} (hp : pc + 3 = pc') (hd : decode c.code pc = .ok (.ifnonnull o, 3)) (G : OG p e below Φ Q (T.setTop (mkF m pc' L S))) : OG p e below Φ Q (T.setTop (mkF m pc L (.null :: S))) := by
  subst hp; exact og_of (fun _ st => XS.ifnonnullNo X.here hx rfl hd rfl st) G
theorem o_acmpY (X : Stand p l e R s m args below meth c T locs cells slots) (hx : p.tables.exec = Jvm.exec) {cd : ClassFile.ACond} {a b : Addr} {o : Int} (hd : decode c.code pc = .ok (.if_acmp cd o, 3)) (hc : if_acmp.holds cd (some a) (some b) = true) (ho : 0 ≤ (pc : Int) + o) (hp : ((pc : Int) + o).toNat = pc') (G : OG p e below Φ Q (T.setTop (mkF m pc' L S))) : OG p e below Φ Q (T.setTop (mkF m pc L (.ref b :: .ref a :: S))) := og_of (fun _ st => XS.acmpYes X.here hx rfl rfl hd rfl hc ho hp st) G
theorem o_acmpN (X : Stand p l e R s m args below meth c T locs cells slots) (hx : p.tables.exec = Jvm.exec) {cd : ClassFile.ACond} {a b : Addr} {o : Int} (hp : pc + 3 = pc') (hd : decode c.code pc = .ok (.if_acmp cd o, 3)) (hc : if_acmp.holds cd (some a) (some b) = false) (G : OG p e below Φ Q (T.setTop (mkF m pc' L S))) : OG p e below Φ Q (T.setTop (mkF m pc L (.ref b :: .ref a :: S))) := by
  subst hp; exact og_of (fun _ st => XS.acmpNo X.here hx rfl hd rfl hc st) G
theorem o_ldcI (X : Stand p l e R s m args below meth c T locs cells slots) (hx : p.tables.exec = Jvm.exec) {Z : State} {a0 : Array Value} {own : String} {i : Nat} {v : Int32} (hp : pc + 2 = pc') (hd : decode c.code pc = .ok (.ldc i, 2)) (hZ : Z.Warmed39 s.vm) (hown : s.vm.findClass own = some m.cls) (w : (Cond.constant own i v).before a0 Z = true) (G : OG p e below Φ Q (T.setTop (mkF m pc' L (.int v :: S)))) : OG p e below Φ Q (T.setTop (mkF m pc L S)) := by
  subst hp; exact og_of (X.ldcInt hx hown (mvT hZ w) (g := mkF m pc L S) rfl hd) G
theorem o_ldcwI (X : Stand p l e R s m args below meth c T locs cells slots) (hx : p.tables.exec = Jvm.exec) {Z : State} {a0 : Array Value} {own : String} {i : Nat} {v : Int32} (hp : pc + 3 = pc') (hd : decode c.code pc = .ok (.ldc_w i, 3)) (hZ : Z.Warmed39 s.vm) (hown : s.vm.findClass own = some m.cls) (w : (Cond.constant own i v).before a0 Z = true) (G : OG p e below Φ Q (T.setTop (mkF m pc' L (.int v :: S)))) : OG p e below Φ Q (T.setTop (mkF m pc L S)) := by
  subst hp; exact og_of (X.ldcwInt hx hown (mvT hZ w) (g := mkF m pc L S) rfl hd) G
theorem o_ldc2L (X : Stand p l e R s m args below meth c T locs cells slots) (hx : p.tables.exec = Jvm.exec) {Z : State} {a0 : Array Value} {own : String} {i : Nat} {v : Int64} (hp : pc + 3 = pc') (hd : decode c.code pc = .ok (.ldc2_w i, 3)) (hZ : Z.Warmed39 s.vm) (hown : s.vm.findClass own = some m.cls) (w : (Cond.constantLong own i v).before a0 Z = true) (G : OG p e below Φ Q (T.setTop (mkF m pc' L (.long v :: S)))) : OG p e below Φ Q (T.setTop (mkF m pc L S)) := by
  subst hp; exact og_of (X.ldc2Long hx hown (mvT hZ w) (g := mkF m pc L S) rfl hd) G
theorem own_cat {x : Value} (h : x.isRef = true) : x.category = 1 := by cases x <;> simp_all [Value.isRef, Value.category]
theorem own_narR {x : Value} (h : x.isRef = true) (t : FieldType) : narrow t x = x := by rcases ref_cases h with rfl | ⟨a, rfl⟩ <;> cases t <;> rfl
theorem own_fitR {x : Value} {C : String} (h : x.isRef = true) : fits (.object C) x = true := by rcases ref_cases h with rfl | ⟨a, rfl⟩ <;> rfl
theorem own_selp {Z : State} {a0 : Array Value} {y : MethodName} {q : Nat} (hZ : Z.Warmed39 s.vm) (wi : (Cond.instantiable y.cls q).before a0 Z = true) (hp : (Cond.privateMethod y).before a0 Z = true) (hi : (Cond.instanceMethod y).before a0 Z = true) (hy : y.cls ≠ "java/lang/invoke/MethodHandle" ∧ y.cls ≠ "java/lang/invoke/VarHandle") : (Cond.selects y.cls y y).before args s = true := by
  have wi' : (Cond.instantiable y.cls q).before args s = true := mv hZ wi
  obtain ⟨cc, kk, h1, h2, -, h4, -⟩ := Cond.instantiable_spec wi'
  have hni : kk.isInterface = false := by simp only [Bool.or_eq_false_iff] at h4; exact h4.1
  exact selects_self_of_private h1 h2 hni (Cond.privateMethod_at (mvP hZ hp (args := args))) (mv hZ hi) hy
theorem own_staK {Z : State} {h h' : Heap} {C nn d : String} {v : Value} (F : Sta Z h C nn d v) (K : Keep h h' []) : Sta Z h' C nn d v := by
  obtain ⟨cf, i, k, f, st, cell, h1, h2, h3, h4, h5, r⟩ := F
  exact ⟨cf, i, k, f, st, cell, h1, h2, h3, h4, K.2.1 _ _ h5 (fun q => nomatch q), r⟩
end Own
end Jvm.RoadKit
namespace Jvm.Pilot.@@N@@
open Jvm Jvm.ClassFile Sem Op Lib Jvm.Free Jvm.Stand Jvm.LawKit Jvm.RoadKit Bundle Jvm.Pilot.@@N@@.Jvm.D
theorem own_d2_0 : decode prog_170_method_1_code 0 = .ok (.aload_n 0, 1) := by decide +kernel
theorem own_d2_1 : decode prog_170_method_1_code 1 = .ok (.invokespecial 1, 3) := by decide +kernel
theorem own_d2_4 : decode prog_170_method_1_code 4 = .ok (.aload_n 0, 1) := by decide +kernel
theorem own_d2_5 : decode prog_170_method_1_code 5 = .ok (.sipush 512, 3) := by decide +kernel
theorem own_d2_8 : decode prog_170_method_1_code 8 = .ok (.newarray .byte, 2) := by decide +kernel
theorem own_d2_10 : decode prog_170_method_1_code 10 = .ok (.putfield 9, 3) := by decide +kernel
theorem own_d2_13 : decode prog_170_method_1_code 13 = .ok (.aload_n 0, 1) := by decide +kernel
theorem own_d2_14 : decode prog_170_method_1_code 14 = .ok (.sipush 512, 3) := by decide +kernel
theorem own_d2_17 : decode prog_170_method_1_code 17 = .ok (.newarray .byte, 2) := by decide +kernel
theorem own_d2_19 : decode prog_170_method_1_code 19 = .ok (.putfield 13, 3) := by decide +kernel
theorem own_d2_22 : decode prog_170_method_1_code 22 = .ok (.aload_n 0, 1) := by decide +kernel
theorem own_d2_23 : decode prog_170_method_1_code 23 = .ok (.sipush 512, 3) := by decide +kernel
theorem own_d2_26 : decode prog_170_method_1_code 26 = .ok (.newarray .short, 2) := by decide +kernel
theorem own_d2_28 : decode prog_170_method_1_code 28 = .ok (.putfield 16, 3) := by decide +kernel
theorem own_d2_31 : decode prog_170_method_1_code 31 = .ok (.aload_n 0, 1) := by decide +kernel
theorem own_d2_32 : decode prog_170_method_1_code 32 = .ok (.sipush 256, 3) := by decide +kernel
theorem own_d2_35 : decode prog_170_method_1_code 35 = .ok (.newarray .short, 2) := by decide +kernel
theorem own_d2_37 : decode prog_170_method_1_code 37 = .ok (.putfield 20, 3) := by decide +kernel
theorem own_d2_40 : decode prog_170_method_1_code 40 = .ok (.aload_n 0, 1) := by decide +kernel
theorem own_d2_41 : decode prog_170_method_1_code 41 = .ok (.sipush 256, 3) := by decide +kernel
theorem own_d2_44 : decode prog_170_method_1_code 44 = .ok (.newarray .int, 2) := by decide +kernel
theorem own_d2_46 : decode prog_170_method_1_code 46 = .ok (.putfield 23, 3) := by decide +kernel
theorem own_d2_49 : decode prog_170_method_1_code 49 = .ok (.return_, 1) := by decide +kernel
theorem own_ef2 (m : MethodId) (a0 : Addr) : entryFrame m #[(.ref a0)] 1 = mkF m 0 #[.val (.ref a0)] [] := by first | (simp [entryFrame, mkF, argsToLocals, Value.category]; done) | rfl
def own_Q2 (Z : State) (a0 : Addr) (h0 : Heap) (n0 : Nat) (v : Option Value) (h : Heap) (L : List Loc) : Prop := ∃ (s1 s2 s3 s4 s5 : Addr) (k_s1 : ClassId) (k_s2 : ClassId) (k_s3 : ClassId) (k_s4 : ClassId) (k_s5 : ClassId), v = none ∧ Fr n0 L ∧ Keep h0 h [a0] ∧ h0.size ≤ s1 ∧ h0.size ≤ s2 ∧ h0.size ≤ s3 ∧ h0.size ≤ s4 ∧ h0.size ≤ s5 ∧ s1 ≠ s2 ∧ s1 ≠ s3 ∧ s1 ≠ s4 ∧ s1 ≠ s5 ∧ s2 ≠ s3 ∧ s2 ≠ s4 ∧ s2 ≠ s5 ∧ s3 ≠ s4 ∧ s3 ≠ s5 ∧ s4 ≠ s5 ∧ Fld Z h a0 "tidemark/record/FseTable" "symbols" "[B" (.ref s1) ∧ Fld Z h a0 "tidemark/record/FseTable" "bits" "[B" (.ref s2) ∧ Fld Z h a0 "tidemark/record/FseTable" "bases" "[S" (.ref s3) ∧ Fld Z h a0 "tidemark/record/FseTable" "counts" "[S" (.ref s4) ∧ Fld Z h a0 "tidemark/record/FseTable" "next" "[I" (.ref s5) ∧ Fld Z h a0 "tidemark/record/FseTable" "accuracyLog" "I" (.int (0 : Int32)) ∧ Arv Z h s1 k_s1 .byte (512 : Int32) [(.int (0 : Int32)), (.int (0 : Int32)), (.int (0 : Int32)), (.int (0 : Int32)), (.int (0 : Int32)), (.int (0 : Int32)), (.int (0 : Int32)), (.int (0 : Int32))] (.int (0 : Int32)) ∧ Arv Z h s2 k_s2 .byte (512 : Int32) [(.int (0 : Int32)), (.int (0 : Int32)), (.int (0 : Int32)), (.int (0 : Int32)), (.int (0 : Int32)), (.int (0 : Int32)), (.int (0 : Int32)), (.int (0 : Int32))] (.int (0 : Int32)) ∧ Arv Z h s3 k_s3 .short (512 : Int32) [(.int (0 : Int32)), (.int (0 : Int32)), (.int (0 : Int32)), (.int (0 : Int32)), (.int (0 : Int32)), (.int (0 : Int32)), (.int (0 : Int32)), (.int (0 : Int32))] (.int (0 : Int32)) ∧ Arv Z h s4 k_s4 .short (256 : Int32) [(.int (0 : Int32)), (.int (0 : Int32)), (.int (0 : Int32)), (.int (0 : Int32)), (.int (0 : Int32)), (.int (0 : Int32)), (.int (0 : Int32)), (.int (0 : Int32))] (.int (0 : Int32)) ∧ Arv Z h s5 k_s5 .int (256 : Int32) [(.int (0 : Int32)), (.int (0 : Int32)), (.int (0 : Int32)), (.int (0 : Int32)), (.int (0 : Int32)), (.int (0 : Int32)), (.int (0 : Int32)), (.int (0 : Int32))] (.int (0 : Int32))
theorem own_pn23 : plainName "tidemark/record/FseTable" = true := by first | (simp [plainName, overriddenIn]; done) | decide +kernel
set_option maxRecDepth 65536 in
set_option maxHeartbeats 40000000 in
theorem own_rm2 (l : Launch) (Z : State) (aA : Array Value) (hw : ∀ d ∈ tables_1, d.before aA Z = true) (ws : List Jvm.Cond) (a0 : Addr) (h0 : Heap) (n0 : Nat) (Z0 : n0 ≤ h0.size) (pre0 : Exa Z h0 a0 "tidemark/record/FseTable") (pre1 : n0 ≤ a0) (pre2 : Fld Z h0 a0 "tidemark/record/FseTable" "symbols" "[B" .null) (pre3 : Fld Z h0 a0 "tidemark/record/FseTable" "bits" "[B" .null) (pre4 : Fld Z h0 a0 "tidemark/record/FseTable" "bases" "[S" .null) (pre5 : Fld Z h0 a0 "tidemark/record/FseTable" "counts" "[S" .null) (pre6 : Fld Z h0 a0 "tidemark/record/FseTable" "next" "[I" .null) (pre7 : Fld Z h0 a0 "tidemark/record/FseTable" "accuracyLog" "I" (.int (0 : Int32))) :
    MetFree l (⟨"tidemark/record/FseTable", "<init>", "()V"⟩ : MethodName) (head1 (Jvm.Cond.code (⟨"tidemark/record/FseTable", "<init>", "()V"⟩ : MethodName) prog_170_method_1_code 1 none :: ws) ({ frames := 1, cells := 5, slots := 2048, locals := 12 } : Room)) (fun a U => a = #[(.ref a0)] ∧ Z.Warmed39 U.vm ∧ U.heap = h0) (fun _ _ _ _ _ => True) (fun _ U o U' => ∃ v L, o = .returned v ∧ own_Q2 Z a0 h0 n0 v U'.heap L ∧ FrameEnd U o U' L ({ frames := 1, cells := 5, slots := 2048, locals := 12 } : Room).cells ({ frames := 1, cells := 5, slots := 2048, locals := 12 } : Room).slots) := by
  refine MetFree.of_bodySF (plainFor_of_name own_pn23) hisR ?_
  intro p e s m args below meth c s₁ Bd hml0 hP hK
  obtain ⟨rfl, hZ, hh⟩ := hP
  have hx := Bd.exec
  have hby := Bd.bytes
  have hlk : meth.locks = false := Bd.notSynchronized
  have hml : c.maxLocals = 1 := hml0
  have hown : s.vm.findClass "tidemark/record/FseTable" = some m.cls := findClass_of_methodNamed Bd.named
  have hnm := (name_of_methodNamed Bd.named Bd.method).1
  have X0 : Stand p l e ({ frames := 1, cells := 5, slots := 2048, locals := 12 } : Room) s m #[(.ref a0)] below meth c s₁ [] 0 0 := Stand.of_body Bd
  have e0 : s₁.heap = h0 := by rw [← hh, Bd.state]; rfl
  have N0 := Fr.nil n0
  show OG p e below (FE s ({ frames := 1, cells := 5, slots := 2048, locals := 12 } : Room).cells ({ frames := 1, cells := 5, slots := 2048, locals := 12 } : Room).slots) (own_Q2 Z a0 h0 n0) (s₁.setTop (entryFrame m #[(.ref a0)] 1))
  refine og_of (fun _ k => castTop (own_ef2 m a0) k) ?_
  refine o_aloadN X0 hx rfl (hb hby own_d2_0) rfl rfl ?_
  obtain ⟨T1, X1, e1, st1⟩ := initO X0 hx hZ hown (hw _ (List.mem_of_getElem? (i := 10) rfl)) (hw _ (List.mem_of_getElem? (i := 11) rfl)) (hw _ (List.mem_of_getElem? (i := 12) rfl)) e0 (g := (mkF m 1 #[.val (.ref a0)] [(.ref a0)])) rfl (by rw [hml]; rfl) rfl (hb hby own_d2_1) (by decide) (W := 0) (by show 2 * 0 + _ ≤ _; exact Nat.le_of_eq rfl) (by decide)
  refine og_of st1 ?_
  show OG p e below _ _ (T1.setTop (mkF m 4 #[.val (.ref a0)] []))
  refine o_aloadN X1 hx rfl (hb hby own_d2_4) rfl rfl ?_
  refine o_sipush (z := (512 : Int32)) X1 hx rfl (hb hby own_d2_5) (by decide) ?_
  obtain ⟨T2, h2, k_b2, X2, e2, E2, A2, st2⟩ := newP X1 hx hZ (hw _ (List.mem_of_getElem? (i := 13) rfl)) e1 (g := (mkF m 8 #[.val (.ref a0)] [(.int (512 : Int32)), (.ref a0)])) rfl (hb hby own_d2_8) rfl (by decide) (cap := 512) (by decide) (by decide) (by decide) (by decide)
  obtain ⟨b2, g2⟩ : ∃ z, z = h0.size := ⟨_, rfl⟩
  rw [← g2] at A2 st2
  have ne3 : a0 ≠ b2 := Nat.ne_of_lt (Nat.lt_of_lt_of_le pre0.lt (Nat.le_of_eq g2.symm))
  have gn2 : n0 ≤ b2 := Nat.le_trans Z0 (Nat.le_of_eq g2.symm)
  have sz2 : h0.size ≤ b2 := Nat.le_trans (Keep.refl h0 [a0]).1 (Nat.le_of_eq g2.symm)
  have Kp4 : Keep h0 h2 [a0] := (Keep.refl h0 [a0]).ext E2
  have V2 : Arv Z h2 b2 k_b2 .byte (512 : Int32) [(.int (0 : Int32)), (.int (0 : Int32)), (.int (0 : Int32)), (.int (0 : Int32)), (.int (0 : Int32)), (.int (0 : Int32)), (.int (0 : Int32)), (.int (0 : Int32))] (.int (0 : Int32)) := (Arv.new A2 (by decide)).pad (pad_rep [] (.int (0 : Int32)) 8)
  refine og_of st2 ?_
  show OG p e below _ _ (T2.setTop (mkF m 10 #[.val (.ref a0)] [(.ref b2), (.ref a0)]))
  have Fc5 : Exa Z h2 a0 "tidemark/record/FseTable" := (Exa.ext E2 pre0)
  have Fc6 : Fld Z h2 a0 "tidemark/record/FseTable" "symbols" "[B" .null := (Fld.ext E2 pre2)
  obtain ⟨T7, h7, X7, e7, W7, st7⟩ := putF X2 hx hZ hown (host := "") (Or.inl (hw _ (List.mem_of_getElem? (i := 14) rfl))) Via.refl e2 Fc6 Fc5 (Or.inr ⟨(hw _ (List.mem_of_getElem? (i := 15) rfl)), rfl, hnm⟩) (hw _ (List.mem_of_getElem? (i := 6) rfl)) (ty := (.array .byte)) (by decide) rfl rfl (g := (mkF m 10 #[.val (.ref a0)] [(.ref b2), (.ref a0)])) rfl rfl (hb hby own_d2_10)
  have Fw7 := Fc6.same W7
  have N7 := Fr.snoc X7 N0 pre1
  have Kp8 : Keep h0 h7 [a0] := Kp4.wr W7 (Or.inl (List.mem_of_getElem? (i := 0) rfl))
  refine og_of st7 ?_
  show OG p e below _ _ (T7.setTop (mkF m 13 #[.val (.ref a0)] []))
  refine o_aloadN X7 hx rfl (hb hby own_d2_13) rfl rfl ?_
  refine o_sipush (z := (512 : Int32)) X7 hx rfl (hb hby own_d2_14) (by decide) ?_
  obtain ⟨T9, h9, k_b9, X9, e9, E9, A9, st9⟩ := newP X7 hx hZ (hw _ (List.mem_of_getElem? (i := 13) rfl)) e7 (g := (mkF m 17 #[.val (.ref a0)] [(.int (512 : Int32)), (.ref a0)])) rfl (hb hby own_d2_17) rfl (by decide) (cap := 512) (by decide) (by decide) (by decide) (by decide)
  obtain ⟨b9, g9⟩ : ∃ z, z = h7.size := ⟨_, rfl⟩
  rw [← g9] at A9 st9
  have Fc10 : Exa Z h7 a0 "tidemark/record/FseTable" := (Exa.wr W7 Fc5)
  have ne11 : a0 ≠ b9 := Nat.ne_of_lt (Nat.lt_of_lt_of_le Fc10.lt (Nat.le_of_eq g9.symm))
  have Fc12 : Arv Z h7 b2 k_b2 .byte (512 : Int32) [(.int (0 : Int32)), (.int (0 : Int32)), (.int (0 : Int32)), (.int (0 : Int32)), (.int (0 : Int32)), (.int (0 : Int32)), (.int (0 : Int32)), (.int (0 : Int32))] (.int (0 : Int32)) := (V2.other W7 (Ne.symm ne3))
  have ne13 : b2 ≠ b9 := Nat.ne_of_lt (Nat.lt_of_lt_of_le Fc12.lt (Nat.le_of_eq g9.symm))
  have gn9 : n0 ≤ b9 := Nat.le_trans (Nat.le_trans (Nat.le_trans Z0 E2.1) (Keep.of_wr W7).1) (Nat.le_of_eq g9.symm)
  have sz9 : h0.size ≤ b9 := Nat.le_trans Kp8.1 (Nat.le_of_eq g9.symm)
  have Kp14 : Keep h0 h9 [a0] := Kp8.ext E9
  have V9 : Arv Z h9 b9 k_b9 .byte (512 : Int32) [(.int (0 : Int32)), (.int (0 : Int32)), (.int (0 : Int32)), (.int (0 : Int32)), (.int (0 : Int32)), (.int (0 : Int32)), (.int (0 : Int32)), (.int (0 : Int32))] (.int (0 : Int32)) := (Arv.new A9 (by decide)).pad (pad_rep [] (.int (0 : Int32)) 8)
  refine og_of st9 ?_
  show OG p e below _ _ (T9.setTop (mkF m 19 #[.val (.ref a0)] [(.ref b9), (.ref a0)]))
  have Fc15 : Exa Z h9 a0 "tidemark/record/FseTable" := (Exa.ext E9 Fc10)
  have Fc16 : Fld Z h9 a0 "tidemark/record/FseTable" "bits" "[B" .null := (Fld.ext E9 (Fld.other W7 (Fld.ext E2 pre3) (Or.inr (slot_ne (Or.inr (hw _ (List.mem_of_getElem? (i := 17) rfl))) (Or.inr (hw _ (List.mem_of_getElem? (i := 15) rfl))) (by decide) (t := (.array .byte)) (t' := (.array .byte)) (by decide) (by decide)))))
  obtain ⟨T17, h17, X17, e17, W17, st17⟩ := putF X9 hx hZ hown (host := "") (Or.inl (hw _ (List.mem_of_getElem? (i := 16) rfl))) Via.refl e9 Fc16 Fc15 (Or.inr ⟨(hw _ (List.mem_of_getElem? (i := 17) rfl)), rfl, hnm⟩) (hw _ (List.mem_of_getElem? (i := 6) rfl)) (ty := (.array .byte)) (by decide) rfl rfl (g := (mkF m 19 #[.val (.ref a0)] [(.ref b9), (.ref a0)])) rfl rfl (hb hby own_d2_19)
  have Fw17 := Fc16.same W17
  have N17 := Fr.snoc X17 N7 pre1
  have Kp18 : Keep h0 h17 [a0] := Kp14.wr W17 (Or.inl (List.mem_of_getElem? (i := 0) rfl))
  refine og_of st17 ?_
  show OG p e below _ _ (T17.setTop (mkF m 22 #[.val (.ref a0)] []))
  refine o_aloadN X17 hx rfl (hb hby own_d2_22) rfl rfl ?_
  refine o_sipush (z := (512 : Int32)) X17 hx rfl (hb hby own_d2_23) (by decide) ?_
  obtain ⟨T19, h19, k_b19, X19, e19, E19, A19, st19⟩ := newP X17 hx hZ (hw _ (List.mem_of_getElem? (i := 18) rfl)) e17 (g := (mkF m 26 #[.val (.ref a0)] [(.int (512 : Int32)), (.ref a0)])) rfl (hb hby own_d2_26) rfl (by decide) (cap := 512) (by decide) (by decide) (by decide) (by decide)
  obtain ⟨b19, g19⟩ : ∃ z, z = h17.size := ⟨_, rfl⟩
  rw [← g19] at A19 st19
  have Fc20 : Exa Z h17 a0 "tidemark/record/FseTable" := (Exa.wr W17 Fc15)
  have ne21 : a0 ≠ b19 := Nat.ne_of_lt (Nat.lt_of_lt_of_le Fc20.lt (Nat.le_of_eq g19.symm))
  have Fc22 : Arv Z h17 b2 k_b2 .byte (512 : Int32) [(.int (0 : Int32)), (.int (0 : Int32)), (.int (0 : Int32)), (.int (0 : Int32)), (.int (0 : Int32)), (.int (0 : Int32)), (.int (0 : Int32)), (.int (0 : Int32))] (.int (0 : Int32)) := ((Fc12.ext E9).other W17 (Ne.symm ne3))
  have ne23 : b2 ≠ b19 := Nat.ne_of_lt (Nat.lt_of_lt_of_le Fc22.lt (Nat.le_of_eq g19.symm))
  have Fc24 : Arv Z h17 b9 k_b9 .byte (512 : Int32) [(.int (0 : Int32)), (.int (0 : Int32)), (.int (0 : Int32)), (.int (0 : Int32)), (.int (0 : Int32)), (.int (0 : Int32)), (.int (0 : Int32)), (.int (0 : Int32))] (.int (0 : Int32)) := (V9.other W17 (Ne.symm ne11))
  have ne25 : b9 ≠ b19 := Nat.ne_of_lt (Nat.lt_of_lt_of_le Fc24.lt (Nat.le_of_eq g19.symm))
  have gn19 : n0 ≤ b19 := Nat.le_trans (Nat.le_trans (Nat.le_trans (Nat.le_trans (Nat.le_trans Z0 E2.1) (Keep.of_wr W7).1) E9.1) (Keep.of_wr W17).1) (Nat.le_of_eq g19.symm)
  have sz19 : h0.size ≤ b19 := Nat.le_trans Kp18.1 (Nat.le_of_eq g19.symm)
  have Kp26 : Keep h0 h19 [a0] := Kp18.ext E19
  have V19 : Arv Z h19 b19 k_b19 .short (512 : Int32) [(.int (0 : Int32)), (.int (0 : Int32)), (.int (0 : Int32)), (.int (0 : Int32)), (.int (0 : Int32)), (.int (0 : Int32)), (.int (0 : Int32)), (.int (0 : Int32))] (.int (0 : Int32)) := (Arv.new A19 (by decide)).pad (pad_rep [] (.int (0 : Int32)) 8)
  refine og_of st19 ?_
  show OG p e below _ _ (T19.setTop (mkF m 28 #[.val (.ref a0)] [(.ref b19), (.ref a0)]))
  have Fc27 : Exa Z h19 a0 "tidemark/record/FseTable" := (Exa.ext E19 Fc20)
  have Fc28 : Fld Z h19 a0 "tidemark/record/FseTable" "bases" "[S" .null := (Fld.ext E19 (Fld.other W17 (Fld.ext E9 (Fld.other W7 (Fld.ext E2 pre4) (Or.inr (slot_ne (Or.inr (hw _ (List.mem_of_getElem? (i := 20) rfl))) (Or.inr (hw _ (List.mem_of_getElem? (i := 15) rfl))) (by decide) (t := (.array .short)) (t' := (.array .byte)) (by decide) (by decide))))) (Or.inr (slot_ne (Or.inr (hw _ (List.mem_of_getElem? (i := 20) rfl))) (Or.inr (hw _ (List.mem_of_getElem? (i := 17) rfl))) (by decide) (t := (.array .short)) (t' := (.array .byte)) (by decide) (by decide)))))
  obtain ⟨T29, h29, X29, e29, W29, st29⟩ := putF X19 hx hZ hown (host := "") (Or.inl (hw _ (List.mem_of_getElem? (i := 19) rfl))) Via.refl e19 Fc28 Fc27 (Or.inr ⟨(hw _ (List.mem_of_getElem? (i := 20) rfl)), rfl, hnm⟩) (hw _ (List.mem_of_getElem? (i := 6) rfl)) (ty := (.array .short)) (by decide) rfl rfl (g := (mkF m 28 #[.val (.ref a0)] [(.ref b19), (.ref a0)])) rfl rfl (hb hby own_d2_28)
  have Fw29 := Fc28.same W29
  have N29 := Fr.snoc X29 N17 pre1
  have Kp30 : Keep h0 h29 [a0] := Kp26.wr W29 (Or.inl (List.mem_of_getElem? (i := 0) rfl))
  refine og_of st29 ?_
  show OG p e below _ _ (T29.setTop (mkF m 31 #[.val (.ref a0)] []))
  refine o_aloadN X29 hx rfl (hb hby own_d2_31) rfl rfl ?_
  refine o_sipush (z := (256 : Int32)) X29 hx rfl (hb hby own_d2_32) (by decide) ?_
  obtain ⟨T31, h31, k_b31, X31, e31, E31, A31, st31⟩ := newP X29 hx hZ (hw _ (List.mem_of_getElem? (i := 18) rfl)) e29 (g := (mkF m 35 #[.val (.ref a0)] [(.int (256 : Int32)), (.ref a0)])) rfl (hb hby own_d2_35) rfl (by decide) (cap := 256) (by decide) (by decide) (by decide) (by decide)
  obtain ⟨b31, g31⟩ : ∃ z, z = h29.size := ⟨_, rfl⟩
  rw [← g31] at A31 st31
  have Fc32 : Exa Z h29 a0 "tidemark/record/FseTable" := (Exa.wr W29 Fc27)
  have ne33 : a0 ≠ b31 := Nat.ne_of_lt (Nat.lt_of_lt_of_le Fc32.lt (Nat.le_of_eq g31.symm))
  have Fc34 : Arv Z h29 b2 k_b2 .byte (512 : Int32) [(.int (0 : Int32)), (.int (0 : Int32)), (.int (0 : Int32)), (.int (0 : Int32)), (.int (0 : Int32)), (.int (0 : Int32)), (.int (0 : Int32)), (.int (0 : Int32))] (.int (0 : Int32)) := ((Fc22.ext E19).other W29 (Ne.symm ne3))
  have ne35 : b2 ≠ b31 := Nat.ne_of_lt (Nat.lt_of_lt_of_le Fc34.lt (Nat.le_of_eq g31.symm))
  have Fc36 : Arv Z h29 b9 k_b9 .byte (512 : Int32) [(.int (0 : Int32)), (.int (0 : Int32)), (.int (0 : Int32)), (.int (0 : Int32)), (.int (0 : Int32)), (.int (0 : Int32)), (.int (0 : Int32)), (.int (0 : Int32))] (.int (0 : Int32)) := ((Fc24.ext E19).other W29 (Ne.symm ne11))
  have ne37 : b9 ≠ b31 := Nat.ne_of_lt (Nat.lt_of_lt_of_le Fc36.lt (Nat.le_of_eq g31.symm))
  have Fc38 : Arv Z h29 b19 k_b19 .short (512 : Int32) [(.int (0 : Int32)), (.int (0 : Int32)), (.int (0 : Int32)), (.int (0 : Int32)), (.int (0 : Int32)), (.int (0 : Int32)), (.int (0 : Int32)), (.int (0 : Int32))] (.int (0 : Int32)) := (V19.other W29 (Ne.symm ne21))
  have ne39 : b19 ≠ b31 := Nat.ne_of_lt (Nat.lt_of_lt_of_le Fc38.lt (Nat.le_of_eq g31.symm))
  have gn31 : n0 ≤ b31 := Nat.le_trans (Nat.le_trans (Nat.le_trans (Nat.le_trans (Nat.le_trans (Nat.le_trans (Nat.le_trans Z0 E2.1) (Keep.of_wr W7).1) E9.1) (Keep.of_wr W17).1) E19.1) (Keep.of_wr W29).1) (Nat.le_of_eq g31.symm)
  have sz31 : h0.size ≤ b31 := Nat.le_trans Kp30.1 (Nat.le_of_eq g31.symm)
  have Kp40 : Keep h0 h31 [a0] := Kp30.ext E31
  have V31 : Arv Z h31 b31 k_b31 .short (256 : Int32) [(.int (0 : Int32)), (.int (0 : Int32)), (.int (0 : Int32)), (.int (0 : Int32)), (.int (0 : Int32)), (.int (0 : Int32)), (.int (0 : Int32)), (.int (0 : Int32))] (.int (0 : Int32)) := (Arv.new A31 (by decide)).pad (pad_rep [] (.int (0 : Int32)) 8)
  refine og_of st31 ?_
  show OG p e below _ _ (T31.setTop (mkF m 37 #[.val (.ref a0)] [(.ref b31), (.ref a0)]))
  have Fc41 : Exa Z h31 a0 "tidemark/record/FseTable" := (Exa.ext E31 Fc32)
  have Fc42 : Fld Z h31 a0 "tidemark/record/FseTable" "counts" "[S" .null := (Fld.ext E31 (Fld.other W29 (Fld.ext E19 (Fld.other W17 (Fld.ext E9 (Fld.other W7 (Fld.ext E2 pre5) (Or.inr (slot_ne (Or.inr (hw _ (List.mem_of_getElem? (i := 22) rfl))) (Or.inr (hw _ (List.mem_of_getElem? (i := 15) rfl))) (by decide) (t := (.array .short)) (t' := (.array .byte)) (by decide) (by decide))))) (Or.inr (slot_ne (Or.inr (hw _ (List.mem_of_getElem? (i := 22) rfl))) (Or.inr (hw _ (List.mem_of_getElem? (i := 17) rfl))) (by decide) (t := (.array .short)) (t' := (.array .byte)) (by decide) (by decide))))) (Or.inr (slot_ne (Or.inr (hw _ (List.mem_of_getElem? (i := 22) rfl))) (Or.inr (hw _ (List.mem_of_getElem? (i := 20) rfl))) (by decide) (t := (.array .short)) (t' := (.array .short)) (by decide) (by decide)))))
  obtain ⟨T43, h43, X43, e43, W43, st43⟩ := putF X31 hx hZ hown (host := "") (Or.inl (hw _ (List.mem_of_getElem? (i := 21) rfl))) Via.refl e31 Fc42 Fc41 (Or.inr ⟨(hw _ (List.mem_of_getElem? (i := 22) rfl)), rfl, hnm⟩) (hw _ (List.mem_of_getElem? (i := 6) rfl)) (ty := (.array .short)) (by decide) rfl rfl (g := (mkF m 37 #[.val (.ref a0)] [(.ref b31), (.ref a0)])) rfl rfl (hb hby own_d2_37)
  have Fw43 := Fc42.same W43
  have N43 := Fr.snoc X43 N29 pre1
  have Kp44 : Keep h0 h43 [a0] := Kp40.wr W43 (Or.inl (List.mem_of_getElem? (i := 0) rfl))
  refine og_of st43 ?_
  show OG p e below _ _ (T43.setTop (mkF m 40 #[.val (.ref a0)] []))
  refine o_aloadN X43 hx rfl (hb hby own_d2_40) rfl rfl ?_
  refine o_sipush (z := (256 : Int32)) X43 hx rfl (hb hby own_d2_41) (by decide) ?_
  obtain ⟨T45, h45, k_b45, X45, e45, E45, A45, st45⟩ := newP X43 hx hZ (hw _ (List.mem_of_getElem? (i := 0) rfl)) e43 (g := (mkF m 44 #[.val (.ref a0)] [(.int (256 : Int32)), (.ref a0)])) rfl (hb hby own_d2_44) rfl (by decide) (cap := 256) (by decide) (by decide) (by decide) (by decide)
  obtain ⟨b45, g45⟩ : ∃ z, z = h43.size := ⟨_, rfl⟩
  rw [← g45] at A45 st45
  have Fc46 : Exa Z h43 a0 "tidemark/record/FseTable" := (Exa.wr W43 Fc41)
  have ne47 : a0 ≠ b45 := Nat.ne_of_lt (Nat.lt_of_lt_of_le Fc46.lt (Nat.le_of_eq g45.symm))
  have Fc48 : Arv Z h43 b2 k_b2 .byte (512 : Int32) [(.int (0 : Int32)), (.int (0 : Int32)), (.int (0 : Int32)), (.int (0 : Int32)), (.int (0 : Int32)), (.int (0 : Int32)), (.int (0 : Int32)), (.int (0 : Int32))] (.int (0 : Int32)) := ((Fc34.ext E31).other W43 (Ne.symm ne3))
  have ne49 : b2 ≠ b45 := Nat.ne_of_lt (Nat.lt_of_lt_of_le Fc48.lt (Nat.le_of_eq g45.symm))
  have Fc50 : Arv Z h43 b9 k_b9 .byte (512 : Int32) [(.int (0 : Int32)), (.int (0 : Int32)), (.int (0 : Int32)), (.int (0 : Int32)), (.int (0 : Int32)), (.int (0 : Int32)), (.int (0 : Int32)), (.int (0 : Int32))] (.int (0 : Int32)) := ((Fc36.ext E31).other W43 (Ne.symm ne11))
  have ne51 : b9 ≠ b45 := Nat.ne_of_lt (Nat.lt_of_lt_of_le Fc50.lt (Nat.le_of_eq g45.symm))
  have Fc52 : Arv Z h43 b19 k_b19 .short (512 : Int32) [(.int (0 : Int32)), (.int (0 : Int32)), (.int (0 : Int32)), (.int (0 : Int32)), (.int (0 : Int32)), (.int (0 : Int32)), (.int (0 : Int32)), (.int (0 : Int32))] (.int (0 : Int32)) := ((Fc38.ext E31).other W43 (Ne.symm ne21))
  have ne53 : b19 ≠ b45 := Nat.ne_of_lt (Nat.lt_of_lt_of_le Fc52.lt (Nat.le_of_eq g45.symm))
  have Fc54 : Arv Z h43 b31 k_b31 .short (256 : Int32) [(.int (0 : Int32)), (.int (0 : Int32)), (.int (0 : Int32)), (.int (0 : Int32)), (.int (0 : Int32)), (.int (0 : Int32)), (.int (0 : Int32)), (.int (0 : Int32))] (.int (0 : Int32)) := (V31.other W43 (Ne.symm ne33))
  have ne55 : b31 ≠ b45 := Nat.ne_of_lt (Nat.lt_of_lt_of_le Fc54.lt (Nat.le_of_eq g45.symm))
  have gn45 : n0 ≤ b45 := Nat.le_trans (Nat.le_trans (Nat.le_trans (Nat.le_trans (Nat.le_trans (Nat.le_trans (Nat.le_trans (Nat.le_trans (Nat.le_trans Z0 E2.1) (Keep.of_wr W7).1) E9.1) (Keep.of_wr W17).1) E19.1) (Keep.of_wr W29).1) E31.1) (Keep.of_wr W43).1) (Nat.le_of_eq g45.symm)
  have sz45 : h0.size ≤ b45 := Nat.le_trans Kp44.1 (Nat.le_of_eq g45.symm)
  have Kp56 : Keep h0 h45 [a0] := Kp44.ext E45
  have V45 : Arv Z h45 b45 k_b45 .int (256 : Int32) [(.int (0 : Int32)), (.int (0 : Int32)), (.int (0 : Int32)), (.int (0 : Int32)), (.int (0 : Int32)), (.int (0 : Int32)), (.int (0 : Int32)), (.int (0 : Int32))] (.int (0 : Int32)) := (Arv.new A45 (by decide)).pad (pad_rep [] (.int (0 : Int32)) 8)
  refine og_of st45 ?_
  show OG p e below _ _ (T45.setTop (mkF m 46 #[.val (.ref a0)] [(.ref b45), (.ref a0)]))
  have Fc57 : Exa Z h45 a0 "tidemark/record/FseTable" := (Exa.ext E45 Fc46)
  have Fc58 : Fld Z h45 a0 "tidemark/record/FseTable" "next" "[I" .null := (Fld.ext E45 (Fld.other W43 (Fld.ext E31 (Fld.other W29 (Fld.ext E19 (Fld.other W17 (Fld.ext E9 (Fld.other W7 (Fld.ext E2 pre6) (Or.inr (slot_ne (Or.inr (hw _ (List.mem_of_getElem? (i := 24) rfl))) (Or.inr (hw _ (List.mem_of_getElem? (i := 15) rfl))) (by decide) (t := (.array .int)) (t' := (.array .byte)) (by decide) (by decide))))) (Or.inr (slot_ne (Or.inr (hw _ (List.mem_of_getElem? (i := 24) rfl))) (Or.inr (hw _ (List.mem_of_getElem? (i := 17) rfl))) (by decide) (t := (.array .int)) (t' := (.array .byte)) (by decide) (by decide))))) (Or.inr (slot_ne (Or.inr (hw _ (List.mem_of_getElem? (i := 24) rfl))) (Or.inr (hw _ (List.mem_of_getElem? (i := 20) rfl))) (by decide) (t := (.array .int)) (t' := (.array .short)) (by decide) (by decide))))) (Or.inr (slot_ne (Or.inr (hw _ (List.mem_of_getElem? (i := 24) rfl))) (Or.inr (hw _ (List.mem_of_getElem? (i := 22) rfl))) (by decide) (t := (.array .int)) (t' := (.array .short)) (by decide) (by decide)))))
  obtain ⟨T59, h59, X59, e59, W59, st59⟩ := putF X45 hx hZ hown (host := "") (Or.inl (hw _ (List.mem_of_getElem? (i := 23) rfl))) Via.refl e45 Fc58 Fc57 (Or.inr ⟨(hw _ (List.mem_of_getElem? (i := 24) rfl)), rfl, hnm⟩) (hw _ (List.mem_of_getElem? (i := 6) rfl)) (ty := (.array .int)) (by decide) rfl rfl (g := (mkF m 46 #[.val (.ref a0)] [(.ref b45), (.ref a0)])) rfl rfl (hb hby own_d2_46)
  have Fw59 := Fc58.same W59
  have N59 := Fr.snoc X59 N43 pre1
  have Kp60 : Keep h0 h59 [a0] := Kp56.wr W59 (Or.inl (List.mem_of_getElem? (i := 0) rfl))
  refine og_of st59 ?_
  show OG p e below _ _ (T59.setTop (mkF m 49 #[.val (.ref a0)] []))
  have Fc61 : Fld Z h59 a0 "tidemark/record/FseTable" "symbols" "[B" (.ref b2) := (Fld.other W59 (Fld.ext E45 (Fld.other W43 (Fld.ext E31 (Fld.other W29 (Fld.ext E19 (Fld.other W17 (Fld.ext E9 Fw7) (Or.inr (slot_ne (Or.inr (hw _ (List.mem_of_getElem? (i := 15) rfl))) (Or.inr (hw _ (List.mem_of_getElem? (i := 17) rfl))) (by decide) (t := (.array .byte)) (t' := (.array .byte)) (by decide) (by decide))))) (Or.inr (slot_ne (Or.inr (hw _ (List.mem_of_getElem? (i := 15) rfl))) (Or.inr (hw _ (List.mem_of_getElem? (i := 20) rfl))) (by decide) (t := (.array .byte)) (t' := (.array .short)) (by decide) (by decide))))) (Or.inr (slot_ne (Or.inr (hw _ (List.mem_of_getElem? (i := 15) rfl))) (Or.inr (hw _ (List.mem_of_getElem? (i := 22) rfl))) (by decide) (t := (.array .byte)) (t' := (.array .short)) (by decide) (by decide))))) (Or.inr (slot_ne (Or.inr (hw _ (List.mem_of_getElem? (i := 15) rfl))) (Or.inr (hw _ (List.mem_of_getElem? (i := 24) rfl))) (by decide) (t := (.array .byte)) (t' := (.array .int)) (by decide) (by decide))))
  have Fc62 : Fld Z h59 a0 "tidemark/record/FseTable" "bits" "[B" (.ref b9) := (Fld.other W59 (Fld.ext E45 (Fld.other W43 (Fld.ext E31 (Fld.other W29 (Fld.ext E19 Fw17) (Or.inr (slot_ne (Or.inr (hw _ (List.mem_of_getElem? (i := 17) rfl))) (Or.inr (hw _ (List.mem_of_getElem? (i := 20) rfl))) (by decide) (t := (.array .byte)) (t' := (.array .short)) (by decide) (by decide))))) (Or.inr (slot_ne (Or.inr (hw _ (List.mem_of_getElem? (i := 17) rfl))) (Or.inr (hw _ (List.mem_of_getElem? (i := 22) rfl))) (by decide) (t := (.array .byte)) (t' := (.array .short)) (by decide) (by decide))))) (Or.inr (slot_ne (Or.inr (hw _ (List.mem_of_getElem? (i := 17) rfl))) (Or.inr (hw _ (List.mem_of_getElem? (i := 24) rfl))) (by decide) (t := (.array .byte)) (t' := (.array .int)) (by decide) (by decide))))
  have Fc63 : Fld Z h59 a0 "tidemark/record/FseTable" "bases" "[S" (.ref b19) := (Fld.other W59 (Fld.ext E45 (Fld.other W43 (Fld.ext E31 Fw29) (Or.inr (slot_ne (Or.inr (hw _ (List.mem_of_getElem? (i := 20) rfl))) (Or.inr (hw _ (List.mem_of_getElem? (i := 22) rfl))) (by decide) (t := (.array .short)) (t' := (.array .short)) (by decide) (by decide))))) (Or.inr (slot_ne (Or.inr (hw _ (List.mem_of_getElem? (i := 20) rfl))) (Or.inr (hw _ (List.mem_of_getElem? (i := 24) rfl))) (by decide) (t := (.array .short)) (t' := (.array .int)) (by decide) (by decide))))
  have Fc64 : Fld Z h59 a0 "tidemark/record/FseTable" "counts" "[S" (.ref b31) := (Fld.other W59 (Fld.ext E45 Fw43) (Or.inr (slot_ne (Or.inr (hw _ (List.mem_of_getElem? (i := 22) rfl))) (Or.inr (hw _ (List.mem_of_getElem? (i := 24) rfl))) (by decide) (t := (.array .short)) (t' := (.array .int)) (by decide) (by decide))))
  have Fc65 : Fld Z h59 a0 "tidemark/record/FseTable" "accuracyLog" "I" (.int (0 : Int32)) := (Fld.other W59 (Fld.ext E45 (Fld.other W43 (Fld.ext E31 (Fld.other W29 (Fld.ext E19 (Fld.other W17 (Fld.ext E9 (Fld.other W7 (Fld.ext E2 pre7) (Or.inr (slot_ne (Or.inl (hw _ (List.mem_of_getElem? (i := 35) rfl))) (Or.inr (hw _ (List.mem_of_getElem? (i := 15) rfl))) (by decide) (t := .int) (t' := (.array .byte)) (by decide) (by decide))))) (Or.inr (slot_ne (Or.inl (hw _ (List.mem_of_getElem? (i := 35) rfl))) (Or.inr (hw _ (List.mem_of_getElem? (i := 17) rfl))) (by decide) (t := .int) (t' := (.array .byte)) (by decide) (by decide))))) (Or.inr (slot_ne (Or.inl (hw _ (List.mem_of_getElem? (i := 35) rfl))) (Or.inr (hw _ (List.mem_of_getElem? (i := 20) rfl))) (by decide) (t := .int) (t' := (.array .short)) (by decide) (by decide))))) (Or.inr (slot_ne (Or.inl (hw _ (List.mem_of_getElem? (i := 35) rfl))) (Or.inr (hw _ (List.mem_of_getElem? (i := 22) rfl))) (by decide) (t := .int) (t' := (.array .short)) (by decide) (by decide))))) (Or.inr (slot_ne (Or.inl (hw _ (List.mem_of_getElem? (i := 35) rfl))) (Or.inr (hw _ (List.mem_of_getElem? (i := 24) rfl))) (by decide) (t := .int) (t' := (.array .int)) (by decide) (by decide))))
  have Fc66 : Arv Z h59 b2 k_b2 .byte (512 : Int32) [(.int (0 : Int32)), (.int (0 : Int32)), (.int (0 : Int32)), (.int (0 : Int32)), (.int (0 : Int32)), (.int (0 : Int32)), (.int (0 : Int32)), (.int (0 : Int32))] (.int (0 : Int32)) := ((Fc48.ext E45).other W59 (Ne.symm ne3))
  have Fc67 : Arv Z h59 b9 k_b9 .byte (512 : Int32) [(.int (0 : Int32)), (.int (0 : Int32)), (.int (0 : Int32)), (.int (0 : Int32)), (.int (0 : Int32)), (.int (0 : Int32)), (.int (0 : Int32)), (.int (0 : Int32))] (.int (0 : Int32)) := ((Fc50.ext E45).other W59 (Ne.symm ne11))
  have Fc68 : Arv Z h59 b19 k_b19 .short (512 : Int32) [(.int (0 : Int32)), (.int (0 : Int32)), (.int (0 : Int32)), (.int (0 : Int32)), (.int (0 : Int32)), (.int (0 : Int32)), (.int (0 : Int32)), (.int (0 : Int32))] (.int (0 : Int32)) := ((Fc52.ext E45).other W59 (Ne.symm ne21))
  have Fc69 : Arv Z h59 b31 k_b31 .short (256 : Int32) [(.int (0 : Int32)), (.int (0 : Int32)), (.int (0 : Int32)), (.int (0 : Int32)), (.int (0 : Int32)), (.int (0 : Int32)), (.int (0 : Int32)), (.int (0 : Int32))] (.int (0 : Int32)) := ((Fc54.ext E45).other W59 (Ne.symm ne33))
  have Fc70 : Arv Z h59 b45 k_b45 .int (256 : Int32) [(.int (0 : Int32)), (.int (0 : Int32)), (.int (0 : Int32)), (.int (0 : Int32)), (.int (0 : Int32)), (.int (0 : Int32)), (.int (0 : Int32)), (.int (0 : Int32))] (.int (0 : Int32)) := (V45.other W59 (Ne.symm ne47))
  exact o_ret0 X59 hx Bd.returns (own_lv X59 hlk (by decide) (by decide)) (hb hby own_d2_49) ⟨b2, b9, b19, b31, b45, k_b2, k_b9, k_b19, k_b31, k_b45, rfl, N59, (by rw [e59]; exact Kp60), sz2, sz9, sz19, sz31, sz45, ne13, ne23, ne35, ne49, ne25, ne37, ne51, ne39, ne53, ne55, (by rw [e59]; exact Fc61), (by rw [e59]; exact Fc62), (by rw [e59]; exact Fc63), (by rw [e59]; exact Fc64), (by rw [e59]; exact Fw59), (by rw [e59]; exact Fc65), (by rw [e59]; exact Fc66), (by rw [e59]; exact Fc67), (by rw [e59]; exact Fc68), (by rw [e59]; exact Fc69), (by rw [e59]; exact Fc70)⟩
theorem own_d5_0 : decode jdk_33_method_47_code 0 = .ok (.iload_n 0, 1) := by decide +kernel
theorem own_d5_1 : decode jdk_33_method_47_code 1 = .ok (.ifCond .gt 14, 3) := by decide +kernel
theorem own_d5_15 : decode jdk_33_method_47_code 15 = .ok (.bipush 31, 2) := by decide +kernel
theorem own_d5_17 : decode jdk_33_method_47_code 17 = .ok (.istore_n 1, 1) := by decide +kernel
theorem own_d5_18 : decode jdk_33_method_47_code 18 = .ok (.iload_n 0, 1) := by decide +kernel
theorem own_d5_19 : decode jdk_33_method_47_code 19 = .ok (.ldc_w 264, 3) := by decide +kernel
theorem own_d5_22 : decode jdk_33_method_47_code 22 = .ok (.if_icmp .lt 11, 3) := by decide +kernel
theorem own_d5_33 : decode jdk_33_method_47_code 33 = .ok (.iload_n 0, 1) := by decide +kernel
theorem own_d5_34 : decode jdk_33_method_47_code 34 = .ok (.sipush 256, 3) := by decide +kernel
theorem own_d5_37 : decode jdk_33_method_47_code 37 = .ok (.if_icmp .lt 11, 3) := by decide +kernel
theorem own_d5_48 : decode jdk_33_method_47_code 48 = .ok (.iload_n 0, 1) := by decide +kernel
theorem own_d5_49 : decode jdk_33_method_47_code 49 = .ok (.bipush 16, 2) := by decide +kernel
theorem own_d5_51 : decode jdk_33_method_47_code 51 = .ok (.if_icmp .lt 10, 3) := by decide +kernel
theorem own_d5_61 : decode jdk_33_method_47_code 61 = .ok (.iload_n 0, 1) := by decide +kernel
theorem own_d5_62 : decode jdk_33_method_47_code 62 = .ok (.iconst 4, 1) := by decide +kernel
theorem own_d5_63 : decode jdk_33_method_47_code 63 = .ok (.if_icmp .lt 10, 3) := by decide +kernel
theorem own_d5_73 : decode jdk_33_method_47_code 73 = .ok (.iload_n 1, 1) := by decide +kernel
theorem own_d5_74 : decode jdk_33_method_47_code 74 = .ok (.iload_n 0, 1) := by decide +kernel
theorem own_d5_75 : decode jdk_33_method_47_code 75 = .ok (.iconst 1, 1) := by decide +kernel
theorem own_d5_76 : decode jdk_33_method_47_code 76 = .ok (.iushr, 1) := by decide +kernel
theorem own_d5_77 : decode jdk_33_method_47_code 77 = .ok (.isub, 1) := by decide +kernel
theorem own_d5_78 : decode jdk_33_method_47_code 78 = .ok (.ireturn, 1) := by decide +kernel
theorem own_efz3 (m : MethodId)  : entryFrame m #[(.int (3 : Int32))] 2 = mkF m 0 #[.val (.int (3 : Int32)), .unset] [] := by first | (simp [entryFrame, mkF, argsToLocals, Value.category]; done) | rfl
def own_Qz3 (Z : State)  (h0 : Heap) (n0 : Nat) (v : Option Value) (h : Heap) (L : List Loc) : Prop := v = some (.int (30 : Int32)) ∧ Fr n0 L ∧ h = h0
theorem own_pn46 : plainName "java/lang/Integer" = true := by first | (simp [plainName, overriddenIn]; done) | decide +kernel
set_option maxRecDepth 65536 in
set_option maxHeartbeats 40000000 in
theorem own_rmz3 (l : Launch) (Z : State) (aA : Array Value) (hw : ∀ d ∈ tables_1, d.before aA Z = true) (ws : List Jvm.Cond)  (h0 : Heap) (n0 : Nat) (Z0 : n0 ≤ h0.size) :
    MetFree l (⟨"java/lang/Integer", "numberOfLeadingZeros", "(I)I"⟩ : MethodName) (head1 (Jvm.Cond.code (⟨"java/lang/Integer", "numberOfLeadingZeros", "(I)I"⟩ : MethodName) jdk_33_method_47_code 2 (some .int) :: ws) ({ frames := 0, cells := 0, slots := 0, locals := 0 } : Room)) (fun a U => a = #[(.int (3 : Int32))] ∧ Z.Warmed39 U.vm ∧ U.heap = h0) (fun _ _ _ _ _ => True) (fun _ U o U' => ∃ v L, o = .returned v ∧ own_Qz3 Z  h0 n0 v U'.heap L ∧ FrameEnd U o U' L ({ frames := 0, cells := 0, slots := 0, locals := 0 } : Room).cells ({ frames := 0, cells := 0, slots := 0, locals := 0 } : Room).slots) := by
  refine MetFree.of_bodySF (plainFor_of_name own_pn46) hisR ?_
  intro p e s m args below meth c s₁ Bd hml0 hP hK
  obtain ⟨rfl, hZ, hh⟩ := hP
  have hx := Bd.exec
  have hby := Bd.bytes
  have hlk : meth.locks = false := Bd.notSynchronized
  have hml : c.maxLocals = 2 := hml0
  have hown : s.vm.findClass "java/lang/Integer" = some m.cls := findClass_of_methodNamed Bd.named
  have hnm := (name_of_methodNamed Bd.named Bd.method).1
  have X0 : Stand p l e ({ frames := 0, cells := 0, slots := 0, locals := 0 } : Room) s m #[(.int (3 : Int32))] below meth c s₁ [] 0 0 := Stand.of_body Bd
  have e0 : s₁.heap = h0 := by rw [← hh, Bd.state]; rfl
  have N0 := Fr.nil n0
  show OG p e below (FE s ({ frames := 0, cells := 0, slots := 0, locals := 0 } : Room).cells ({ frames := 0, cells := 0, slots := 0, locals := 0 } : Room).slots) (own_Qz3 Z  h0 n0) (s₁.setTop (entryFrame m #[(.int (3 : Int32))] 2))
  refine og_of (fun _ k => castTop (own_efz3 m ) k) ?_
  refine o_iloadN X0 hx rfl (hb hby own_d5_0) rfl ?_
  refine o_ifY (pc' := 15) X0 hx (hb hby own_d5_1) ((if0 _ _).trans (tlt (by decide : ((0 : Int32) < (3 : Int32)))).2.2.1) (by decide) (by decide) ?_
  refine o_bipush (z := (31 : Int32)) X0 hx rfl (hb hby own_d5_15) (by decide) ?_
  refine o_istoreN X0 hx rfl (hb hby own_d5_17) (L' := #[.val (.int (3 : Int32)), .val (.int (31 : Int32))]) rfl ?_
  refine o_iloadN X0 hx rfl (hb hby own_d5_18) rfl ?_
  refine o_ldcwI X0 hx rfl (hb hby own_d5_19) hZ hown (hw _ (List.mem_of_getElem? (i := 33) rfl)) ?_
  refine o_icmpY (pc' := 33) X0 hx (hb hby own_d5_22) (tlt (by decide : ((3 : Int32) < (65536 : Int32)))).1 (by decide) (by decide) ?_
  refine o_iloadN X0 hx rfl (hb hby own_d5_33) rfl ?_
  refine o_sipush (z := (256 : Int32)) X0 hx rfl (hb hby own_d5_34) (by decide) ?_
  refine o_icmpY (pc' := 48) X0 hx (hb hby own_d5_37) (tlt (by decide : ((3 : Int32) < (256 : Int32)))).1 (by decide) (by decide) ?_
  refine o_iloadN X0 hx rfl (hb hby own_d5_48) rfl ?_
  refine o_bipush (z := (16 : Int32)) X0 hx rfl (hb hby own_d5_49) (by decide) ?_
  refine o_icmpY (pc' := 61) X0 hx (hb hby own_d5_51) (tlt (by decide : ((3 : Int32) < (16 : Int32)))).1 (by decide) (by decide) ?_
  refine o_iloadN X0 hx rfl (hb hby own_d5_61) rfl ?_
  refine o_iconst (z := (4 : Int32)) X0 hx rfl (hb hby own_d5_62) (by decide) ?_
  refine o_icmpY (pc' := 73) X0 hx (hb hby own_d5_63) (tlt (by decide : ((3 : Int32) < (4 : Int32)))).1 (by decide) (by decide) ?_
  refine o_iloadN X0 hx rfl (hb hby own_d5_73) rfl ?_
  refine o_iloadN X0 hx rfl (hb hby own_d5_74) rfl ?_
  refine o_iconst (z := (1 : Int32)) X0 hx rfl (hb hby own_d5_75) (by decide) ?_
  refine o_iushr (z := (1 : Int32)) X0 hx rfl (hb hby own_d5_76) (by decide) ?_
  refine o_isub (z := (30 : Int32)) X0 hx rfl (hb hby own_d5_77) (by decide) ?_
  exact o_retI X0 hx Bd.returns (own_lv X0 hlk (by decide) (by decide)) (hb hby own_d5_78) ⟨rfl, N0, e0⟩
theorem own_d5_66 : decode jdk_33_method_47_code 66 = .ok (.iinc 1 (-2), 3) := by decide +kernel
theorem own_d5_69 : decode jdk_33_method_47_code 69 = .ok (.iload_n 0, 1) := by decide +kernel
theorem own_d5_70 : decode jdk_33_method_47_code 70 = .ok (.iconst 2, 1) := by decide +kernel
theorem own_d5_71 : decode jdk_33_method_47_code 71 = .ok (.iushr, 1) := by decide +kernel
theorem own_d5_72 : decode jdk_33_method_47_code 72 = .ok (.istore_n 0, 1) := by decide +kernel
theorem own_efz4 (m : MethodId)  : entryFrame m #[(.int (4 : Int32))] 2 = mkF m 0 #[.val (.int (4 : Int32)), .unset] [] := by first | (simp [entryFrame, mkF, argsToLocals, Value.category]; done) | rfl
def own_Qz4 (Z : State)  (h0 : Heap) (n0 : Nat) (v : Option Value) (h : Heap) (L : List Loc) : Prop := v = some (.int (29 : Int32)) ∧ Fr n0 L ∧ h = h0
set_option maxRecDepth 65536 in
set_option maxHeartbeats 40000000 in
theorem own_rmz4 (l : Launch) (Z : State) (aA : Array Value) (hw : ∀ d ∈ tables_1, d.before aA Z = true) (ws : List Jvm.Cond)  (h0 : Heap) (n0 : Nat) (Z0 : n0 ≤ h0.size) :
    MetFree l (⟨"java/lang/Integer", "numberOfLeadingZeros", "(I)I"⟩ : MethodName) (head1 (Jvm.Cond.code (⟨"java/lang/Integer", "numberOfLeadingZeros", "(I)I"⟩ : MethodName) jdk_33_method_47_code 2 (some .int) :: ws) ({ frames := 0, cells := 0, slots := 0, locals := 0 } : Room)) (fun a U => a = #[(.int (4 : Int32))] ∧ Z.Warmed39 U.vm ∧ U.heap = h0) (fun _ _ _ _ _ => True) (fun _ U o U' => ∃ v L, o = .returned v ∧ own_Qz4 Z  h0 n0 v U'.heap L ∧ FrameEnd U o U' L ({ frames := 0, cells := 0, slots := 0, locals := 0 } : Room).cells ({ frames := 0, cells := 0, slots := 0, locals := 0 } : Room).slots) := by
  refine MetFree.of_bodySF (plainFor_of_name own_pn46) hisR ?_
  intro p e s m args below meth c s₁ Bd hml0 hP hK
  obtain ⟨rfl, hZ, hh⟩ := hP
  have hx := Bd.exec
  have hby := Bd.bytes
  have hlk : meth.locks = false := Bd.notSynchronized
  have hml : c.maxLocals = 2 := hml0
  have hown : s.vm.findClass "java/lang/Integer" = some m.cls := findClass_of_methodNamed Bd.named
  have hnm := (name_of_methodNamed Bd.named Bd.method).1
  have X0 : Stand p l e ({ frames := 0, cells := 0, slots := 0, locals := 0 } : Room) s m #[(.int (4 : Int32))] below meth c s₁ [] 0 0 := Stand.of_body Bd
  have e0 : s₁.heap = h0 := by rw [← hh, Bd.state]; rfl
  have N0 := Fr.nil n0
  show OG p e below (FE s ({ frames := 0, cells := 0, slots := 0, locals := 0 } : Room).cells ({ frames := 0, cells := 0, slots := 0, locals := 0 } : Room).slots) (own_Qz4 Z  h0 n0) (s₁.setTop (entryFrame m #[(.int (4 : Int32))] 2))
  refine og_of (fun _ k => castTop (own_efz4 m ) k) ?_
  refine o_iloadN X0 hx rfl (hb hby own_d5_0) rfl ?_
  refine o_ifY (pc' := 15) X0 hx (hb hby own_d5_1) ((if0 _ _).trans (tlt (by decide : ((0 : Int32) < (4 : Int32)))).2.2.1) (by decide) (by decide) ?_
  refine o_bipush (z := (31 : Int32)) X0 hx rfl (hb hby own_d5_15) (by decide) ?_
  refine o_istoreN X0 hx rfl (hb hby own_d5_17) (L' := #[.val (.int (4 : Int32)), .val (.int (31 : Int32))]) rfl ?_
  refine o_iloadN X0 hx rfl (hb hby own_d5_18) rfl ?_
  refine o_ldcwI X0 hx rfl (hb hby own_d5_19) hZ hown (hw _ (List.mem_of_getElem? (i := 33) rfl)) ?_
  refine o_icmpY (pc' := 33) X0 hx (hb hby own_d5_22) (tlt (by decide : ((4 : Int32) < (65536 : Int32)))).1 (by decide) (by decide) ?_
  refine o_iloadN X0 hx rfl (hb hby own_d5_33) rfl ?_
  refine o_sipush (z := (256 : Int32)) X0 hx rfl (hb hby own_d5_34) (by decide) ?_
  refine o_icmpY (pc' := 48) X0 hx (hb hby own_d5_37) (tlt (by decide : ((4 : Int32) < (256 : Int32)))).1 (by decide) (by decide) ?_
  refine o_iloadN X0 hx rfl (hb hby own_d5_48) rfl ?_
  refine o_bipush (z := (16 : Int32)) X0 hx rfl (hb hby own_d5_49) (by decide) ?_
  refine o_icmpY (pc' := 61) X0 hx (hb hby own_d5_51) (tlt (by decide : ((4 : Int32) < (16 : Int32)))).1 (by decide) (by decide) ?_
  refine o_iloadN X0 hx rfl (hb hby own_d5_61) rfl ?_
  refine o_iconst (z := (4 : Int32)) X0 hx rfl (hb hby own_d5_62) (by decide) ?_
  refine o_icmpN (pc' := 66) X0 hx rfl (hb hby own_d5_63) (flt (by decide : ¬ ((4 : Int32) < (4 : Int32)))).1 ?_
  refine o_iinc (z := (29 : Int32)) X0 hx rfl (hb hby own_d5_66) rfl (by decide) (L' := #[.val (.int (4 : Int32)), .val (.int (29 : Int32))]) rfl ?_
  refine o_iloadN X0 hx rfl (hb hby own_d5_69) rfl ?_
  refine o_iconst (z := (2 : Int32)) X0 hx rfl (hb hby own_d5_70) (by decide) ?_
  refine o_iushr (z := (1 : Int32)) X0 hx rfl (hb hby own_d5_71) (by decide) ?_
  refine o_istoreN X0 hx rfl (hb hby own_d5_72) (L' := #[.val (.int (1 : Int32)), .val (.int (29 : Int32))]) rfl ?_
  refine o_iloadN X0 hx rfl (hb hby own_d5_73) rfl ?_
  refine o_iloadN X0 hx rfl (hb hby own_d5_74) rfl ?_
  refine o_iconst (z := (1 : Int32)) X0 hx rfl (hb hby own_d5_75) (by decide) ?_
  refine o_iushr (z := (0 : Int32)) X0 hx rfl (hb hby own_d5_76) (by decide) ?_
  refine o_isub (z := (29 : Int32)) X0 hx rfl (hb hby own_d5_77) (by decide) ?_
  exact o_retI X0 hx Bd.returns (own_lv X0 hlk (by decide) (by decide)) (hb hby own_d5_78) ⟨rfl, N0, e0⟩
theorem own_efz5 (m : MethodId)  : entryFrame m #[(.int (5 : Int32))] 2 = mkF m 0 #[.val (.int (5 : Int32)), .unset] [] := by first | (simp [entryFrame, mkF, argsToLocals, Value.category]; done) | rfl
def own_Qz5 (Z : State)  (h0 : Heap) (n0 : Nat) (v : Option Value) (h : Heap) (L : List Loc) : Prop := v = some (.int (29 : Int32)) ∧ Fr n0 L ∧ h = h0
set_option maxRecDepth 65536 in
set_option maxHeartbeats 40000000 in
theorem own_rmz5 (l : Launch) (Z : State) (aA : Array Value) (hw : ∀ d ∈ tables_1, d.before aA Z = true) (ws : List Jvm.Cond)  (h0 : Heap) (n0 : Nat) (Z0 : n0 ≤ h0.size) :
    MetFree l (⟨"java/lang/Integer", "numberOfLeadingZeros", "(I)I"⟩ : MethodName) (head1 (Jvm.Cond.code (⟨"java/lang/Integer", "numberOfLeadingZeros", "(I)I"⟩ : MethodName) jdk_33_method_47_code 2 (some .int) :: ws) ({ frames := 0, cells := 0, slots := 0, locals := 0 } : Room)) (fun a U => a = #[(.int (5 : Int32))] ∧ Z.Warmed39 U.vm ∧ U.heap = h0) (fun _ _ _ _ _ => True) (fun _ U o U' => ∃ v L, o = .returned v ∧ own_Qz5 Z  h0 n0 v U'.heap L ∧ FrameEnd U o U' L ({ frames := 0, cells := 0, slots := 0, locals := 0 } : Room).cells ({ frames := 0, cells := 0, slots := 0, locals := 0 } : Room).slots) := by
  refine MetFree.of_bodySF (plainFor_of_name own_pn46) hisR ?_
  intro p e s m args below meth c s₁ Bd hml0 hP hK
  obtain ⟨rfl, hZ, hh⟩ := hP
  have hx := Bd.exec
  have hby := Bd.bytes
  have hlk : meth.locks = false := Bd.notSynchronized
  have hml : c.maxLocals = 2 := hml0
  have hown : s.vm.findClass "java/lang/Integer" = some m.cls := findClass_of_methodNamed Bd.named
  have hnm := (name_of_methodNamed Bd.named Bd.method).1
  have X0 : Stand p l e ({ frames := 0, cells := 0, slots := 0, locals := 0 } : Room) s m #[(.int (5 : Int32))] below meth c s₁ [] 0 0 := Stand.of_body Bd
  have e0 : s₁.heap = h0 := by rw [← hh, Bd.state]; rfl
  have N0 := Fr.nil n0
  show OG p e below (FE s ({ frames := 0, cells := 0, slots := 0, locals := 0 } : Room).cells ({ frames := 0, cells := 0, slots := 0, locals := 0 } : Room).slots) (own_Qz5 Z  h0 n0) (s₁.setTop (entryFrame m #[(.int (5 : Int32))] 2))
  refine og_of (fun _ k => castTop (own_efz5 m ) k) ?_
  refine o_iloadN X0 hx rfl (hb hby own_d5_0) rfl ?_
  refine o_ifY (pc' := 15) X0 hx (hb hby own_d5_1) ((if0 _ _).trans (tlt (by decide : ((0 : Int32) < (5 : Int32)))).2.2.1) (by decide) (by decide) ?_
  refine o_bipush (z := (31 : Int32)) X0 hx rfl (hb hby own_d5_15) (by decide) ?_
  refine o_istoreN X0 hx rfl (hb hby own_d5_17) (L' := #[.val (.int (5 : Int32)), .val (.int (31 : Int32))]) rfl ?_
  refine o_iloadN X0 hx rfl (hb hby own_d5_18) rfl ?_
  refine o_ldcwI X0 hx rfl (hb hby own_d5_19) hZ hown (hw _ (List.mem_of_getElem? (i := 33) rfl)) ?_
  refine o_icmpY (pc' := 33) X0 hx (hb hby own_d5_22) (tlt (by decide : ((5 : Int32) < (65536 : Int32)))).1 (by decide) (by decide) ?_
  refine o_iloadN X0 hx rfl (hb hby own_d5_33) rfl ?_
  refine o_sipush (z := (256 : Int32)) X0 hx rfl (hb hby own_d5_34) (by decide) ?_
  refine o_icmpY (pc' := 48) X0 hx (hb hby own_d5_37) (tlt (by decide : ((5 : Int32) < (256 : Int32)))).1 (by decide) (by decide) ?_
  refine o_iloadN X0 hx rfl (hb hby own_d5_48) rfl ?_
  refine o_bipush (z := (16 : Int32)) X0 hx rfl (hb hby own_d5_49) (by decide) ?_
  refine o_icmpY (pc' := 61) X0 hx (hb hby own_d5_51) (tlt (by decide : ((5 : Int32) < (16 : Int32)))).1 (by decide) (by decide) ?_
  refine o_iloadN X0 hx rfl (hb hby own_d5_61) rfl ?_
  refine o_iconst (z := (4 : Int32)) X0 hx rfl (hb hby own_d5_62) (by decide) ?_
  refine o_icmpN (pc' := 66) X0 hx rfl (hb hby own_d5_63) (flt (by decide : ¬ ((5 : Int32) < (4 : Int32)))).1 ?_
  refine o_iinc (z := (29 : Int32)) X0 hx rfl (hb hby own_d5_66) rfl (by decide) (L' := #[.val (.int (5 : Int32)), .val (.int (29 : Int32))]) rfl ?_
  refine o_iloadN X0 hx rfl (hb hby own_d5_69) rfl ?_
  refine o_iconst (z := (2 : Int32)) X0 hx rfl (hb hby own_d5_70) (by decide) ?_
  refine o_iushr (z := (1 : Int32)) X0 hx rfl (hb hby own_d5_71) (by decide) ?_
  refine o_istoreN X0 hx rfl (hb hby own_d5_72) (L' := #[.val (.int (1 : Int32)), .val (.int (29 : Int32))]) rfl ?_
  refine o_iloadN X0 hx rfl (hb hby own_d5_73) rfl ?_
  refine o_iloadN X0 hx rfl (hb hby own_d5_74) rfl ?_
  refine o_iconst (z := (1 : Int32)) X0 hx rfl (hb hby own_d5_75) (by decide) ?_
  refine o_iushr (z := (0 : Int32)) X0 hx rfl (hb hby own_d5_76) (by decide) ?_
  refine o_isub (z := (29 : Int32)) X0 hx rfl (hb hby own_d5_77) (by decide) ?_
  exact o_retI X0 hx Bd.returns (own_lv X0 hlk (by decide) (by decide)) (hb hby own_d5_78) ⟨rfl, N0, e0⟩
theorem own_efz1 (m : MethodId)  : entryFrame m #[(.int (1 : Int32))] 2 = mkF m 0 #[.val (.int (1 : Int32)), .unset] [] := by first | (simp [entryFrame, mkF, argsToLocals, Value.category]; done) | rfl
def own_Qz1 (Z : State)  (h0 : Heap) (n0 : Nat) (v : Option Value) (h : Heap) (L : List Loc) : Prop := v = some (.int (31 : Int32)) ∧ Fr n0 L ∧ h = h0
set_option maxRecDepth 65536 in
set_option maxHeartbeats 40000000 in
theorem own_rmz1 (l : Launch) (Z : State) (aA : Array Value) (hw : ∀ d ∈ tables_1, d.before aA Z = true) (ws : List Jvm.Cond)  (h0 : Heap) (n0 : Nat) (Z0 : n0 ≤ h0.size) :
    MetFree l (⟨"java/lang/Integer", "numberOfLeadingZeros", "(I)I"⟩ : MethodName) (head1 (Jvm.Cond.code (⟨"java/lang/Integer", "numberOfLeadingZeros", "(I)I"⟩ : MethodName) jdk_33_method_47_code 2 (some .int) :: ws) ({ frames := 0, cells := 0, slots := 0, locals := 0 } : Room)) (fun a U => a = #[(.int (1 : Int32))] ∧ Z.Warmed39 U.vm ∧ U.heap = h0) (fun _ _ _ _ _ => True) (fun _ U o U' => ∃ v L, o = .returned v ∧ own_Qz1 Z  h0 n0 v U'.heap L ∧ FrameEnd U o U' L ({ frames := 0, cells := 0, slots := 0, locals := 0 } : Room).cells ({ frames := 0, cells := 0, slots := 0, locals := 0 } : Room).slots) := by
  refine MetFree.of_bodySF (plainFor_of_name own_pn46) hisR ?_
  intro p e s m args below meth c s₁ Bd hml0 hP hK
  obtain ⟨rfl, hZ, hh⟩ := hP
  have hx := Bd.exec
  have hby := Bd.bytes
  have hlk : meth.locks = false := Bd.notSynchronized
  have hml : c.maxLocals = 2 := hml0
  have hown : s.vm.findClass "java/lang/Integer" = some m.cls := findClass_of_methodNamed Bd.named
  have hnm := (name_of_methodNamed Bd.named Bd.method).1
  have X0 : Stand p l e ({ frames := 0, cells := 0, slots := 0, locals := 0 } : Room) s m #[(.int (1 : Int32))] below meth c s₁ [] 0 0 := Stand.of_body Bd
  have e0 : s₁.heap = h0 := by rw [← hh, Bd.state]; rfl
  have N0 := Fr.nil n0
  show OG p e below (FE s ({ frames := 0, cells := 0, slots := 0, locals := 0 } : Room).cells ({ frames := 0, cells := 0, slots := 0, locals := 0 } : Room).slots) (own_Qz1 Z  h0 n0) (s₁.setTop (entryFrame m #[(.int (1 : Int32))] 2))
  refine og_of (fun _ k => castTop (own_efz1 m ) k) ?_
  refine o_iloadN X0 hx rfl (hb hby own_d5_0) rfl ?_
  refine o_ifY (pc' := 15) X0 hx (hb hby own_d5_1) ((if0 _ _).trans (tlt (by decide : ((0 : Int32) < (1 : Int32)))).2.2.1) (by decide) (by decide) ?_
  refine o_bipush (z := (31 : Int32)) X0 hx rfl (hb hby own_d5_15) (by decide) ?_
  refine o_istoreN X0 hx rfl (hb hby own_d5_17) (L' := #[.val (.int (1 : Int32)), .val (.int (31 : Int32))]) rfl ?_
  refine o_iloadN X0 hx rfl (hb hby own_d5_18) rfl ?_
  refine o_ldcwI X0 hx rfl (hb hby own_d5_19) hZ hown (hw _ (List.mem_of_getElem? (i := 33) rfl)) ?_
  refine o_icmpY (pc' := 33) X0 hx (hb hby own_d5_22) (tlt (by decide : ((1 : Int32) < (65536 : Int32)))).1 (by decide) (by decide) ?_
  refine o_iloadN X0 hx rfl (hb hby own_d5_33) rfl ?_
  refine o_sipush (z := (256 : Int32)) X0 hx rfl (hb hby own_d5_34) (by decide) ?_
  refine o_icmpY (pc' := 48) X0 hx (hb hby own_d5_37) (tlt (by decide : ((1 : Int32) < (256 : Int32)))).1 (by decide) (by decide) ?_
  refine o_iloadN X0 hx rfl (hb hby own_d5_48) rfl ?_
  refine o_bipush (z := (16 : Int32)) X0 hx rfl (hb hby own_d5_49) (by decide) ?_
  refine o_icmpY (pc' := 61) X0 hx (hb hby own_d5_51) (tlt (by decide : ((1 : Int32) < (16 : Int32)))).1 (by decide) (by decide) ?_
  refine o_iloadN X0 hx rfl (hb hby own_d5_61) rfl ?_
  refine o_iconst (z := (4 : Int32)) X0 hx rfl (hb hby own_d5_62) (by decide) ?_
  refine o_icmpY (pc' := 73) X0 hx (hb hby own_d5_63) (tlt (by decide : ((1 : Int32) < (4 : Int32)))).1 (by decide) (by decide) ?_
  refine o_iloadN X0 hx rfl (hb hby own_d5_73) rfl ?_
  refine o_iloadN X0 hx rfl (hb hby own_d5_74) rfl ?_
  refine o_iconst (z := (1 : Int32)) X0 hx rfl (hb hby own_d5_75) (by decide) ?_
  refine o_iushr (z := (0 : Int32)) X0 hx rfl (hb hby own_d5_76) (by decide) ?_
  refine o_isub (z := (31 : Int32)) X0 hx rfl (hb hby own_d5_77) (by decide) ?_
  exact o_retI X0 hx Bd.returns (own_lv X0 hlk (by decide) (by decide)) (hb hby own_d5_78) ⟨rfl, N0, e0⟩
theorem own_pd0 : parseMethodDescriptor "(I)I" = some ⟨[.int], some .int⟩ := by decide +kernel
theorem own_d4_0 : decode prog_170_method_9_code 0 = .ok (.iconst 1, 1) := by decide +kernel
theorem own_d4_1 : decode prog_170_method_9_code 1 = .ok (.iload_n 2, 1) := by decide +kernel
theorem own_d4_2 : decode prog_170_method_9_code 2 = .ok (.ishl, 1) := by decide +kernel
theorem own_d4_3 : decode prog_170_method_9_code 3 = .ok (.istore_n 3, 1) := by decide +kernel
theorem own_d4_4 : decode prog_170_method_9_code 4 = .ok (.iload_n 3, 1) := by decide +kernel
theorem own_d4_5 : decode prog_170_method_9_code 5 = .ok (.iconst 1, 1) := by decide +kernel
theorem own_d4_6 : decode prog_170_method_9_code 6 = .ok (.isub, 1) := by decide +kernel
theorem own_d4_7 : decode prog_170_method_9_code 7 = .ok (.istore 4, 2) := by decide +kernel
theorem own_d4_9 : decode prog_170_method_9_code 9 = .ok (.iconst 0, 1) := by decide +kernel
theorem own_d4_10 : decode prog_170_method_9_code 10 = .ok (.istore 5, 2) := by decide +kernel
theorem own_d4_12 : decode prog_170_method_9_code 12 = .ok (.iload 5, 2) := by decide +kernel
theorem own_d4_14 : decode prog_170_method_9_code 14 = .ok (.iload_n 1, 1) := by decide +kernel
theorem own_d4_15 : decode prog_170_method_9_code 15 = .ok (.if_icmp .ge 58, 3) := by decide +kernel
theorem own_d4_18 : decode prog_170_method_9_code 18 = .ok (.aload_n 0, 1) := by decide +kernel
theorem own_d4_19 : decode prog_170_method_9_code 19 = .ok (.getfield 20, 3) := by decide +kernel
theorem own_d4_22 : decode prog_170_method_9_code 22 = .ok (.iload 5, 2) := by decide +kernel
theorem own_d4_24 : decode prog_170_method_9_code 24 = .ok (.saload, 1) := by decide +kernel
theorem own_d4_25 : decode prog_170_method_9_code 25 = .ok (.iconst (-1), 1) := by decide +kernel
theorem own_d4_26 : decode prog_170_method_9_code 26 = .ok (.if_icmp .ne 27, 3) := by decide +kernel
theorem own_d4_29 : decode prog_170_method_9_code 29 = .ok (.aload_n 0, 1) := by decide +kernel
theorem own_d4_30 : decode prog_170_method_9_code 30 = .ok (.getfield 9, 3) := by decide +kernel
theorem own_d4_33 : decode prog_170_method_9_code 33 = .ok (.iload 4, 2) := by decide +kernel
theorem own_d4_35 : decode prog_170_method_9_code 35 = .ok (.iinc 4 (-1), 3) := by decide +kernel
theorem own_d4_38 : decode prog_170_method_9_code 38 = .ok (.iload 5, 2) := by decide +kernel
theorem own_d4_40 : decode prog_170_method_9_code 40 = .ok (.i2b, 1) := by decide +kernel
theorem own_d4_41 : decode prog_170_method_9_code 41 = .ok (.bastore, 1) := by decide +kernel
theorem own_d4_42 : decode prog_170_method_9_code 42 = .ok (.aload_n 0, 1) := by decide +kernel
theorem own_d4_43 : decode prog_170_method_9_code 43 = .ok (.getfield 23, 3) := by decide +kernel
theorem own_d4_46 : decode prog_170_method_9_code 46 = .ok (.iload 5, 2) := by decide +kernel
theorem own_d4_48 : decode prog_170_method_9_code 48 = .ok (.iconst 1, 1) := by decide +kernel
theorem own_d4_49 : decode prog_170_method_9_code 49 = .ok (.iastore, 1) := by decide +kernel
theorem own_d4_50 : decode prog_170_method_9_code 50 = .ok (.goto 17, 3) := by decide +kernel
theorem own_d4_53 : decode prog_170_method_9_code 53 = .ok (.aload_n 0, 1) := by decide +kernel
theorem own_d4_54 : decode prog_170_method_9_code 54 = .ok (.getfield 23, 3) := by decide +kernel
theorem own_d4_57 : decode prog_170_method_9_code 57 = .ok (.iload 5, 2) := by decide +kernel
theorem own_d4_59 : decode prog_170_method_9_code 59 = .ok (.aload_n 0, 1) := by decide +kernel
theorem own_d4_60 : decode prog_170_method_9_code 60 = .ok (.getfield 20, 3) := by decide +kernel
theorem own_d4_63 : decode prog_170_method_9_code 63 = .ok (.iload 5, 2) := by decide +kernel
theorem own_d4_65 : decode prog_170_method_9_code 65 = .ok (.saload, 1) := by decide +kernel
theorem own_d4_66 : decode prog_170_method_9_code 66 = .ok (.iastore, 1) := by decide +kernel
theorem own_d4_67 : decode prog_170_method_9_code 67 = .ok (.iinc 5 1, 3) := by decide +kernel
theorem own_d4_70 : decode prog_170_method_9_code 70 = .ok (.goto (-58), 3) := by decide +kernel
theorem own_d4_73 : decode prog_170_method_9_code 73 = .ok (.iload_n 3, 1) := by decide +kernel
theorem own_d4_74 : decode prog_170_method_9_code 74 = .ok (.iconst 1, 1) := by decide +kernel
theorem own_d4_75 : decode prog_170_method_9_code 75 = .ok (.iushr, 1) := by decide +kernel
theorem own_d4_76 : decode prog_170_method_9_code 76 = .ok (.iload_n 3, 1) := by decide +kernel
theorem own_d4_77 : decode prog_170_method_9_code 77 = .ok (.iconst 3, 1) := by decide +kernel
theorem own_d4_78 : decode prog_170_method_9_code 78 = .ok (.iushr, 1) := by decide +kernel
theorem own_d4_79 : decode prog_170_method_9_code 79 = .ok (.iadd, 1) := by decide +kernel
theorem own_d4_80 : decode prog_170_method_9_code 80 = .ok (.iconst 3, 1) := by decide +kernel
theorem own_d4_81 : decode prog_170_method_9_code 81 = .ok (.iadd, 1) := by decide +kernel
theorem own_d4_82 : decode prog_170_method_9_code 82 = .ok (.istore 5, 2) := by decide +kernel
theorem own_d4_84 : decode prog_170_method_9_code 84 = .ok (.iconst 0, 1) := by decide +kernel
theorem own_d4_85 : decode prog_170_method_9_code 85 = .ok (.istore 6, 2) := by decide +kernel
theorem own_d4_87 : decode prog_170_method_9_code 87 = .ok (.iconst 0, 1) := by decide +kernel
theorem own_d4_88 : decode prog_170_method_9_code 88 = .ok (.istore 7, 2) := by decide +kernel
theorem own_d4_90 : decode prog_170_method_9_code 90 = .ok (.iload 7, 2) := by decide +kernel
theorem own_d4_92 : decode prog_170_method_9_code 92 = .ok (.iload_n 1, 1) := by decide +kernel
theorem own_d4_93 : decode prog_170_method_9_code 93 = .ok (.if_icmp .ge 58, 3) := by decide +kernel
theorem own_d4_96 : decode prog_170_method_9_code 96 = .ok (.iconst 0, 1) := by decide +kernel
theorem own_d4_97 : decode prog_170_method_9_code 97 = .ok (.istore 8, 2) := by decide +kernel
theorem own_d4_99 : decode prog_170_method_9_code 99 = .ok (.iload 8, 2) := by decide +kernel
theorem own_d4_101 : decode prog_170_method_9_code 101 = .ok (.aload_n 0, 1) := by decide +kernel
theorem own_d4_102 : decode prog_170_method_9_code 102 = .ok (.getfield 20, 3) := by decide +kernel
theorem own_d4_105 : decode prog_170_method_9_code 105 = .ok (.iload 7, 2) := by decide +kernel
theorem own_d4_107 : decode prog_170_method_9_code 107 = .ok (.saload, 1) := by decide +kernel
theorem own_d4_108 : decode prog_170_method_9_code 108 = .ok (.if_icmp .ge 37, 3) := by decide +kernel
theorem own_d4_111 : decode prog_170_method_9_code 111 = .ok (.aload_n 0, 1) := by decide +kernel
theorem own_d4_112 : decode prog_170_method_9_code 112 = .ok (.getfield 9, 3) := by decide +kernel
theorem own_d4_115 : decode prog_170_method_9_code 115 = .ok (.iload 6, 2) := by decide +kernel
theorem own_d4_117 : decode prog_170_method_9_code 117 = .ok (.iload 7, 2) := by decide +kernel
theorem own_d4_119 : decode prog_170_method_9_code 119 = .ok (.i2b, 1) := by decide +kernel
theorem own_d4_120 : decode prog_170_method_9_code 120 = .ok (.bastore, 1) := by decide +kernel
theorem own_d4_121 : decode prog_170_method_9_code 121 = .ok (.iload 6, 2) := by decide +kernel
theorem own_d4_123 : decode prog_170_method_9_code 123 = .ok (.iload 5, 2) := by decide +kernel
theorem own_d4_125 : decode prog_170_method_9_code 125 = .ok (.iadd, 1) := by decide +kernel
theorem own_d4_126 : decode prog_170_method_9_code 126 = .ok (.iload_n 3, 1) := by decide +kernel
theorem own_d4_127 : decode prog_170_method_9_code 127 = .ok (.iconst 1, 1) := by decide +kernel
theorem own_d4_128 : decode prog_170_method_9_code 128 = .ok (.isub, 1) := by decide +kernel
theorem own_d4_129 : decode prog_170_method_9_code 129 = .ok (.iand, 1) := by decide +kernel
theorem own_d4_130 : decode prog_170_method_9_code 130 = .ok (.istore 6, 2) := by decide +kernel
theorem own_d4_132 : decode prog_170_method_9_code 132 = .ok (.iload 6, 2) := by decide +kernel
theorem own_d4_134 : decode prog_170_method_9_code 134 = .ok (.iload 4, 2) := by decide +kernel
theorem own_d4_136 : decode prog_170_method_9_code 136 = .ok (.if_icmp .gt (-15), 3) := by decide +kernel
theorem own_d4_139 : decode prog_170_method_9_code 139 = .ok (.iinc 8 1, 3) := by decide +kernel
theorem own_d4_142 : decode prog_170_method_9_code 142 = .ok (.goto (-43), 3) := by decide +kernel
theorem own_d4_145 : decode prog_170_method_9_code 145 = .ok (.iinc 7 1, 3) := by decide +kernel
theorem own_d4_148 : decode prog_170_method_9_code 148 = .ok (.goto (-58), 3) := by decide +kernel
theorem own_d4_151 : decode prog_170_method_9_code 151 = .ok (.iload 6, 2) := by decide +kernel
theorem own_d4_153 : decode prog_170_method_9_code 153 = .ok (.ifCond .eq 9, 3) := by decide +kernel
theorem own_d4_162 : decode prog_170_method_9_code 162 = .ok (.iconst 0, 1) := by decide +kernel
theorem own_d4_163 : decode prog_170_method_9_code 163 = .ok (.istore 6, 2) := by decide +kernel
theorem own_d4_165 : decode prog_170_method_9_code 165 = .ok (.iload 6, 2) := by decide +kernel
theorem own_d4_167 : decode prog_170_method_9_code 167 = .ok (.iload_n 3, 1) := by decide +kernel
theorem own_d4_168 : decode prog_170_method_9_code 168 = .ok (.if_icmp .ge 73, 3) := by decide +kernel
theorem own_d4_171 : decode prog_170_method_9_code 171 = .ok (.aload_n 0, 1) := by decide +kernel
theorem own_d4_172 : decode prog_170_method_9_code 172 = .ok (.getfield 9, 3) := by decide +kernel
theorem own_d4_175 : decode prog_170_method_9_code 175 = .ok (.iload 6, 2) := by decide +kernel
theorem own_d4_177 : decode prog_170_method_9_code 177 = .ok (.baload, 1) := by decide +kernel
theorem own_d4_178 : decode prog_170_method_9_code 178 = .ok (.sipush 255, 3) := by decide +kernel
theorem own_d4_181 : decode prog_170_method_9_code 181 = .ok (.iand, 1) := by decide +kernel
theorem own_d4_182 : decode prog_170_method_9_code 182 = .ok (.istore 7, 2) := by decide +kernel
theorem own_d4_184 : decode prog_170_method_9_code 184 = .ok (.aload_n 0, 1) := by decide +kernel
theorem own_d4_185 : decode prog_170_method_9_code 185 = .ok (.getfield 23, 3) := by decide +kernel
theorem own_d4_188 : decode prog_170_method_9_code 188 = .ok (.iload 7, 2) := by decide +kernel
theorem own_d4_190 : decode prog_170_method_9_code 190 = .ok (.dup2, 1) := by decide +kernel
theorem own_d4_191 : decode prog_170_method_9_code 191 = .ok (.iaload, 1) := by decide +kernel
theorem own_d4_192 : decode prog_170_method_9_code 192 = .ok (.dup_x2, 1) := by decide +kernel
theorem own_d4_193 : decode prog_170_method_9_code 193 = .ok (.iconst 1, 1) := by decide +kernel
theorem own_d4_194 : decode prog_170_method_9_code 194 = .ok (.iadd, 1) := by decide +kernel
theorem own_d4_195 : decode prog_170_method_9_code 195 = .ok (.iastore, 1) := by decide +kernel
theorem own_d4_196 : decode prog_170_method_9_code 196 = .ok (.istore 8, 2) := by decide +kernel
theorem own_d4_198 : decode prog_170_method_9_code 198 = .ok (.iload_n 2, 1) := by decide +kernel
theorem own_d4_199 : decode prog_170_method_9_code 199 = .ok (.bipush 31, 2) := by decide +kernel
theorem own_d4_201 : decode prog_170_method_9_code 201 = .ok (.iload 8, 2) := by decide +kernel
theorem own_d4_203 : decode prog_170_method_9_code 203 = .ok (.invokestatic 88, 3) := by decide +kernel
theorem own_d4_206 : decode prog_170_method_9_code 206 = .ok (.isub, 1) := by decide +kernel
theorem own_d4_207 : decode prog_170_method_9_code 207 = .ok (.isub, 1) := by decide +kernel
theorem own_d4_208 : decode prog_170_method_9_code 208 = .ok (.istore 9, 2) := by decide +kernel
theorem own_d4_210 : decode prog_170_method_9_code 210 = .ok (.aload_n 0, 1) := by decide +kernel
theorem own_d4_211 : decode prog_170_method_9_code 211 = .ok (.getfield 13, 3) := by decide +kernel
theorem own_d4_214 : decode prog_170_method_9_code 214 = .ok (.iload 6, 2) := by decide +kernel
theorem own_d4_216 : decode prog_170_method_9_code 216 = .ok (.iload 9, 2) := by decide +kernel
theorem own_d4_218 : decode prog_170_method_9_code 218 = .ok (.i2b, 1) := by decide +kernel
theorem own_d4_219 : decode prog_170_method_9_code 219 = .ok (.bastore, 1) := by decide +kernel
theorem own_d4_220 : decode prog_170_method_9_code 220 = .ok (.aload_n 0, 1) := by decide +kernel
theorem own_d4_221 : decode prog_170_method_9_code 221 = .ok (.getfield 16, 3) := by decide +kernel
theorem own_d4_224 : decode prog_170_method_9_code 224 = .ok (.iload 6, 2) := by decide +kernel
theorem own_d4_226 : decode prog_170_method_9_code 226 = .ok (.iload 8, 2) := by decide +kernel
theorem own_d4_228 : decode prog_170_method_9_code 228 = .ok (.iload 9, 2) := by decide +kernel
theorem own_d4_230 : decode prog_170_method_9_code 230 = .ok (.ishl, 1) := by decide +kernel
theorem own_d4_231 : decode prog_170_method_9_code 231 = .ok (.iload_n 3, 1) := by decide +kernel
theorem own_d4_232 : decode prog_170_method_9_code 232 = .ok (.isub, 1) := by decide +kernel
theorem own_d4_233 : decode prog_170_method_9_code 233 = .ok (.i2s, 1) := by decide +kernel
theorem own_d4_234 : decode prog_170_method_9_code 234 = .ok (.sastore, 1) := by decide +kernel
theorem own_d4_235 : decode prog_170_method_9_code 235 = .ok (.iinc 6 1, 3) := by decide +kernel
theorem own_d4_238 : decode prog_170_method_9_code 238 = .ok (.goto (-73), 3) := by decide +kernel
theorem own_d4_241 : decode prog_170_method_9_code 241 = .ok (.aload_n 0, 1) := by decide +kernel
theorem own_d4_242 : decode prog_170_method_9_code 242 = .ok (.iload_n 2, 1) := by decide +kernel
theorem own_d4_243 : decode prog_170_method_9_code 243 = .ok (.putfield 41, 3) := by decide +kernel
theorem own_d4_246 : decode prog_170_method_9_code 246 = .ok (.return_, 1) := by decide +kernel
theorem own_ef4 (m : MethodId) (a0 : Addr) : entryFrame m #[(.ref a0), (.int (2 : Int32)), (.int (2 : Int32))] 10 = mkF m 0 #[.val (.ref a0), .val (.int (2 : Int32)), .val (.int (2 : Int32)), .unset, .unset, .unset, .unset, .unset, .unset, .unset] [] := by first | (simp [entryFrame, mkF, argsToLocals, Value.category]; done) | rfl
def own_Q4 (Z : State) (a0 : Addr) (s1 : Addr) (s2 : Addr) (s3 : Addr) (s4 : Addr) (s5 : Addr) (k_s1 : ClassId) (k_s2 : ClassId) (k_s3 : ClassId) (k_s4 : ClassId) (k_s5 : ClassId) (h0 : Heap) (n0 : Nat) (v : Option Value) (h : Heap) (L : List Loc) : Prop := v = none ∧ Fr n0 L ∧ Keep h0 h [a0, s1, s2, s3, s5] ∧ Fld Z h a0 "tidemark/record/FseTable" "symbols" "[B" (.ref s1) ∧ Fld Z h a0 "tidemark/record/FseTable" "bits" "[B" (.ref s2) ∧ Fld Z h a0 "tidemark/record/FseTable" "bases" "[S" (.ref s3) ∧ Fld Z h a0 "tidemark/record/FseTable" "counts" "[S" (.ref s4) ∧ Fld Z h a0 "tidemark/record/FseTable" "next" "[I" (.ref s5) ∧ Fld Z h a0 "tidemark/record/FseTable" "accuracyLog" "I" (.int (2 : Int32)) ∧ Arv Z h s1 k_s1 .byte (512 : Int32) [(.int (0 : Int32)), (.int (0 : Int32)), (.int (0 : Int32)), (.int (1 : Int32)), (.int (0 : Int32)), (.int (0 : Int32)), (.int (0 : Int32)), (.int (0 : Int32))] (.int (0 : Int32)) ∧ Arv Z h s2 k_s2 .byte (512 : Int32) [(.int (1 : Int32)), (.int (0 : Int32)), (.int (0 : Int32)), (.int (2 : Int32)), (.int (0 : Int32)), (.int (0 : Int32)), (.int (0 : Int32)), (.int (0 : Int32))] (.int (0 : Int32)) ∧ Arv Z h s3 k_s3 .short (512 : Int32) [(.int (2 : Int32)), (.int (0 : Int32)), (.int (1 : Int32)), (.int (0 : Int32)), (.int (0 : Int32)), (.int (0 : Int32)), (.int (0 : Int32)), (.int (0 : Int32))] (.int (0 : Int32)) ∧ Arv Z h s5 k_s5 .int (256 : Int32) [(.int (6 : Int32)), (.int (2 : Int32)), (.int (0 : Int32)), (.int (0 : Int32)), (.int (0 : Int32)), (.int (0 : Int32)), (.int (0 : Int32)), (.int (0 : Int32))] (.int (0 : Int32))
set_option maxRecDepth 65536 in
set_option maxHeartbeats 40000000 in
theorem own_rm4 (l : Launch) (Z : State) (aA : Array Value) (hw : ∀ d ∈ tables_1, d.before aA Z = true) (ws : List Jvm.Cond) (a0 : Addr) (s1 : Addr) (s2 : Addr) (s3 : Addr) (s4 : Addr) (s5 : Addr) (k_s1 : ClassId) (k_s2 : ClassId) (k_s3 : ClassId) (k_s4 : ClassId) (k_s5 : ClassId) (h0 : Heap) (n0 : Nat) (Z0 : n0 ≤ h0.size) (pre0 : Exa Z h0 a0 "tidemark/record/FseTable") (pre1 : Fld Z h0 a0 "tidemark/record/FseTable" "symbols" "[B" (.ref s1)) (pre2 : Fld Z h0 a0 "tidemark/record/FseTable" "bits" "[B" (.ref s2)) (pre3 : Fld Z h0 a0 "tidemark/record/FseTable" "bases" "[S" (.ref s3)) (pre4 : Fld Z h0 a0 "tidemark/record/FseTable" "counts" "[S" (.ref s4)) (pre5 : Fld Z h0 a0 "tidemark/record/FseTable" "next" "[I" (.ref s5)) (pre6 : Fld Z h0 a0 "tidemark/record/FseTable" "accuracyLog" "I" (.int (0 : Int32))) (pre7 : Arv Z h0 s1 k_s1 .byte (512 : Int32) [(.int (0 : Int32)), (.int (0 : Int32)), (.int (0 : Int32)), (.int (0 : Int32)), (.int (0 : Int32)), (.int (0 : Int32)), (.int (0 : Int32)), (.int (0 : Int32))] (.int (0 : Int32))) (pre8 : Arv Z h0 s2 k_s2 .byte (512 : Int32) [(.int (0 : Int32)), (.int (0 : Int32)), (.int (0 : Int32)), (.int (0 : Int32)), (.int (0 : Int32)), (.int (0 : Int32)), (.int (0 : Int32)), (.int (0 : Int32))] (.int (0 : Int32))) (pre9 : Arv Z h0 s3 k_s3 .short (512 : Int32) [(.int (0 : Int32)), (.int (0 : Int32)), (.int (0 : Int32)), (.int (0 : Int32)), (.int (0 : Int32)), (.int (0 : Int32)), (.int (0 : Int32)), (.int (0 : Int32))] (.int (0 : Int32))) (pre10 : Arv Z h0 s4 k_s4 .short (256 : Int32) [(.int (3 : Int32)), (.int (-1 : Int32)), (.int (0 : Int32)), (.int (0 : Int32)), (.int (0 : Int32)), (.int (0 : Int32)), (.int (0 : Int32)), (.int (0 : Int32))] (.int (0 : Int32))) (pre11 : Arv Z h0 s5 k_s5 .int (256 : Int32) [(.int (0 : Int32)), (.int (0 : Int32)), (.int (0 : Int32)), (.int (0 : Int32)), (.int (0 : Int32)), (.int (0 : Int32)), (.int (0 : Int32)), (.int (0 : Int32))] (.int (0 : Int32))) (pre12 : n0 ≤ a0) (pre13 : n0 ≤ s1) (pre14 : n0 ≤ s2) (pre15 : n0 ≤ s3) (pre16 : n0 ≤ s4) (pre17 : n0 ≤ s5) (pre18 : a0 ≠ s1) (pre19 : a0 ≠ s2) (pre20 : a0 ≠ s3) (pre21 : a0 ≠ s4) (pre22 : a0 ≠ s5) (pre23 : s1 ≠ s2) (pre24 : s1 ≠ s3) (pre25 : s1 ≠ s4) (pre26 : s1 ≠ s5) (pre27 : s2 ≠ s3) (pre28 : s2 ≠ s4) (pre29 : s2 ≠ s5) (pre30 : s3 ≠ s4) (pre31 : s3 ≠ s5) (pre32 : s4 ≠ s5) :
    MetFree l (⟨"tidemark/record/FseTable", "build", "(II)V"⟩ : MethodName) (head1 (Jvm.Cond.code (⟨"tidemark/record/FseTable", "build", "(II)V"⟩ : MethodName) prog_170_method_9_code 10 none :: ws) ({ frames := 1, cells := 0, slots := 0, locals := 15 } : Room)) (fun a U => a = #[(.ref a0), (.int (2 : Int32)), (.int (2 : Int32))] ∧ Z.Warmed39 U.vm ∧ U.heap = h0) (fun _ _ _ _ _ => True) (fun _ U o U' => ∃ v L, o = .returned v ∧ own_Q4 Z a0 s1 s2 s3 s4 s5 k_s1 k_s2 k_s3 k_s4 k_s5 h0 n0 v U'.heap L ∧ FrameEnd U o U' L ({ frames := 1, cells := 0, slots := 0, locals := 15 } : Room).cells ({ frames := 1, cells := 0, slots := 0, locals := 15 } : Room).slots) := by
  refine MetFree.of_bodySF (plainFor_of_name own_pn23) hisR ?_
  intro p e s m args below meth c s₁ Bd hml0 hP hK
  obtain ⟨rfl, hZ, hh⟩ := hP
  have hx := Bd.exec
  have hby := Bd.bytes
  have hlk : meth.locks = false := Bd.notSynchronized
  have hml : c.maxLocals = 10 := hml0
  have hown : s.vm.findClass "tidemark/record/FseTable" = some m.cls := findClass_of_methodNamed Bd.named
  have hnm := (name_of_methodNamed Bd.named Bd.method).1
  have X0 : Stand p l e ({ frames := 1, cells := 0, slots := 0, locals := 15 } : Room) s m #[(.ref a0), (.int (2 : Int32)), (.int (2 : Int32))] below meth c s₁ [] 0 0 := Stand.of_body Bd
  have e0 : s₁.heap = h0 := by rw [← hh, Bd.state]; rfl
  have N0 := Fr.nil n0
  show OG p e below (FE s ({ frames := 1, cells := 0, slots := 0, locals := 15 } : Room).cells ({ frames := 1, cells := 0, slots := 0, locals := 15 } : Room).slots) (own_Q4 Z a0 s1 s2 s3 s4 s5 k_s1 k_s2 k_s3 k_s4 k_s5 h0 n0) (s₁.setTop (entryFrame m #[(.ref a0), (.int (2 : Int32)), (.int (2 : Int32))] 10))
  refine og_of (fun _ k => castTop (own_ef4 m a0) k) ?_
  refine o_iconst (z := (1 : Int32)) X0 hx rfl (hb hby own_d4_0) (by decide) ?_
  refine o_iloadN X0 hx rfl (hb hby own_d4_1) rfl ?_
  refine o_ishl (z := (4 : Int32)) X0 hx rfl (hb hby own_d4_2) (by decide) ?_
  refine o_istoreN X0 hx rfl (hb hby own_d4_3) (L' := #[.val (.ref a0), .val (.int (2 : Int32)), .val (.int (2 : Int32)), .val (.int (4 : Int32)), .unset, .unset, .unset, .unset, .unset, .unset]) rfl ?_
  refine o_iloadN X0 hx rfl (hb hby own_d4_4) rfl ?_
  refine o_iconst (z := (1 : Int32)) X0 hx rfl (hb hby own_d4_5) (by decide) ?_
  refine o_isub (z := (3 : Int32)) X0 hx rfl (hb hby own_d4_6) (by decide) ?_
  refine o_istore X0 hx rfl (hb hby own_d4_7) (L' := #[.val (.ref a0), .val (.int (2 : Int32)), .val (.int (2 : Int32)), .val (.int (4 : Int32)), .val (.int (3 : Int32)), .unset, .unset, .unset, .unset, .unset]) rfl ?_
  refine o_iconst (z := (0 : Int32)) X0 hx rfl (hb hby own_d4_9) (by decide) ?_
  refine o_istore X0 hx rfl (hb hby own_d4_10) (L' := #[.val (.ref a0), .val (.int (2 : Int32)), .val (.int (2 : Int32)), .val (.int (4 : Int32)), .val (.int (3 : Int32)), .val (.int (0 : Int32)), .unset, .unset, .unset, .unset]) rfl ?_
  refine o_iload X0 hx rfl (hb hby own_d4_12) rfl ?_
  refine o_iloadN X0 hx rfl (hb hby own_d4_14) rfl ?_
  refine o_icmpN (pc' := 18) X0 hx rfl (hb hby own_d4_15) (tlt (by decide : ((0 : Int32) < (2 : Int32)))).2.1 ?_
  refine o_aloadN X0 hx rfl (hb hby own_d4_18) rfl rfl ?_
  obtain ⟨T1, X1, e1, st1⟩ := getF X0 hx hZ hown (host := "") (Or.inl (hw _ (List.mem_of_getElem? (i := 21) rfl))) Via.refl e0 pre4 (g := (mkF m 19 #[.val (.ref a0), .val (.int (2 : Int32)), .val (.int (2 : Int32)), .val (.int (4 : Int32)), .val (.int (3 : Int32)), .val (.int (0 : Int32)), .unset, .unset, .unset, .unset] [(.ref a0)])) rfl rfl (hb hby own_d4_19)
  refine og_of st1 ?_
  show OG p e below _ _ (T1.setTop (mkF m 22 #[.val (.ref a0), .val (.int (2 : Int32)), .val (.int (2 : Int32)), .val (.int (4 : Int32)), .val (.int (3 : Int32)), .val (.int (0 : Int32)), .unset, .unset, .unset, .unset] [(.ref s4)]))
  refine o_iload X1 hx rfl (hb hby own_d4_22) rfl ?_
  obtain ⟨clv2, Arv2, qv2, Sv2, Nv2, Hv2, Gv2⟩ := id pre10
  have hin3 : ¬ ((0 : Int32) < 0 ∨ clv2.slots.size ≤ ((0 : Int32)).toNatClampNeg) := inb_of Sv2 ⟨by decide, by decide⟩
  have hat3 : clv2.slots[((0 : Int32)).toNatClampNeg]? = some (.int (3 : Int32)) := Hv2.at hin3 rfl
  refine og_of (X1.saload hx (j := (0 : Int32)) (v := (.int (3 : Int32))) (by rw [e1]; exact Arv2.1) (State.isArrayOf_alike hZ.alike Arv2.2.1) Arv2.2.2 hin3 hat3 (g := (mkF m 24 #[.val (.ref a0), .val (.int (2 : Int32)), .val (.int (2 : Int32)), .val (.int (4 : Int32)), .val (.int (3 : Int32)), .val (.int (0 : Int32)), .unset, .unset, .unset, .unset] [(.int (0 : Int32)), (.ref s4)])) rfl rfl (hb hby own_d4_24)) ?_
  show OG p e below _ _ (T1.setTop (mkF m 25 #[.val (.ref a0), .val (.int (2 : Int32)), .val (.int (2 : Int32)), .val (.int (4 : Int32)), .val (.int (3 : Int32)), .val (.int (0 : Int32)), .unset, .unset, .unset, .unset] [(.int (3 : Int32))]))
  refine o_iconst (z := (-1 : Int32)) X1 hx rfl (hb hby own_d4_25) (by decide) ?_
  refine o_icmpY (pc' := 53) X1 hx (hb hby own_d4_26) (feq (by decide : ¬ ((3 : Int32) = (-1 : Int32)))).2 (by decide) (by decide) ?_
  refine o_aloadN X1 hx rfl (hb hby own_d4_53) rfl rfl ?_
  obtain ⟨T4, X4, e4, st4⟩ := getF X1 hx hZ hown (host := "") (Or.inl (hw _ (List.mem_of_getElem? (i := 23) rfl))) Via.refl e1 pre5 (g := (mkF m 54 #[.val (.ref a0), .val (.int (2 : Int32)), .val (.int (2 : Int32)), .val (.int (4 : Int32)), .val (.int (3 : Int32)), .val (.int (0 : Int32)), .unset, .unset, .unset, .unset] [(.ref a0)])) rfl rfl (hb hby own_d4_54)
  refine og_of st4 ?_
  show OG p e below _ _ (T4.setTop (mkF m 57 #[.val (.ref a0), .val (.int (2 : Int32)), .val (.int (2 : Int32)), .val (.int (4 : Int32)), .val (.int (3 : Int32)), .val (.int (0 : Int32)), .unset, .unset, .unset, .unset] [(.ref s5)]))
  refine o_iload X4 hx rfl (hb hby own_d4_57) rfl ?_
  refine o_aloadN X4 hx rfl (hb hby own_d4_59) rfl rfl ?_
  obtain ⟨T5, X5, e5, st5⟩ := getF X4 hx hZ hown (host := "") (Or.inl (hw _ (List.mem_of_getElem? (i := 21) rfl))) Via.refl e4 pre4 (g := (mkF m 60 #[.val (.ref a0), .val (.int (2 : Int32)), .val (.int (2 : Int32)), .val (.int (4 : Int32)), .val (.int (3 : Int32)), .val (.int (0 : Int32)), .unset, .unset, .unset, .unset] [(.ref a0), (.int (0 : Int32)), (.ref s5)])) rfl rfl (hb hby own_d4_60)
  refine og_of st5 ?_
  show OG p e below _ _ (T5.setTop (mkF m 63 #[.val (.ref a0), .val (.int (2 : Int32)), .val (.int (2 : Int32)), .val (.int (4 : Int32)), .val (.int (3 : Int32)), .val (.int (0 : Int32)), .unset, .unset, .unset, .unset] [(.ref s4), (.int (0 : Int32)), (.ref s5)]))
  refine o_iload X5 hx rfl (hb hby own_d4_63) rfl ?_
  obtain ⟨clv6, Arv6, qv6, Sv6, Nv6, Hv6, Gv6⟩ := id pre10
  have hin7 : ¬ ((0 : Int32) < 0 ∨ clv6.slots.size ≤ ((0 : Int32)).toNatClampNeg) := inb_of Sv6 ⟨by decide, by decide⟩
  have hat7 : clv6.slots[((0 : Int32)).toNatClampNeg]? = some (.int (3 : Int32)) := Hv6.at hin7 rfl
  refine og_of (X5.saload hx (j := (0 : Int32)) (v := (.int (3 : Int32))) (by rw [e5]; exact Arv6.1) (State.isArrayOf_alike hZ.alike Arv6.2.1) Arv6.2.2 hin7 hat7 (g := (mkF m 65 #[.val (.ref a0), .val (.int (2 : Int32)), .val (.int (2 : Int32)), .val (.int (4 : Int32)), .val (.int (3 : Int32)), .val (.int (0 : Int32)), .unset, .unset, .unset, .unset] [(.int (0 : Int32)), (.ref s4), (.int (0 : Int32)), (.ref s5)])) rfl rfl (hb hby own_d4_65)) ?_
  show OG p e below _ _ (T5.setTop (mkF m 66 #[.val (.ref a0), .val (.int (2 : Int32)), .val (.int (2 : Int32)), .val (.int (4 : Int32)), .val (.int (3 : Int32)), .val (.int (0 : Int32)), .unset, .unset, .unset, .unset] [(.int (3 : Int32)), (.int (0 : Int32)), (.ref s5)]))
  obtain ⟨clv8, Arv8, qv8, Sv8, Nv8, Hv8, Gv8⟩ := id pre11
  have hin9 : ¬ ((0 : Int32) < 0 ∨ clv8.slots.size ≤ ((0 : Int32)).toNatClampNeg) := inb_of Sv8 ⟨by decide, by decide⟩
  obtain ⟨T9, h9, X9, e9, W9, st9⟩ := stI X5 hx hZ e5 Arv8 (j := (0 : Int32)) hin9 (g := (mkF m 66 #[.val (.ref a0), .val (.int (2 : Int32)), .val (.int (2 : Int32)), .val (.int (4 : Int32)), .val (.int (3 : Int32)), .val (.int (0 : Int32)), .unset, .unset, .unset, .unset] [(.int (3 : Int32)), (.int (0 : Int32)), (.ref s5)])) rfl rfl (hb hby own_d4_66)
  have V9 : Arv Z h9 s5 k_s5 .int (256 : Int32) [(.int (3 : Int32)), (.int (0 : Int32)), (.int (0 : Int32)), (.int (0 : Int32)), (.int (0 : Int32)), (.int (0 : Int32)), (.int (0 : Int32)), (.int (0 : Int32))] (.int (0 : Int32)) := Arv.set Arv8 qv8 Sv8 Nv8 Hv8 Gv8 rfl W9 0 rfl (Nat.le_of_ble_eq_true rfl)
  have N9 := Fr.snoc X9 N0 pre17
  have Kp10 : Keep h0 h9 [a0, s1, s2, s3, s5] := (Keep.refl h0 [a0, s1, s2, s3, s5]).wr W9 (Or.inl (List.mem_of_getElem? (i := 4) rfl))
  refine og_of st9 ?_
  show OG p e below _ _ (T9.setTop (mkF m 67 #[.val (.ref a0), .val (.int (2 : Int32)), .val (.int (2 : Int32)), .val (.int (4 : Int32)), .val (.int (3 : Int32)), .val (.int (0 : Int32)), .unset, .unset, .unset, .unset] []))
  refine o_iinc (z := (1 : Int32)) X9 hx rfl (hb hby own_d4_67) rfl (by decide) (L' := #[.val (.ref a0), .val (.int (2 : Int32)), .val (.int (2 : Int32)), .val (.int (4 : Int32)), .val (.int (3 : Int32)), .val (.int (1 : Int32)), .unset, .unset, .unset, .unset]) rfl ?_
  refine o_goto (pc' := 12) X9 hx (hb hby own_d4_70) (by decide) (by decide) ?_
  refine o_iload X9 hx rfl (hb hby own_d4_12) rfl ?_
  refine o_iloadN X9 hx rfl (hb hby own_d4_14) rfl ?_
  refine o_icmpN (pc' := 18) X9 hx rfl (hb hby own_d4_15) (tlt (by decide : ((1 : Int32) < (2 : Int32)))).2.1 ?_
  refine o_aloadN X9 hx rfl (hb hby own_d4_18) rfl rfl ?_
  have Fc11 : Fld Z h9 a0 "tidemark/record/FseTable" "counts" "[S" (.ref s4) := (Fld.other W9 pre4 (Or.inl pre22))
  obtain ⟨T12, X12, e12, st12⟩ := getF X9 hx hZ hown (host := "") (Or.inl (hw _ (List.mem_of_getElem? (i := 21) rfl))) Via.refl e9 Fc11 (g := (mkF m 19 #[.val (.ref a0), .val (.int (2 : Int32)), .val (.int (2 : Int32)), .val (.int (4 : Int32)), .val (.int (3 : Int32)), .val (.int (1 : Int32)), .unset, .unset, .unset, .unset] [(.ref a0)])) rfl rfl (hb hby own_d4_19)
  refine og_of st12 ?_
  show OG p e below _ _ (T12.setTop (mkF m 22 #[.val (.ref a0), .val (.int (2 : Int32)), .val (.int (2 : Int32)), .val (.int (4 : Int32)), .val (.int (3 : Int32)), .val (.int (1 : Int32)), .unset, .unset, .unset, .unset] [(.ref s4)]))
  refine o_iload X12 hx rfl (hb hby own_d4_22) rfl ?_
  have Fc13 : Arv Z h9 s4 k_s4 .short (256 : Int32) [(.int (3 : Int32)), (.int (-1 : Int32)), (.int (0 : Int32)), (.int (0 : Int32)), (.int (0 : Int32)), (.int (0 : Int32)), (.int (0 : Int32)), (.int (0 : Int32))] (.int (0 : Int32)) := (pre10.other W9 pre32)
  obtain ⟨clv14, Arv14, qv14, Sv14, Nv14, Hv14, Gv14⟩ := id Fc13
  have hin15 : ¬ ((1 : Int32) < 0 ∨ clv14.slots.size ≤ ((1 : Int32)).toNatClampNeg) := inb_of Sv14 ⟨by decide, by decide⟩
  have hat15 : clv14.slots[((1 : Int32)).toNatClampNeg]? = some (.int (-1 : Int32)) := Hv14.at hin15 rfl
  refine og_of (X12.saload hx (j := (1 : Int32)) (v := (.int (-1 : Int32))) (by rw [e12]; exact Arv14.1) (State.isArrayOf_alike hZ.alike Arv14.2.1) Arv14.2.2 hin15 hat15 (g := (mkF m 24 #[.val (.ref a0), .val (.int (2 : Int32)), .val (.int (2 : Int32)), .val (.int (4 : Int32)), .val (.int (3 : Int32)), .val (.int (1 : Int32)), .unset, .unset, .unset, .unset] [(.int (1 : Int32)), (.ref s4)])) rfl rfl (hb hby own_d4_24)) ?_
  show OG p e below _ _ (T12.setTop (mkF m 25 #[.val (.ref a0), .val (.int (2 : Int32)), .val (.int (2 : Int32)), .val (.int (4 : Int32)), .val (.int (3 : Int32)), .val (.int (1 : Int32)), .unset, .unset, .unset, .unset] [(.int (-1 : Int32))]))
  refine o_iconst (z := (-1 : Int32)) X12 hx rfl (hb hby own_d4_25) (by decide) ?_
  refine o_icmpN (pc' := 29) X12 hx rfl (hb hby own_d4_26) (teq (by decide : ((-1 : Int32) = (-1 : Int32)))).2 ?_
  refine o_aloadN X12 hx rfl (hb hby own_d4_29) rfl rfl ?_
  have Fc16 : Fld Z h9 a0 "tidemark/record/FseTable" "symbols" "[B" (.ref s1) := (Fld.other W9 pre1 (Or.inl pre22))
  obtain ⟨T17, X17, e17, st17⟩ := getF X12 hx hZ hown (host := "") (Or.inl (hw _ (List.mem_of_getElem? (i := 14) rfl))) Via.refl e12 Fc16 (g := (mkF m 30 #[.val (.ref a0), .val (.int (2 : Int32)), .val (.int (2 : Int32)), .val (.int (4 : Int32)), .val (.int (3 : Int32)), .val (.int (1 : Int32)), .unset, .unset, .unset, .unset] [(.ref a0)])) rfl rfl (hb hby own_d4_30)
  refine og_of st17 ?_
  show OG p e below _ _ (T17.setTop (mkF m 33 #[.val (.ref a0), .val (.int (2 : Int32)), .val (.int (2 : Int32)), .val (.int (4 : Int32)), .val (.int (3 : Int32)), .val (.int (1 : Int32)), .unset, .unset, .unset, .unset] [(.ref s1)]))
  refine o_iload X17 hx rfl (hb hby own_d4_33) rfl ?_
  refine o_iinc (z := (2 : Int32)) X17 hx rfl (hb hby own_d4_35) rfl (by decide) (L' := #[.val (.ref a0), .val (.int (2 : Int32)), .val (.int (2 : Int32)), .val (.int (4 : Int32)), .val (.int (2 : Int32)), .val (.int (1 : Int32)), .unset, .unset, .unset, .unset]) rfl ?_
  refine o_iload X17 hx rfl (hb hby own_d4_38) rfl ?_
  refine o_i2b (z := (1 : Int32)) X17 hx rfl (hb hby own_d4_40) (by decide) ?_
  have Fc18 : Arv Z h9 s1 k_s1 .byte (512 : Int32) [(.int (0 : Int32)), (.int (0 : Int32)), (.int (0 : Int32)), (.int (0 : Int32)), (.int (0 : Int32)), (.int (0 : Int32)), (.int (0 : Int32)), (.int (0 : Int32))] (.int (0 : Int32)) := (pre7.other W9 pre26)
  obtain ⟨clv19, Arv19, qv19, Sv19, Nv19, Hv19, Gv19⟩ := id Fc18
  have hin20 : ¬ ((3 : Int32) < 0 ∨ clv19.slots.size ≤ ((3 : Int32)).toNatClampNeg) := inb_of Sv19 ⟨by decide, by decide⟩
  obtain ⟨T20, h20, X20, e20, W20, st20⟩ := stB X17 hx hZ e17 Arv19 (j := (3 : Int32)) hin20 (g := (mkF m 41 #[.val (.ref a0), .val (.int (2 : Int32)), .val (.int (2 : Int32)), .val (.int (4 : Int32)), .val (.int (2 : Int32)), .val (.int (1 : Int32)), .unset, .unset, .unset, .unset] [(.int (1 : Int32)), (.int (3 : Int32)), (.ref s1)])) rfl rfl (hb hby own_d4_41)
  have V20 : Arv Z h20 s1 k_s1 .byte (512 : Int32) [(.int (0 : Int32)), (.int (0 : Int32)), (.int (0 : Int32)), (.int (1 : Int32)), (.int (0 : Int32)), (.int (0 : Int32)), (.int (0 : Int32)), (.int (0 : Int32))] (.int (0 : Int32)) := Arv.set Arv19 qv19 Sv19 Nv19 Hv19 Gv19 (fits_nar_byte _) W20 3 rfl (Nat.le_of_ble_eq_true rfl)
  have N20 := Fr.snoc X20 N9 pre13
  have Kp21 : Keep h0 h20 [a0, s1, s2, s3, s5] := Kp10.wr W20 (Or.inl (List.mem_of_getElem? (i := 1) rfl))
  refine og_of st20 ?_
  show OG p e below _ _ (T20.setTop (mkF m 42 #[.val (.ref a0), .val (.int (2 : Int32)), .val (.int (2 : Int32)), .val (.int (4 : Int32)), .val (.int (2 : Int32)), .val (.int (1 : Int32)), .unset, .unset, .unset, .unset] []))
  refine o_aloadN X20 hx rfl (hb hby own_d4_42) rfl rfl ?_
  have Fc22 : Fld Z h20 a0 "tidemark/record/FseTable" "next" "[I" (.ref s5) := (Fld.other W20 (Fld.other W9 pre5 (Or.inl pre22)) (Or.inl pre18))
  obtain ⟨T23, X23, e23, st23⟩ := getF X20 hx hZ hown (host := "") (Or.inl (hw _ (List.mem_of_getElem? (i := 23) rfl))) Via.refl e20 Fc22 (g := (mkF m 43 #[.val (.ref a0), .val (.int (2 : Int32)), .val (.int (2 : Int32)), .val (.int (4 : Int32)), .val (.int (2 : Int32)), .val (.int (1 : Int32)), .unset, .unset, .unset, .unset] [(.ref a0)])) rfl rfl (hb hby own_d4_43)
  refine og_of st23 ?_
  show OG p e below _ _ (T23.setTop (mkF m 46 #[.val (.ref a0), .val (.int (2 : Int32)), .val (.int (2 : Int32)), .val (.int (4 : Int32)), .val (.int (2 : Int32)), .val (.int (1 : Int32)), .unset, .unset, .unset, .unset] [(.ref s5)]))
  refine o_iload X23 hx rfl (hb hby own_d4_46) rfl ?_
  refine o_iconst (z := (1 : Int32)) X23 hx rfl (hb hby own_d4_48) (by decide) ?_
  have Fc24 : Arv Z h20 s5 k_s5 .int (256 : Int32) [(.int (3 : Int32)), (.int (0 : Int32)), (.int (0 : Int32)), (.int (0 : Int32)), (.int (0 : Int32)), (.int (0 : Int32)), (.int (0 : Int32)), (.int (0 : Int32))] (.int (0 : Int32)) := (V9.other W20 (Ne.symm pre26))
  obtain ⟨clv25, Arv25, qv25, Sv25, Nv25, Hv25, Gv25⟩ := id Fc24
  have hin26 : ¬ ((1 : Int32) < 0 ∨ clv25.slots.size ≤ ((1 : Int32)).toNatClampNeg) := inb_of Sv25 ⟨by decide, by decide⟩
  obtain ⟨T26, h26, X26, e26, W26, st26⟩ := stI X23 hx hZ e23 Arv25 (j := (1 : Int32)) hin26 (g := (mkF m 49 #[.val (.ref a0), .val (.int (2 : Int32)), .val (.int (2 : Int32)), .val (.int (4 : Int32)), .val (.int (2 : Int32)), .val (.int (1 : Int32)), .unset, .unset, .unset, .unset] [(.int (1 : Int32)), (.int (1 : Int32)), (.ref s5)])) rfl rfl (hb hby own_d4_49)
  have V26 : Arv Z h26 s5 k_s5 .int (256 : Int32) [(.int (3 : Int32)), (.int (1 : Int32)), (.int (0 : Int32)), (.int (0 : Int32)), (.int (0 : Int32)), (.int (0 : Int32)), (.int (0 : Int32)), (.int (0 : Int32))] (.int (0 : Int32)) := Arv.set Arv25 qv25 Sv25 Nv25 Hv25 Gv25 rfl W26 1 rfl (Nat.le_of_ble_eq_true rfl)
  have N26 := Fr.snoc X26 N20 pre17
  have Kp27 : Keep h0 h26 [a0, s1, s2, s3, s5] := Kp21.wr W26 (Or.inl (List.mem_of_getElem? (i := 4) rfl))
  refine og_of st26 ?_
  show OG p e below _ _ (T26.setTop (mkF m 50 #[.val (.ref a0), .val (.int (2 : Int32)), .val (.int (2 : Int32)), .val (.int (4 : Int32)), .val (.int (2 : Int32)), .val (.int (1 : Int32)), .unset, .unset, .unset, .unset] []))
  refine o_goto (pc' := 67) X26 hx (hb hby own_d4_50) (by decide) (by decide) ?_
  refine o_iinc (z := (2 : Int32)) X26 hx rfl (hb hby own_d4_67) rfl (by decide) (L' := #[.val (.ref a0), .val (.int (2 : Int32)), .val (.int (2 : Int32)), .val (.int (4 : Int32)), .val (.int (2 : Int32)), .val (.int (2 : Int32)), .unset, .unset, .unset, .unset]) rfl ?_
  refine o_goto (pc' := 12) X26 hx (hb hby own_d4_70) (by decide) (by decide) ?_
  refine o_iload X26 hx rfl (hb hby own_d4_12) rfl ?_
  refine o_iloadN X26 hx rfl (hb hby own_d4_14) rfl ?_
  refine o_icmpY (pc' := 73) X26 hx (hb hby own_d4_15) (flt (by decide : ¬ ((2 : Int32) < (2 : Int32)))).2.1 (by decide) (by decide) ?_
  refine o_iloadN X26 hx rfl (hb hby own_d4_73) rfl ?_
  refine o_iconst (z := (1 : Int32)) X26 hx rfl (hb hby own_d4_74) (by decide) ?_
  refine o_iushr (z := (2 : Int32)) X26 hx rfl (hb hby own_d4_75) (by decide) ?_
  refine o_iloadN X26 hx rfl (hb hby own_d4_76) rfl ?_
  refine o_iconst (z := (3 : Int32)) X26 hx rfl (hb hby own_d4_77) (by decide) ?_
  refine o_iushr (z := (0 : Int32)) X26 hx rfl (hb hby own_d4_78) (by decide) ?_
  refine o_iadd (z := (2 : Int32)) X26 hx rfl (hb hby own_d4_79) (by decide) ?_
  refine o_iconst (z := (3 : Int32)) X26 hx rfl (hb hby own_d4_80) (by decide) ?_
  refine o_iadd (z := (5 : Int32)) X26 hx rfl (hb hby own_d4_81) (by decide) ?_
  refine o_istore X26 hx rfl (hb hby own_d4_82) (L' := #[.val (.ref a0), .val (.int (2 : Int32)), .val (.int (2 : Int32)), .val (.int (4 : Int32)), .val (.int (2 : Int32)), .val (.int (5 : Int32)), .unset, .unset, .unset, .unset]) rfl ?_
  refine o_iconst (z := (0 : Int32)) X26 hx rfl (hb hby own_d4_84) (by decide) ?_
  refine o_istore X26 hx rfl (hb hby own_d4_85) (L' := #[.val (.ref a0), .val (.int (2 : Int32)), .val (.int (2 : Int32)), .val (.int (4 : Int32)), .val (.int (2 : Int32)), .val (.int (5 : Int32)), .val (.int (0 : Int32)), .unset, .unset, .unset]) rfl ?_
  refine o_iconst (z := (0 : Int32)) X26 hx rfl (hb hby own_d4_87) (by decide) ?_
  refine o_istore X26 hx rfl (hb hby own_d4_88) (L' := #[.val (.ref a0), .val (.int (2 : Int32)), .val (.int (2 : Int32)), .val (.int (4 : Int32)), .val (.int (2 : Int32)), .val (.int (5 : Int32)), .val (.int (0 : Int32)), .val (.int (0 : Int32)), .unset, .unset]) rfl ?_
  refine o_iload X26 hx rfl (hb hby own_d4_90) rfl ?_
  refine o_iloadN X26 hx rfl (hb hby own_d4_92) rfl ?_
  refine o_icmpN (pc' := 96) X26 hx rfl (hb hby own_d4_93) (tlt (by decide : ((0 : Int32) < (2 : Int32)))).2.1 ?_
  refine o_iconst (z := (0 : Int32)) X26 hx rfl (hb hby own_d4_96) (by decide) ?_
  refine o_istore X26 hx rfl (hb hby own_d4_97) (L' := #[.val (.ref a0), .val (.int (2 : Int32)), .val (.int (2 : Int32)), .val (.int (4 : Int32)), .val (.int (2 : Int32)), .val (.int (5 : Int32)), .val (.int (0 : Int32)), .val (.int (0 : Int32)), .val (.int (0 : Int32)), .unset]) rfl ?_
  refine o_iload X26 hx rfl (hb hby own_d4_99) rfl ?_
  refine o_aloadN X26 hx rfl (hb hby own_d4_101) rfl rfl ?_
  have Fc28 : Fld Z h26 a0 "tidemark/record/FseTable" "counts" "[S" (.ref s4) := (Fld.other W26 (Fld.other W20 Fc11 (Or.inl pre18)) (Or.inl pre22))
  obtain ⟨T29, X29, e29, st29⟩ := getF X26 hx hZ hown (host := "") (Or.inl (hw _ (List.mem_of_getElem? (i := 21) rfl))) Via.refl e26 Fc28 (g := (mkF m 102 #[.val (.ref a0), .val (.int (2 : Int32)), .val (.int (2 : Int32)), .val (.int (4 : Int32)), .val (.int (2 : Int32)), .val (.int (5 : Int32)), .val (.int (0 : Int32)), .val (.int (0 : Int32)), .val (.int (0 : Int32)), .unset] [(.ref a0), (.int (0 : Int32))])) rfl rfl (hb hby own_d4_102)
  refine og_of st29 ?_
  show OG p e below _ _ (T29.setTop (mkF m 105 #[.val (.ref a0), .val (.int (2 : Int32)), .val (.int (2 : Int32)), .val (.int (4 : Int32)), .val (.int (2 : Int32)), .val (.int (5 : Int32)), .val (.int (0 : Int32)), .val (.int (0 : Int32)), .val (.int (0 : Int32)), .unset] [(.ref s4), (.int (0 : Int32))]))
  refine o_iload X29 hx rfl (hb hby own_d4_105) rfl ?_
  have Fc30 : Arv Z h26 s4 k_s4 .short (256 : Int32) [(.int (3 : Int32)), (.int (-1 : Int32)), (.int (0 : Int32)), (.int (0 : Int32)), (.int (0 : Int32)), (.int (0 : Int32)), (.int (0 : Int32)), (.int (0 : Int32))] (.int (0 : Int32)) := ((Fc13.other W20 (Ne.symm pre25)).other W26 pre32)
  obtain ⟨clv31, Arv31, qv31, Sv31, Nv31, Hv31, Gv31⟩ := id Fc30
  have hin32 : ¬ ((0 : Int32) < 0 ∨ clv31.slots.size ≤ ((0 : Int32)).toNatClampNeg) := inb_of Sv31 ⟨by decide, by decide⟩
  have hat32 : clv31.slots[((0 : Int32)).toNatClampNeg]? = some (.int (3 : Int32)) := Hv31.at hin32 rfl
  refine og_of (X29.saload hx (j := (0 : Int32)) (v := (.int (3 : Int32))) (by rw [e29]; exact Arv31.1) (State.isArrayOf_alike hZ.alike Arv31.2.1) Arv31.2.2 hin32 hat32 (g := (mkF m 107 #[.val (.ref a0), .val (.int (2 : Int32)), .val (.int (2 : Int32)), .val (.int (4 : Int32)), .val (.int (2 : Int32)), .val (.int (5 : Int32)), .val (.int (0 : Int32)), .val (.int (0 : Int32)), .val (.int (0 : Int32)), .unset] [(.int (0 : Int32)), (.ref s4), (.int (0 : Int32))])) rfl rfl (hb hby own_d4_107)) ?_
  show OG p e below _ _ (T29.setTop (mkF m 108 #[.val (.ref a0), .val (.int (2 : Int32)), .val (.int (2 : Int32)), .val (.int (4 : Int32)), .val (.int (2 : Int32)), .val (.int (5 : Int32)), .val (.int (0 : Int32)), .val (.int (0 : Int32)), .val (.int (0 : Int32)), .unset] [(.int (3 : Int32)), (.int (0 : Int32))]))
  refine o_icmpN (pc' := 111) X29 hx rfl (hb hby own_d4_108) (tlt (by decide : ((0 : Int32) < (3 : Int32)))).2.1 ?_
  refine o_aloadN X29 hx rfl (hb hby own_d4_111) rfl rfl ?_
  have Fc33 : Fld Z h26 a0 "tidemark/record/FseTable" "symbols" "[B" (.ref s1) := (Fld.other W26 (Fld.other W20 Fc16 (Or.inl pre18)) (Or.inl pre22))
  obtain ⟨T34, X34, e34, st34⟩ := getF X29 hx hZ hown (host := "") (Or.inl (hw _ (List.mem_of_getElem? (i := 14) rfl))) Via.refl e29 Fc33 (g := (mkF m 112 #[.val (.ref a0), .val (.int (2 : Int32)), .val (.int (2 : Int32)), .val (.int (4 : Int32)), .val (.int (2 : Int32)), .val (.int (5 : Int32)), .val (.int (0 : Int32)), .val (.int (0 : Int32)), .val (.int (0 : Int32)), .unset] [(.ref a0)])) rfl rfl (hb hby own_d4_112)
  refine og_of st34 ?_
  show OG p e below _ _ (T34.setTop (mkF m 115 #[.val (.ref a0), .val (.int (2 : Int32)), .val (.int (2 : Int32)), .val (.int (4 : Int32)), .val (.int (2 : Int32)), .val (.int (5 : Int32)), .val (.int (0 : Int32)), .val (.int (0 : Int32)), .val (.int (0 : Int32)), .unset] [(.ref s1)]))
  refine o_iload X34 hx rfl (hb hby own_d4_115) rfl ?_
  refine o_iload X34 hx rfl (hb hby own_d4_117) rfl ?_
  refine o_i2b (z := (0 : Int32)) X34 hx rfl (hb hby own_d4_119) (by decide) ?_
  have Fc35 : Arv Z h26 s1 k_s1 .byte (512 : Int32) [(.int (0 : Int32)), (.int (0 : Int32)), (.int (0 : Int32)), (.int (1 : Int32)), (.int (0 : Int32)), (.int (0 : Int32)), (.int (0 : Int32)), (.int (0 : Int32))] (.int (0 : Int32)) := (V20.other W26 pre26)
  obtain ⟨clv36, Arv36, qv36, Sv36, Nv36, Hv36, Gv36⟩ := id Fc35
  have hin37 : ¬ ((0 : Int32) < 0 ∨ clv36.slots.size ≤ ((0 : Int32)).toNatClampNeg) := inb_of Sv36 ⟨by decide, by decide⟩
  obtain ⟨T37, h37, X37, e37, W37, st37⟩ := stB X34 hx hZ e34 Arv36 (j := (0 : Int32)) hin37 (g := (mkF m 120 #[.val (.ref a0), .val (.int (2 : Int32)), .val (.int (2 : Int32)), .val (.int (4 : Int32)), .val (.int (2 : Int32)), .val (.int (5 : Int32)), .val (.int (0 : Int32)), .val (.int (0 : Int32)), .val (.int (0 : Int32)), .unset] [(.int (0 : Int32)), (.int (0 : Int32)), (.ref s1)])) rfl rfl (hb hby own_d4_120)
  have V37 : Arv Z h37 s1 k_s1 .byte (512 : Int32) [(.int (0 : Int32)), (.int (0 : Int32)), (.int (0 : Int32)), (.int (1 : Int32)), (.int (0 : Int32)), (.int (0 : Int32)), (.int (0 : Int32)), (.int (0 : Int32))] (.int (0 : Int32)) := Arv.set Arv36 qv36 Sv36 Nv36 Hv36 Gv36 (fits_nar_byte _) W37 0 rfl (Nat.le_of_ble_eq_true rfl)
  have N37 := Fr.snoc X37 N26 pre13
  have Kp38 : Keep h0 h37 [a0, s1, s2, s3, s5] := Kp27.wr W37 (Or.inl (List.mem_of_getElem? (i := 1) rfl))
  refine og_of st37 ?_
  show OG p e below _ _ (T37.setTop (mkF m 121 #[.val (.ref a0), .val (.int (2 : Int32)), .val (.int (2 : Int32)), .val (.int (4 : Int32)), .val (.int (2 : Int32)), .val (.int (5 : Int32)), .val (.int (0 : Int32)), .val (.int (0 : Int32)), .val (.int (0 : Int32)), .unset] []))
  refine o_iload X37 hx rfl (hb hby own_d4_121) rfl ?_
  refine o_iload X37 hx rfl (hb hby own_d4_123) rfl ?_
  refine o_iadd (z := (5 : Int32)) X37 hx rfl (hb hby own_d4_125) (by decide) ?_
  refine o_iloadN X37 hx rfl (hb hby own_d4_126) rfl ?_
  refine o_iconst (z := (1 : Int32)) X37 hx rfl (hb hby own_d4_127) (by decide) ?_
  refine o_isub (z := (3 : Int32)) X37 hx rfl (hb hby own_d4_128) (by decide) ?_
  refine o_iand (z := (1 : Int32)) X37 hx rfl (hb hby own_d4_129) (by decide) ?_
  refine o_istore X37 hx rfl (hb hby own_d4_130) (L' := #[.val (.ref a0), .val (.int (2 : Int32)), .val (.int (2 : Int32)), .val (.int (4 : Int32)), .val (.int (2 : Int32)), .val (.int (5 : Int32)), .val (.int (1 : Int32)), .val (.int (0 : Int32)), .val (.int (0 : Int32)), .unset]) rfl ?_
  refine o_iload X37 hx rfl (hb hby own_d4_132) rfl ?_
  refine o_iload X37 hx rfl (hb hby own_d4_134) rfl ?_
  refine o_icmpN (pc' := 139) X37 hx rfl (hb hby own_d4_136) (flt (by decide : ¬ ((2 : Int32) < (1 : Int32)))).2.2.1 ?_
  refine o_iinc (z := (1 : Int32)) X37 hx rfl (hb hby own_d4_139) rfl (by decide) (L' := #[.val (.ref a0), .val (.int (2 : Int32)), .val (.int (2 : Int32)), .val (.int (4 : Int32)), .val (.int (2 : Int32)), .val (.int (5 : Int32)), .val (.int (1 : Int32)), .val (.int (0 : Int32)), .val (.int (1 : Int32)), .unset]) rfl ?_
  refine o_goto (pc' := 99) X37 hx (hb hby own_d4_142) (by decide) (by decide) ?_
  refine o_iload X37 hx rfl (hb hby own_d4_99) rfl ?_
  refine o_aloadN X37 hx rfl (hb hby own_d4_101) rfl rfl ?_
  have Fc39 : Fld Z h37 a0 "tidemark/record/FseTable" "counts" "[S" (.ref s4) := (Fld.other W37 Fc28 (Or.inl pre18))
  obtain ⟨T40, X40, e40, st40⟩ := getF X37 hx hZ hown (host := "") (Or.inl (hw _ (List.mem_of_getElem? (i := 21) rfl))) Via.refl e37 Fc39 (g := (mkF m 102 #[.val (.ref a0), .val (.int (2 : Int32)), .val (.int (2 : Int32)), .val (.int (4 : Int32)), .val (.int (2 : Int32)), .val (.int (5 : Int32)), .val (.int (1 : Int32)), .val (.int (0 : Int32)), .val (.int (1 : Int32)), .unset] [(.ref a0), (.int (1 : Int32))])) rfl rfl (hb hby own_d4_102)
  refine og_of st40 ?_
  show OG p e below _ _ (T40.setTop (mkF m 105 #[.val (.ref a0), .val (.int (2 : Int32)), .val (.int (2 : Int32)), .val (.int (4 : Int32)), .val (.int (2 : Int32)), .val (.int (5 : Int32)), .val (.int (1 : Int32)), .val (.int (0 : Int32)), .val (.int (1 : Int32)), .unset] [(.ref s4), (.int (1 : Int32))]))
  refine o_iload X40 hx rfl (hb hby own_d4_105) rfl ?_
  have Fc41 : Arv Z h37 s4 k_s4 .short (256 : Int32) [(.int (3 : Int32)), (.int (-1 : Int32)), (.int (0 : Int32)), (.int (0 : Int32)), (.int (0 : Int32)), (.int (0 : Int32)), (.int (0 : Int32)), (.int (0 : Int32))] (.int (0 : Int32)) := (Fc30.other W37 (Ne.symm pre25))
  obtain ⟨clv42, Arv42, qv42, Sv42, Nv42, Hv42, Gv42⟩ := id Fc41
  have hin43 : ¬ ((0 : Int32) < 0 ∨ clv42.slots.size ≤ ((0 : Int32)).toNatClampNeg) := inb_of Sv42 ⟨by decide, by decide⟩
  have hat43 : clv42.slots[((0 : Int32)).toNatClampNeg]? = some (.int (3 : Int32)) := Hv42.at hin43 rfl
  refine og_of (X40.saload hx (j := (0 : Int32)) (v := (.int (3 : Int32))) (by rw [e40]; exact Arv42.1) (State.isArrayOf_alike hZ.alike Arv42.2.1) Arv42.2.2 hin43 hat43 (g := (mkF m 107 #[.val (.ref a0), .val (.int (2 : Int32)), .val (.int (2 : Int32)), .val (.int (4 : Int32)), .val (.int (2 : Int32)), .val (.int (5 : Int32)), .val (.int (1 : Int32)), .val (.int (0 : Int32)), .val (.int (1 : Int32)), .unset] [(.int (0 : Int32)), (.ref s4), (.int (1 : Int32))])) rfl rfl (hb hby own_d4_107)) ?_
  show OG p e below _ _ (T40.setTop (mkF m 108 #[.val (.ref a0), .val (.int (2 : Int32)), .val (.int (2 : Int32)), .val (.int (4 : Int32)), .val (.int (2 : Int32)), .val (.int (5 : Int32)), .val (.int (1 : Int32)), .val (.int (0 : Int32)), .val (.int (1 : Int32)), .unset] [(.int (3 : Int32)), (.int (1 : Int32))]))
  refine o_icmpN (pc' := 111) X40 hx rfl (hb hby own_d4_108) (tlt (by decide : ((1 : Int32) < (3 : Int32)))).2.1 ?_
  refine o_aloadN X40 hx rfl (hb hby own_d4_111) rfl rfl ?_
  have Fc44 : Fld Z h37 a0 "tidemark/record/FseTable" "symbols" "[B" (.ref s1) := (Fld.other W37 Fc33 (Or.inl pre18))
  obtain ⟨T45, X45, e45, st45⟩ := getF X40 hx hZ hown (host := "") (Or.inl (hw _ (List.mem_of_getElem? (i := 14) rfl))) Via.refl e40 Fc44 (g := (mkF m 112 #[.val (.ref a0), .val (.int (2 : Int32)), .val (.int (2 : Int32)), .val (.int (4 : Int32)), .val (.int (2 : Int32)), .val (.int (5 : Int32)), .val (.int (1 : Int32)), .val (.int (0 : Int32)), .val (.int (1 : Int32)), .unset] [(.ref a0)])) rfl rfl (hb hby own_d4_112)
  refine og_of st45 ?_
  show OG p e below _ _ (T45.setTop (mkF m 115 #[.val (.ref a0), .val (.int (2 : Int32)), .val (.int (2 : Int32)), .val (.int (4 : Int32)), .val (.int (2 : Int32)), .val (.int (5 : Int32)), .val (.int (1 : Int32)), .val (.int (0 : Int32)), .val (.int (1 : Int32)), .unset] [(.ref s1)]))
  refine o_iload X45 hx rfl (hb hby own_d4_115) rfl ?_
  refine o_iload X45 hx rfl (hb hby own_d4_117) rfl ?_
  refine o_i2b (z := (0 : Int32)) X45 hx rfl (hb hby own_d4_119) (by decide) ?_
  obtain ⟨clv46, Arv46, qv46, Sv46, Nv46, Hv46, Gv46⟩ := id V37
  have hin47 : ¬ ((1 : Int32) < 0 ∨ clv46.slots.size ≤ ((1 : Int32)).toNatClampNeg) := inb_of Sv46 ⟨by decide, by decide⟩
  obtain ⟨T47, h47, X47, e47, W47, st47⟩ := stB X45 hx hZ e45 Arv46 (j := (1 : Int32)) hin47 (g := (mkF m 120 #[.val (.ref a0), .val (.int (2 : Int32)), .val (.int (2 : Int32)), .val (.int (4 : Int32)), .val (.int (2 : Int32)), .val (.int (5 : Int32)), .val (.int (1 : Int32)), .val (.int (0 : Int32)), .val (.int (1 : Int32)), .unset] [(.int (0 : Int32)), (.int (1 : Int32)), (.ref s1)])) rfl rfl (hb hby own_d4_120)
  have V47 : Arv Z h47 s1 k_s1 .byte (512 : Int32) [(.int (0 : Int32)), (.int (0 : Int32)), (.int (0 : Int32)), (.int (1 : Int32)), (.int (0 : Int32)), (.int (0 : Int32)), (.int (0 : Int32)), (.int (0 : Int32))] (.int (0 : Int32)) := Arv.set Arv46 qv46 Sv46 Nv46 Hv46 Gv46 (fits_nar_byte _) W47 1 rfl (Nat.le_of_ble_eq_true rfl)
  have N47 := Fr.snoc X47 N37 pre13
  have Kp48 : Keep h0 h47 [a0, s1, s2, s3, s5] := Kp38.wr W47 (Or.inl (List.mem_of_getElem? (i := 1) rfl))
  refine og_of st47 ?_
  show OG p e below _ _ (T47.setTop (mkF m 121 #[.val (.ref a0), .val (.int (2 : Int32)), .val (.int (2 : Int32)), .val (.int (4 : Int32)), .val (.int (2 : Int32)), .val (.int (5 : Int32)), .val (.int (1 : Int32)), .val (.int (0 : Int32)), .val (.int (1 : Int32)), .unset] []))
  refine o_iload X47 hx rfl (hb hby own_d4_121) rfl ?_
  refine o_iload X47 hx rfl (hb hby own_d4_123) rfl ?_
  refine o_iadd (z := (6 : Int32)) X47 hx rfl (hb hby own_d4_125) (by decide) ?_
  refine o_iloadN X47 hx rfl (hb hby own_d4_126) rfl ?_
  refine o_iconst (z := (1 : Int32)) X47 hx rfl (hb hby own_d4_127) (by decide) ?_
  refine o_isub (z := (3 : Int32)) X47 hx rfl (hb hby own_d4_128) (by decide) ?_
  refine o_iand (z := (2 : Int32)) X47 hx rfl (hb hby own_d4_129) (by decide) ?_
  refine o_istore X47 hx rfl (hb hby own_d4_130) (L' := #[.val (.ref a0), .val (.int (2 : Int32)), .val (.int (2 : Int32)), .val (.int (4 : Int32)), .val (.int (2 : Int32)), .val (.int (5 : Int32)), .val (.int (2 : Int32)), .val (.int (0 : Int32)), .val (.int (1 : Int32)), .unset]) rfl ?_
  refine o_iload X47 hx rfl (hb hby own_d4_132) rfl ?_
  refine o_iload X47 hx rfl (hb hby own_d4_134) rfl ?_
  refine o_icmpN (pc' := 139) X47 hx rfl (hb hby own_d4_136) (flt (by decide : ¬ ((2 : Int32) < (2 : Int32)))).2.2.1 ?_
  refine o_iinc (z := (2 : Int32)) X47 hx rfl (hb hby own_d4_139) rfl (by decide) (L' := #[.val (.ref a0), .val (.int (2 : Int32)), .val (.int (2 : Int32)), .val (.int (4 : Int32)), .val (.int (2 : Int32)), .val (.int (5 : Int32)), .val (.int (2 : Int32)), .val (.int (0 : Int32)), .val (.int (2 : Int32)), .unset]) rfl ?_
  refine o_goto (pc' := 99) X47 hx (hb hby own_d4_142) (by decide) (by decide) ?_
  refine o_iload X47 hx rfl (hb hby own_d4_99) rfl ?_
  refine o_aloadN X47 hx rfl (hb hby own_d4_101) rfl rfl ?_
  have Fc49 : Fld Z h47 a0 "tidemark/record/FseTable" "counts" "[S" (.ref s4) := (Fld.other W47 Fc39 (Or.inl pre18))
  obtain ⟨T50, X50, e50, st50⟩ := getF X47 hx hZ hown (host := "") (Or.inl (hw _ (List.mem_of_getElem? (i := 21) rfl))) Via.refl e47 Fc49 (g := (mkF m 102 #[.val (.ref a0), .val (.int (2 : Int32)), .val (.int (2 : Int32)), .val (.int (4 : Int32)), .val (.int (2 : Int32)), .val (.int (5 : Int32)), .val (.int (2 : Int32)), .val (.int (0 : Int32)), .val (.int (2 : Int32)), .unset] [(.ref a0), (.int (2 : Int32))])) rfl rfl (hb hby own_d4_102)
  refine og_of st50 ?_
  show OG p e below _ _ (T50.setTop (mkF m 105 #[.val (.ref a0), .val (.int (2 : Int32)), .val (.int (2 : Int32)), .val (.int (4 : Int32)), .val (.int (2 : Int32)), .val (.int (5 : Int32)), .val (.int (2 : Int32)), .val (.int (0 : Int32)), .val (.int (2 : Int32)), .unset] [(.ref s4), (.int (2 : Int32))]))
  refine o_iload X50 hx rfl (hb hby own_d4_105) rfl ?_
  have Fc51 : Arv Z h47 s4 k_s4 .short (256 : Int32) [(.int (3 : Int32)), (.int (-1 : Int32)), (.int (0 : Int32)), (.int (0 : Int32)), (.int (0 : Int32)), (.int (0 : Int32)), (.int (0 : Int32)), (.int (0 : Int32))] (.int (0 : Int32)) := (Fc41.other W47 (Ne.symm pre25))
  obtain ⟨clv52, Arv52, qv52, Sv52, Nv52, Hv52, Gv52⟩ := id Fc51
  have hin53 : ¬ ((0 : Int32) < 0 ∨ clv52.slots.size ≤ ((0 : Int32)).toNatClampNeg) := inb_of Sv52 ⟨by decide, by decide⟩
  have hat53 : clv52.slots[((0 : Int32)).toNatClampNeg]? = some (.int (3 : Int32)) := Hv52.at hin53 rfl
  refine og_of (X50.saload hx (j := (0 : Int32)) (v := (.int (3 : Int32))) (by rw [e50]; exact Arv52.1) (State.isArrayOf_alike hZ.alike Arv52.2.1) Arv52.2.2 hin53 hat53 (g := (mkF m 107 #[.val (.ref a0), .val (.int (2 : Int32)), .val (.int (2 : Int32)), .val (.int (4 : Int32)), .val (.int (2 : Int32)), .val (.int (5 : Int32)), .val (.int (2 : Int32)), .val (.int (0 : Int32)), .val (.int (2 : Int32)), .unset] [(.int (0 : Int32)), (.ref s4), (.int (2 : Int32))])) rfl rfl (hb hby own_d4_107)) ?_
  show OG p e below _ _ (T50.setTop (mkF m 108 #[.val (.ref a0), .val (.int (2 : Int32)), .val (.int (2 : Int32)), .val (.int (4 : Int32)), .val (.int (2 : Int32)), .val (.int (5 : Int32)), .val (.int (2 : Int32)), .val (.int (0 : Int32)), .val (.int (2 : Int32)), .unset] [(.int (3 : Int32)), (.int (2 : Int32))]))
  refine o_icmpN (pc' := 111) X50 hx rfl (hb hby own_d4_108) (tlt (by decide : ((2 : Int32) < (3 : Int32)))).2.1 ?_
  refine o_aloadN X50 hx rfl (hb hby own_d4_111) rfl rfl ?_
  have Fc54 : Fld Z h47 a0 "tidemark/record/FseTable" "symbols" "[B" (.ref s1) := (Fld.other W47 Fc44 (Or.inl pre18))
  obtain ⟨T55, X55, e55, st55⟩ := getF X50 hx hZ hown (host := "") (Or.inl (hw _ (List.mem_of_getElem? (i := 14) rfl))) Via.refl e50 Fc54 (g := (mkF m 112 #[.val (.ref a0), .val (.int (2 : Int32)), .val (.int (2 : Int32)), .val (.int (4 : Int32)), .val (.int (2 : Int32)), .val (.int (5 : Int32)), .val (.int (2 : Int32)), .val (.int (0 : Int32)), .val (.int (2 : Int32)), .unset] [(.ref a0)])) rfl rfl (hb hby own_d4_112)
  refine og_of st55 ?_
  show OG p e below _ _ (T55.setTop (mkF m 115 #[.val (.ref a0), .val (.int (2 : Int32)), .val (.int (2 : Int32)), .val (.int (4 : Int32)), .val (.int (2 : Int32)), .val (.int (5 : Int32)), .val (.int (2 : Int32)), .val (.int (0 : Int32)), .val (.int (2 : Int32)), .unset] [(.ref s1)]))
  refine o_iload X55 hx rfl (hb hby own_d4_115) rfl ?_
  refine o_iload X55 hx rfl (hb hby own_d4_117) rfl ?_
  refine o_i2b (z := (0 : Int32)) X55 hx rfl (hb hby own_d4_119) (by decide) ?_
  obtain ⟨clv56, Arv56, qv56, Sv56, Nv56, Hv56, Gv56⟩ := id V47
  have hin57 : ¬ ((2 : Int32) < 0 ∨ clv56.slots.size ≤ ((2 : Int32)).toNatClampNeg) := inb_of Sv56 ⟨by decide, by decide⟩
  obtain ⟨T57, h57, X57, e57, W57, st57⟩ := stB X55 hx hZ e55 Arv56 (j := (2 : Int32)) hin57 (g := (mkF m 120 #[.val (.ref a0), .val (.int (2 : Int32)), .val (.int (2 : Int32)), .val (.int (4 : Int32)), .val (.int (2 : Int32)), .val (.int (5 : Int32)), .val (.int (2 : Int32)), .val (.int (0 : Int32)), .val (.int (2 : Int32)), .unset] [(.int (0 : Int32)), (.int (2 : Int32)), (.ref s1)])) rfl rfl (hb hby own_d4_120)
  have V57 : Arv Z h57 s1 k_s1 .byte (512 : Int32) [(.int (0 : Int32)), (.int (0 : Int32)), (.int (0 : Int32)), (.int (1 : Int32)), (.int (0 : Int32)), (.int (0 : Int32)), (.int (0 : Int32)), (.int (0 : Int32))] (.int (0 : Int32)) := Arv.set Arv56 qv56 Sv56 Nv56 Hv56 Gv56 (fits_nar_byte _) W57 2 rfl (Nat.le_of_ble_eq_true rfl)
  have N57 := Fr.snoc X57 N47 pre13
  have Kp58 : Keep h0 h57 [a0, s1, s2, s3, s5] := Kp48.wr W57 (Or.inl (List.mem_of_getElem? (i := 1) rfl))
  refine og_of st57 ?_
  show OG p e below _ _ (T57.setTop (mkF m 121 #[.val (.ref a0), .val (.int (2 : Int32)), .val (.int (2 : Int32)), .val (.int (4 : Int32)), .val (.int (2 : Int32)), .val (.int (5 : Int32)), .val (.int (2 : Int32)), .val (.int (0 : Int32)), .val (.int (2 : Int32)), .unset] []))
  refine o_iload X57 hx rfl (hb hby own_d4_121) rfl ?_
  refine o_iload X57 hx rfl (hb hby own_d4_123) rfl ?_
  refine o_iadd (z := (7 : Int32)) X57 hx rfl (hb hby own_d4_125) (by decide) ?_
  refine o_iloadN X57 hx rfl (hb hby own_d4_126) rfl ?_
  refine o_iconst (z := (1 : Int32)) X57 hx rfl (hb hby own_d4_127) (by decide) ?_
  refine o_isub (z := (3 : Int32)) X57 hx rfl (hb hby own_d4_128) (by decide) ?_
  refine o_iand (z := (3 : Int32)) X57 hx rfl (hb hby own_d4_129) (by decide) ?_
  refine o_istore X57 hx rfl (hb hby own_d4_130) (L' := #[.val (.ref a0), .val (.int (2 : Int32)), .val (.int (2 : Int32)), .val (.int (4 : Int32)), .val (.int (2 : Int32)), .val (.int (5 : Int32)), .val (.int (3 : Int32)), .val (.int (0 : Int32)), .val (.int (2 : Int32)), .unset]) rfl ?_
  refine o_iload X57 hx rfl (hb hby own_d4_132) rfl ?_
  refine o_iload X57 hx rfl (hb hby own_d4_134) rfl ?_
  refine o_icmpY (pc' := 121) X57 hx (hb hby own_d4_136) (tlt (by decide : ((2 : Int32) < (3 : Int32)))).2.2.1 (by decide) (by decide) ?_
  refine o_iload X57 hx rfl (hb hby own_d4_121) rfl ?_
  refine o_iload X57 hx rfl (hb hby own_d4_123) rfl ?_
  refine o_iadd (z := (8 : Int32)) X57 hx rfl (hb hby own_d4_125) (by decide) ?_
  refine o_iloadN X57 hx rfl (hb hby own_d4_126) rfl ?_
  refine o_iconst (z := (1 : Int32)) X57 hx rfl (hb hby own_d4_127) (by decide) ?_
  refine o_isub (z := (3 : Int32)) X57 hx rfl (hb hby own_d4_128) (by decide) ?_
  refine o_iand (z := (0 : Int32)) X57 hx rfl (hb hby own_d4_129) (by decide) ?_
  refine o_istore X57 hx rfl (hb hby own_d4_130) (L' := #[.val (.ref a0), .val (.int (2 : Int32)), .val (.int (2 : Int32)), .val (.int (4 : Int32)), .val (.int (2 : Int32)), .val (.int (5 : Int32)), .val (.int (0 : Int32)), .val (.int (0 : Int32)), .val (.int (2 : Int32)), .unset]) rfl ?_
  refine o_iload X57 hx rfl (hb hby own_d4_132) rfl ?_
  refine o_iload X57 hx rfl (hb hby own_d4_134) rfl ?_
  refine o_icmpN (pc' := 139) X57 hx rfl (hb hby own_d4_136) (flt (by decide : ¬ ((2 : Int32) < (0 : Int32)))).2.2.1 ?_
  refine o_iinc (z := (3 : Int32)) X57 hx rfl (hb hby own_d4_139) rfl (by decide) (L' := #[.val (.ref a0), .val (.int (2 : Int32)), .val (.int (2 : Int32)), .val (.int (4 : Int32)), .val (.int (2 : Int32)), .val (.int (5 : Int32)), .val (.int (0 : Int32)), .val (.int (0 : Int32)), .val (.int (3 : Int32)), .unset]) rfl ?_
  refine o_goto (pc' := 99) X57 hx (hb hby own_d4_142) (by decide) (by decide) ?_
  refine o_iload X57 hx rfl (hb hby own_d4_99) rfl ?_
  refine o_aloadN X57 hx rfl (hb hby own_d4_101) rfl rfl ?_
  have Fc59 : Fld Z h57 a0 "tidemark/record/FseTable" "counts" "[S" (.ref s4) := (Fld.other W57 Fc49 (Or.inl pre18))
  obtain ⟨T60, X60, e60, st60⟩ := getF X57 hx hZ hown (host := "") (Or.inl (hw _ (List.mem_of_getElem? (i := 21) rfl))) Via.refl e57 Fc59 (g := (mkF m 102 #[.val (.ref a0), .val (.int (2 : Int32)), .val (.int (2 : Int32)), .val (.int (4 : Int32)), .val (.int (2 : Int32)), .val (.int (5 : Int32)), .val (.int (0 : Int32)), .val (.int (0 : Int32)), .val (.int (3 : Int32)), .unset] [(.ref a0), (.int (3 : Int32))])) rfl rfl (hb hby own_d4_102)
  refine og_of st60 ?_
  show OG p e below _ _ (T60.setTop (mkF m 105 #[.val (.ref a0), .val (.int (2 : Int32)), .val (.int (2 : Int32)), .val (.int (4 : Int32)), .val (.int (2 : Int32)), .val (.int (5 : Int32)), .val (.int (0 : Int32)), .val (.int (0 : Int32)), .val (.int (3 : Int32)), .unset] [(.ref s4), (.int (3 : Int32))]))
  refine o_iload X60 hx rfl (hb hby own_d4_105) rfl ?_
  have Fc61 : Arv Z h57 s4 k_s4 .short (256 : Int32) [(.int (3 : Int32)), (.int (-1 : Int32)), (.int (0 : Int32)), (.int (0 : Int32)), (.int (0 : Int32)), (.int (0 : Int32)), (.int (0 : Int32)), (.int (0 : Int32))] (.int (0 : Int32)) := (Fc51.other W57 (Ne.symm pre25))
  obtain ⟨clv62, Arv62, qv62, Sv62, Nv62, Hv62, Gv62⟩ := id Fc61
  have hin63 : ¬ ((0 : Int32) < 0 ∨ clv62.slots.size ≤ ((0 : Int32)).toNatClampNeg) := inb_of Sv62 ⟨by decide, by decide⟩
  have hat63 : clv62.slots[((0 : Int32)).toNatClampNeg]? = some (.int (3 : Int32)) := Hv62.at hin63 rfl
  refine og_of (X60.saload hx (j := (0 : Int32)) (v := (.int (3 : Int32))) (by rw [e60]; exact Arv62.1) (State.isArrayOf_alike hZ.alike Arv62.2.1) Arv62.2.2 hin63 hat63 (g := (mkF m 107 #[.val (.ref a0), .val (.int (2 : Int32)), .val (.int (2 : Int32)), .val (.int (4 : Int32)), .val (.int (2 : Int32)), .val (.int (5 : Int32)), .val (.int (0 : Int32)), .val (.int (0 : Int32)), .val (.int (3 : Int32)), .unset] [(.int (0 : Int32)), (.ref s4), (.int (3 : Int32))])) rfl rfl (hb hby own_d4_107)) ?_
  show OG p e below _ _ (T60.setTop (mkF m 108 #[.val (.ref a0), .val (.int (2 : Int32)), .val (.int (2 : Int32)), .val (.int (4 : Int32)), .val (.int (2 : Int32)), .val (.int (5 : Int32)), .val (.int (0 : Int32)), .val (.int (0 : Int32)), .val (.int (3 : Int32)), .unset] [(.int (3 : Int32)), (.int (3 : Int32))]))
  refine o_icmpY (pc' := 145) X60 hx (hb hby own_d4_108) (flt (by decide : ¬ ((3 : Int32) < (3 : Int32)))).2.1 (by decide) (by decide) ?_
  refine o_iinc (z := (1 : Int32)) X60 hx rfl (hb hby own_d4_145) rfl (by decide) (L' := #[.val (.ref a0), .val (.int (2 : Int32)), .val (.int (2 : Int32)), .val (.int (4 : Int32)), .val (.int (2 : Int32)), .val (.int (5 : Int32)), .val (.int (0 : Int32)), .val (.int (1 : Int32)), .val (.int (3 : Int32)), .unset]) rfl ?_
  refine o_goto (pc' := 90) X60 hx (hb hby own_d4_148) (by decide) (by decide) ?_
  refine o_iload X60 hx rfl (hb hby own_d4_90) rfl ?_
  refine o_iloadN X60 hx rfl (hb hby own_d4_92) rfl ?_
  refine o_icmpN (pc' := 96) X60 hx rfl (hb hby own_d4_93) (tlt (by decide : ((1 : Int32) < (2 : Int32)))).2.1 ?_
  refine o_iconst (z := (0 : Int32)) X60 hx rfl (hb hby own_d4_96) (by decide) ?_
  refine o_istore X60 hx rfl (hb hby own_d4_97) (L' := #[.val (.ref a0), .val (.int (2 : Int32)), .val (.int (2 : Int32)), .val (.int (4 : Int32)), .val (.int (2 : Int32)), .val (.int (5 : Int32)), .val (.int (0 : Int32)), .val (.int (1 : Int32)), .val (.int (0 : Int32)), .unset]) rfl ?_
  refine o_iload X60 hx rfl (hb hby own_d4_99) rfl ?_
  refine o_aloadN X60 hx rfl (hb hby own_d4_101) rfl rfl ?_
  obtain ⟨T64, X64, e64, st64⟩ := getF X60 hx hZ hown (host := "") (Or.inl (hw _ (List.mem_of_getElem? (i := 21) rfl))) Via.refl e60 Fc59 (g := (mkF m 102 #[.val (.ref a0), .val (.int (2 : Int32)), .val (.int (2 : Int32)), .val (.int (4 : Int32)), .val (.int (2 : Int32)), .val (.int (5 : Int32)), .val (.int (0 : Int32)), .val (.int (1 : Int32)), .val (.int (0 : Int32)), .unset] [(.ref a0), (.int (0 : Int32))])) rfl rfl (hb hby own_d4_102)
  refine og_of st64 ?_
  show OG p e below _ _ (T64.setTop (mkF m 105 #[.val (.ref a0), .val (.int (2 : Int32)), .val (.int (2 : Int32)), .val (.int (4 : Int32)), .val (.int (2 : Int32)), .val (.int (5 : Int32)), .val (.int (0 : Int32)), .val (.int (1 : Int32)), .val (.int (0 : Int32)), .unset] [(.ref s4), (.int (0 : Int32))]))
  refine o_iload X64 hx rfl (hb hby own_d4_105) rfl ?_
  obtain ⟨clv65, Arv65, qv65, Sv65, Nv65, Hv65, Gv65⟩ := id Fc61
  have hin66 : ¬ ((1 : Int32) < 0 ∨ clv65.slots.size ≤ ((1 : Int32)).toNatClampNeg) := inb_of Sv65 ⟨by decide, by decide⟩
  have hat66 : clv65.slots[((1 : Int32)).toNatClampNeg]? = some (.int (-1 : Int32)) := Hv65.at hin66 rfl
  refine og_of (X64.saload hx (j := (1 : Int32)) (v := (.int (-1 : Int32))) (by rw [e64]; exact Arv65.1) (State.isArrayOf_alike hZ.alike Arv65.2.1) Arv65.2.2 hin66 hat66 (g := (mkF m 107 #[.val (.ref a0), .val (.int (2 : Int32)), .val (.int (2 : Int32)), .val (.int (4 : Int32)), .val (.int (2 : Int32)), .val (.int (5 : Int32)), .val (.int (0 : Int32)), .val (.int (1 : Int32)), .val (.int (0 : Int32)), .unset] [(.int (1 : Int32)), (.ref s4), (.int (0 : Int32))])) rfl rfl (hb hby own_d4_107)) ?_
  show OG p e below _ _ (T64.setTop (mkF m 108 #[.val (.ref a0), .val (.int (2 : Int32)), .val (.int (2 : Int32)), .val (.int (4 : Int32)), .val (.int (2 : Int32)), .val (.int (5 : Int32)), .val (.int (0 : Int32)), .val (.int (1 : Int32)), .val (.int (0 : Int32)), .unset] [(.int (-1 : Int32)), (.int (0 : Int32))]))
  refine o_icmpY (pc' := 145) X64 hx (hb hby own_d4_108) (flt (by decide : ¬ ((0 : Int32) < (-1 : Int32)))).2.1 (by decide) (by decide) ?_
  refine o_iinc (z := (2 : Int32)) X64 hx rfl (hb hby own_d4_145) rfl (by decide) (L' := #[.val (.ref a0), .val (.int (2 : Int32)), .val (.int (2 : Int32)), .val (.int (4 : Int32)), .val (.int (2 : Int32)), .val (.int (5 : Int32)), .val (.int (0 : Int32)), .val (.int (2 : Int32)), .val (.int (0 : Int32)), .unset]) rfl ?_
  refine o_goto (pc' := 90) X64 hx (hb hby own_d4_148) (by decide) (by decide) ?_
  refine o_iload X64 hx rfl (hb hby own_d4_90) rfl ?_
  refine o_iloadN X64 hx rfl (hb hby own_d4_92) rfl ?_
  refine o_icmpY (pc' := 151) X64 hx (hb hby own_d4_93) (flt (by decide : ¬ ((2 : Int32) < (2 : Int32)))).2.1 (by decide) (by decide) ?_
  refine o_iload X64 hx rfl (hb hby own_d4_151) rfl ?_
  refine o_ifY (pc' := 162) X64 hx (hb hby own_d4_153) ((if0 _ _).trans (teq (by decide : ((0 : Int32) = (0 : Int32)))).1) (by decide) (by decide) ?_
  refine o_iconst (z := (0 : Int32)) X64 hx rfl (hb hby own_d4_162) (by decide) ?_
  refine o_istore X64 hx rfl (hb hby own_d4_163) (L' := #[.val (.ref a0), .val (.int (2 : Int32)), .val (.int (2 : Int32)), .val (.int (4 : Int32)), .val (.int (2 : Int32)), .val (.int (5 : Int32)), .val (.int (0 : Int32)), .val (.int (2 : Int32)), .val (.int (0 : Int32)), .unset]) rfl ?_
  refine o_iload X64 hx rfl (hb hby own_d4_165) rfl ?_
  refine o_iloadN X64 hx rfl (hb hby own_d4_167) rfl ?_
  refine o_icmpN (pc' := 171) X64 hx rfl (hb hby own_d4_168) (tlt (by decide : ((0 : Int32) < (4 : Int32)))).2.1 ?_
  refine o_aloadN X64 hx rfl (hb hby own_d4_171) rfl rfl ?_
  have Fc67 : Fld Z h57 a0 "tidemark/record/FseTable" "symbols" "[B" (.ref s1) := (Fld.other W57 Fc54 (Or.inl pre18))
  obtain ⟨T68, X68, e68, st68⟩ := getF X64 hx hZ hown (host := "") (Or.inl (hw _ (List.mem_of_getElem? (i := 14) rfl))) Via.refl e64 Fc67 (g := (mkF m 172 #[.val (.ref a0), .val (.int (2 : Int32)), .val (.int (2 : Int32)), .val (.int (4 : Int32)), .val (.int (2 : Int32)), .val (.int (5 : Int32)), .val (.int (0 : Int32)), .val (.int (2 : Int32)), .val (.int (0 : Int32)), .unset] [(.ref a0)])) rfl rfl (hb hby own_d4_172)
  refine og_of st68 ?_
  show OG p e below _ _ (T68.setTop (mkF m 175 #[.val (.ref a0), .val (.int (2 : Int32)), .val (.int (2 : Int32)), .val (.int (4 : Int32)), .val (.int (2 : Int32)), .val (.int (5 : Int32)), .val (.int (0 : Int32)), .val (.int (2 : Int32)), .val (.int (0 : Int32)), .unset] [(.ref s1)]))
  refine o_iload X68 hx rfl (hb hby own_d4_175) rfl ?_
  obtain ⟨clv69, Arv69, qv69, Sv69, Nv69, Hv69, Gv69⟩ := id V57
  have hin70 : ¬ ((0 : Int32) < 0 ∨ clv69.slots.size ≤ ((0 : Int32)).toNatClampNeg) := inb_of Sv69 ⟨by decide, by decide⟩
  have hat70 : clv69.slots[((0 : Int32)).toNatClampNeg]? = some (.int (0 : Int32)) := Hv69.at hin70 rfl
  refine og_of (X68.baloadBytes hx (j := (0 : Int32)) (v := (.int (0 : Int32))) (by rw [e68]; exact Arv69.1) (State.isArrayOf_alike hZ.alike Arv69.2.1) Arv69.2.2 hin70 hat70 (g := (mkF m 177 #[.val (.ref a0), .val (.int (2 : Int32)), .val (.int (2 : Int32)), .val (.int (4 : Int32)), .val (.int (2 : Int32)), .val (.int (5 : Int32)), .val (.int (0 : Int32)), .val (.int (2 : Int32)), .val (.int (0 : Int32)), .unset] [(.int (0 : Int32)), (.ref s1)])) rfl rfl (hb hby own_d4_177)) ?_
  show OG p e below _ _ (T68.setTop (mkF m 178 #[.val (.ref a0), .val (.int (2 : Int32)), .val (.int (2 : Int32)), .val (.int (4 : Int32)), .val (.int (2 : Int32)), .val (.int (5 : Int32)), .val (.int (0 : Int32)), .val (.int (2 : Int32)), .val (.int (0 : Int32)), .unset] [(.int (0 : Int32))]))
  refine o_sipush (z := (255 : Int32)) X68 hx rfl (hb hby own_d4_178) (by decide) ?_
  refine o_iand (z := (0 : Int32)) X68 hx rfl (hb hby own_d4_181) (by decide) ?_
  refine o_istore X68 hx rfl (hb hby own_d4_182) (L' := #[.val (.ref a0), .val (.int (2 : Int32)), .val (.int (2 : Int32)), .val (.int (4 : Int32)), .val (.int (2 : Int32)), .val (.int (5 : Int32)), .val (.int (0 : Int32)), .val (.int (0 : Int32)), .val (.int (0 : Int32)), .unset]) rfl ?_
  refine o_aloadN X68 hx rfl (hb hby own_d4_184) rfl rfl ?_
  have Fc71 : Fld Z h57 a0 "tidemark/record/FseTable" "next" "[I" (.ref s5) := (Fld.other W57 (Fld.other W47 (Fld.other W37 (Fld.other W26 Fc22 (Or.inl pre22)) (Or.inl pre18)) (Or.inl pre18)) (Or.inl pre18))
  obtain ⟨T72, X72, e72, st72⟩ := getF X68 hx hZ hown (host := "") (Or.inl (hw _ (List.mem_of_getElem? (i := 23) rfl))) Via.refl e68 Fc71 (g := (mkF m 185 #[.val (.ref a0), .val (.int (2 : Int32)), .val (.int (2 : Int32)), .val (.int (4 : Int32)), .val (.int (2 : Int32)), .val (.int (5 : Int32)), .val (.int (0 : Int32)), .val (.int (0 : Int32)), .val (.int (0 : Int32)), .unset] [(.ref a0)])) rfl rfl (hb hby own_d4_185)
  refine og_of st72 ?_
  show OG p e below _ _ (T72.setTop (mkF m 188 #[.val (.ref a0), .val (.int (2 : Int32)), .val (.int (2 : Int32)), .val (.int (4 : Int32)), .val (.int (2 : Int32)), .val (.int (5 : Int32)), .val (.int (0 : Int32)), .val (.int (0 : Int32)), .val (.int (0 : Int32)), .unset] [(.ref s5)]))
  refine o_iload X72 hx rfl (hb hby own_d4_188) rfl ?_
  refine o_dup2 X72 hx rfl (hb hby own_d4_190) rfl rfl ?_
  have Fc73 : Arv Z h57 s5 k_s5 .int (256 : Int32) [(.int (3 : Int32)), (.int (1 : Int32)), (.int (0 : Int32)), (.int (0 : Int32)), (.int (0 : Int32)), (.int (0 : Int32)), (.int (0 : Int32)), (.int (0 : Int32))] (.int (0 : Int32)) := (((V26.other W37 (Ne.symm pre26)).other W47 (Ne.symm pre26)).other W57 (Ne.symm pre26))
  obtain ⟨clv74, Arv74, qv74, Sv74, Nv74, Hv74, Gv74⟩ := id Fc73
  have hin75 : ¬ ((0 : Int32) < 0 ∨ clv74.slots.size ≤ ((0 : Int32)).toNatClampNeg) := inb_of Sv74 ⟨by decide, by decide⟩
  have hat75 : clv74.slots[((0 : Int32)).toNatClampNeg]? = some (.int (3 : Int32)) := Hv74.at hin75 rfl
  refine og_of (X72.iaload hx (j := (0 : Int32)) (v := (.int (3 : Int32))) (by rw [e72]; exact Arv74.1) (State.isArrayOf_alike hZ.alike Arv74.2.1) Arv74.2.2 hin75 hat75 (g := (mkF m 191 #[.val (.ref a0), .val (.int (2 : Int32)), .val (.int (2 : Int32)), .val (.int (4 : Int32)), .val (.int (2 : Int32)), .val (.int (5 : Int32)), .val (.int (0 : Int32)), .val (.int (0 : Int32)), .val (.int (0 : Int32)), .unset] [(.int (0 : Int32)), (.ref s5), (.int (0 : Int32)), (.ref s5)])) rfl rfl (hb hby own_d4_191)) ?_
  show OG p e below _ _ (T72.setTop (mkF m 192 #[.val (.ref a0), .val (.int (2 : Int32)), .val (.int (2 : Int32)), .val (.int (4 : Int32)), .val (.int (2 : Int32)), .val (.int (5 : Int32)), .val (.int (0 : Int32)), .val (.int (0 : Int32)), .val (.int (0 : Int32)), .unset] [(.int (3 : Int32)), (.int (0 : Int32)), (.ref s5)]))
  refine o_dup_x2 X72 hx rfl (hb hby own_d4_192) rfl rfl rfl ?_
  refine o_iconst (z := (1 : Int32)) X72 hx rfl (hb hby own_d4_193) (by decide) ?_
  refine o_iadd (z := (4 : Int32)) X72 hx rfl (hb hby own_d4_194) (by decide) ?_
  obtain ⟨clv76, Arv76, qv76, Sv76, Nv76, Hv76, Gv76⟩ := id Fc73
  have hin77 : ¬ ((0 : Int32) < 0 ∨ clv76.slots.size ≤ ((0 : Int32)).toNatClampNeg) := inb_of Sv76 ⟨by decide, by decide⟩
  obtain ⟨T77, h77, X77, e77, W77, st77⟩ := stI X72 hx hZ e72 Arv76 (j := (0 : Int32)) hin77 (g := (mkF m 195 #[.val (.ref a0), .val (.int (2 : Int32)), .val (.int (2 : Int32)), .val (.int (4 : Int32)), .val (.int (2 : Int32)), .val (.int (5 : Int32)), .val (.int (0 : Int32)), .val (.int (0 : Int32)), .val (.int (0 : Int32)), .unset] [(.int (4 : Int32)), (.int (0 : Int32)), (.ref s5), (.int (3 : Int32))])) rfl rfl (hb hby own_d4_195)
  have V77 : Arv Z h77 s5 k_s5 .int (256 : Int32) [(.int (4 : Int32)), (.int (1 : Int32)), (.int (0 : Int32)), (.int (0 : Int32)), (.int (0 : Int32)), (.int (0 : Int32)), (.int (0 : Int32)), (.int (0 : Int32))] (.int (0 : Int32)) := Arv.set Arv76 qv76 Sv76 Nv76 Hv76 Gv76 rfl W77 0 rfl (Nat.le_of_ble_eq_true rfl)
  have N77 := Fr.snoc X77 N57 pre17
  have Kp78 : Keep h0 h77 [a0, s1, s2, s3, s5] := Kp58.wr W77 (Or.inl (List.mem_of_getElem? (i := 4) rfl))
  refine og_of st77 ?_
  show OG p e below _ _ (T77.setTop (mkF m 196 #[.val (.ref a0), .val (.int (2 : Int32)), .val (.int (2 : Int32)), .val (.int (4 : Int32)), .val (.int (2 : Int32)), .val (.int (5 : Int32)), .val (.int (0 : Int32)), .val (.int (0 : Int32)), .val (.int (0 : Int32)), .unset] [(.int (3 : Int32))]))
  refine o_istore X77 hx rfl (hb hby own_d4_196) (L' := #[.val (.ref a0), .val (.int (2 : Int32)), .val (.int (2 : Int32)), .val (.int (4 : Int32)), .val (.int (2 : Int32)), .val (.int (5 : Int32)), .val (.int (0 : Int32)), .val (.int (0 : Int32)), .val (.int (3 : Int32)), .unset]) rfl ?_
  refine o_iloadN X77 hx rfl (hb hby own_d4_198) rfl ?_
  refine o_bipush (z := (31 : Int32)) X77 hx rfl (hb hby own_d4_199) (by decide) ?_
  refine o_iload X77 hx rfl (hb hby own_d4_201) rfl ?_
  obtain ⟨_, _, ⟨T79, L79, k79, n79⟩, -, X79, ⟨Lc79, hQ79, l79, y79, z79⟩, st79⟩ := Jvm.LawKit.callS X77 hx (y := (⟨"java/lang/Integer", "numberOfLeadingZeros", "(I)I"⟩ : MethodName)) hown (mvT hZ (hw _ (List.mem_of_getElem? (i := 29) rfl))) (mvT hZ (hw _ (List.mem_of_getElem? (i := 30) rfl))) (mvT hZ (hw _ (List.mem_of_getElem? (i := 31) rfl))) (mvT hZ (hw _ (List.mem_of_getElem? (i := 32) rfl))) (by decide) (backOf (W := 2) (own_rmz3 l Z aA hw []  h77 n0 (Nat.le_trans (Nat.le_trans (Nat.le_trans (Nat.le_trans (Nat.le_trans (Nat.le_trans (Nat.le_trans Z0 (Keep.of_wr W9).1) (Keep.of_wr W20).1) (Keep.of_wr W26).1) (Keep.of_wr W37).1) (Keep.of_wr W47).1) (Keep.of_wr W57).1) (Keep.of_wr W77).1)) hZ (hw _ (List.mem_of_getElem? (i := 32) rfl)) (hw _ (List.mem_of_getElem? (i := 31) rfl)) (by decide) (by decide)) (g := (mkF m 203 #[.val (.ref a0), .val (.int (2 : Int32)), .val (.int (2 : Int32)), .val (.int (4 : Int32)), .val (.int (2 : Int32)), .val (.int (5 : Int32)), .val (.int (0 : Int32)), .val (.int (0 : Int32)), .val (.int (3 : Int32)), .unset] [(.int (3 : Int32)), (.int (31 : Int32)), (.int (2 : Int32))])) rfl (by rw [hml]; rfl) (argsL := [(.int (3 : Int32))]) (rest := [(.int (31 : Int32)), (.int (2 : Int32))]) (lenOf own_pd0 rfl) rfl (by show 2 * 0 + _ ≤ _; exact Nat.le_of_eq rfl) (hb hby own_d4_203) (fun _ _ => ⟨rfl, e77, Nat.le_of_ble_eq_true rfl, Nat.le_of_ble_eq_true rfl⟩)
  dsimp only [Pt.U, Pt.locs, Pt.cells, Pt.slots] at X79 l79 y79 z79 st79 hQ79
  subst l79 y79 z79
  obtain ⟨rfl, N79q, ee79⟩ := hQ79
  have N80 := Fr.app N77 N79q
  refine og_of st79 ?_
  show OG p e below _ _ (T79.setTop (mkF m 206 #[.val (.ref a0), .val (.int (2 : Int32)), .val (.int (2 : Int32)), .val (.int (4 : Int32)), .val (.int (2 : Int32)), .val (.int (5 : Int32)), .val (.int (0 : Int32)), .val (.int (0 : Int32)), .val (.int (3 : Int32)), .unset] [(.int (30 : Int32)), (.int (31 : Int32)), (.int (2 : Int32))]))
  refine o_isub (z := (1 : Int32)) X79 hx rfl (hb hby own_d4_206) (by decide) ?_
  refine o_isub (z := (1 : Int32)) X79 hx rfl (hb hby own_d4_207) (by decide) ?_
  refine o_istore X79 hx rfl (hb hby own_d4_208) (L' := #[.val (.ref a0), .val (.int (2 : Int32)), .val (.int (2 : Int32)), .val (.int (4 : Int32)), .val (.int (2 : Int32)), .val (.int (5 : Int32)), .val (.int (0 : Int32)), .val (.int (0 : Int32)), .val (.int (3 : Int32)), .val (.int (1 : Int32))]) rfl ?_
  refine o_aloadN X79 hx rfl (hb hby own_d4_210) rfl rfl ?_
  have Fc81 : Fld Z h77 a0 "tidemark/record/FseTable" "bits" "[B" (.ref s2) := (Fld.other W77 (Fld.other W57 (Fld.other W47 (Fld.other W37 (Fld.other W26 (Fld.other W20 (Fld.other W9 pre2 (Or.inl pre22)) (Or.inl pre18)) (Or.inl pre22)) (Or.inl pre18)) (Or.inl pre18)) (Or.inl pre18)) (Or.inl pre22))
  obtain ⟨T82, X82, e82, st82⟩ := getF X79 hx hZ hown (host := "") (Or.inl (hw _ (List.mem_of_getElem? (i := 16) rfl))) Via.refl ee79 Fc81 (g := (mkF m 211 #[.val (.ref a0), .val (.int (2 : Int32)), .val (.int (2 : Int32)), .val (.int (4 : Int32)), .val (.int (2 : Int32)), .val (.int (5 : Int32)), .val (.int (0 : Int32)), .val (.int (0 : Int32)), .val (.int (3 : Int32)), .val (.int (1 : Int32))] [(.ref a0)])) rfl rfl (hb hby own_d4_211)
  refine og_of st82 ?_
  show OG p e below _ _ (T82.setTop (mkF m 214 #[.val (.ref a0), .val (.int (2 : Int32)), .val (.int (2 : Int32)), .val (.int (4 : Int32)), .val (.int (2 : Int32)), .val (.int (5 : Int32)), .val (.int (0 : Int32)), .val (.int (0 : Int32)), .val (.int (3 : Int32)), .val (.int (1 : Int32))] [(.ref s2)]))
  refine o_iload X82 hx rfl (hb hby own_d4_214) rfl ?_
  refine o_iload X82 hx rfl (hb hby own_d4_216) rfl ?_
  refine o_i2b (z := (1 : Int32)) X82 hx rfl (hb hby own_d4_218) (by decide) ?_
  have Fc83 : Arv Z h77 s2 k_s2 .byte (512 : Int32) [(.int (0 : Int32)), (.int (0 : Int32)), (.int (0 : Int32)), (.int (0 : Int32)), (.int (0 : Int32)), (.int (0 : Int32)), (.int (0 : Int32)), (.int (0 : Int32))] (.int (0 : Int32)) := (((((((pre8.other W9 pre29).other W20 (Ne.symm pre23)).other W26 pre29).other W37 (Ne.symm pre23)).other W47 (Ne.symm pre23)).other W57 (Ne.symm pre23)).other W77 pre29)
  obtain ⟨clv84, Arv84, qv84, Sv84, Nv84, Hv84, Gv84⟩ := id Fc83
  have hin85 : ¬ ((0 : Int32) < 0 ∨ clv84.slots.size ≤ ((0 : Int32)).toNatClampNeg) := inb_of Sv84 ⟨by decide, by decide⟩
  obtain ⟨T85, h85, X85, e85, W85, st85⟩ := stB X82 hx hZ e82 Arv84 (j := (0 : Int32)) hin85 (g := (mkF m 219 #[.val (.ref a0), .val (.int (2 : Int32)), .val (.int (2 : Int32)), .val (.int (4 : Int32)), .val (.int (2 : Int32)), .val (.int (5 : Int32)), .val (.int (0 : Int32)), .val (.int (0 : Int32)), .val (.int (3 : Int32)), .val (.int (1 : Int32))] [(.int (1 : Int32)), (.int (0 : Int32)), (.ref s2)])) rfl rfl (hb hby own_d4_219)
  have V85 : Arv Z h85 s2 k_s2 .byte (512 : Int32) [(.int (1 : Int32)), (.int (0 : Int32)), (.int (0 : Int32)), (.int (0 : Int32)), (.int (0 : Int32)), (.int (0 : Int32)), (.int (0 : Int32)), (.int (0 : Int32))] (.int (0 : Int32)) := Arv.set Arv84 qv84 Sv84 Nv84 Hv84 Gv84 (fits_nar_byte _) W85 0 rfl (Nat.le_of_ble_eq_true rfl)
  have N85 := Fr.snoc X85 N80 pre14
  have Kp86 : Keep h0 h85 [a0, s1, s2, s3, s5] := Kp78.wr W85 (Or.inl (List.mem_of_getElem? (i := 2) rfl))
  refine og_of st85 ?_
  show OG p e below _ _ (T85.setTop (mkF m 220 #[.val (.ref a0), .val (.int (2 : Int32)), .val (.int (2 : Int32)), .val (.int (4 : Int32)), .val (.int (2 : Int32)), .val (.int (5 : Int32)), .val (.int (0 : Int32)), .val (.int (0 : Int32)), .val (.int (3 : Int32)), .val (.int (1 : Int32))] []))
  refine o_aloadN X85 hx rfl (hb hby own_d4_220) rfl rfl ?_
  have Fc87 : Fld Z h85 a0 "tidemark/record/FseTable" "bases" "[S" (.ref s3) := (Fld.other W85 (Fld.other W77 (Fld.other W57 (Fld.other W47 (Fld.other W37 (Fld.other W26 (Fld.other W20 (Fld.other W9 pre3 (Or.inl pre22)) (Or.inl pre18)) (Or.inl pre22)) (Or.inl pre18)) (Or.inl pre18)) (Or.inl pre18)) (Or.inl pre22)) (Or.inl pre19))
  obtain ⟨T88, X88, e88, st88⟩ := getF X85 hx hZ hown (host := "") (Or.inl (hw _ (List.mem_of_getElem? (i := 19) rfl))) Via.refl e85 Fc87 (g := (mkF m 221 #[.val (.ref a0), .val (.int (2 : Int32)), .val (.int (2 : Int32)), .val (.int (4 : Int32)), .val (.int (2 : Int32)), .val (.int (5 : Int32)), .val (.int (0 : Int32)), .val (.int (0 : Int32)), .val (.int (3 : Int32)), .val (.int (1 : Int32))] [(.ref a0)])) rfl rfl (hb hby own_d4_221)
  refine og_of st88 ?_
  show OG p e below _ _ (T88.setTop (mkF m 224 #[.val (.ref a0), .val (.int (2 : Int32)), .val (.int (2 : Int32)), .val (.int (4 : Int32)), .val (.int (2 : Int32)), .val (.int (5 : Int32)), .val (.int (0 : Int32)), .val (.int (0 : Int32)), .val (.int (3 : Int32)), .val (.int (1 : Int32))] [(.ref s3)]))
  refine o_iload X88 hx rfl (hb hby own_d4_224) rfl ?_
  refine o_iload X88 hx rfl (hb hby own_d4_226) rfl ?_
  refine o_iload X88 hx rfl (hb hby own_d4_228) rfl ?_
  refine o_ishl (z := (6 : Int32)) X88 hx rfl (hb hby own_d4_230) (by decide) ?_
  refine o_iloadN X88 hx rfl (hb hby own_d4_231) rfl ?_
  refine o_isub (z := (2 : Int32)) X88 hx rfl (hb hby own_d4_232) (by decide) ?_
  refine o_i2s (z := (2 : Int32)) X88 hx rfl (hb hby own_d4_233) (by decide) ?_
  have Fc89 : Arv Z h85 s3 k_s3 .short (512 : Int32) [(.int (0 : Int32)), (.int (0 : Int32)), (.int (0 : Int32)), (.int (0 : Int32)), (.int (0 : Int32)), (.int (0 : Int32)), (.int (0 : Int32)), (.int (0 : Int32))] (.int (0 : Int32)) := ((((((((pre9.other W9 pre31).other W20 (Ne.symm pre24)).other W26 pre31).other W37 (Ne.symm pre24)).other W47 (Ne.symm pre24)).other W57 (Ne.symm pre24)).other W77 pre31).other W85 (Ne.symm pre27))
  obtain ⟨clv90, Arv90, qv90, Sv90, Nv90, Hv90, Gv90⟩ := id Fc89
  have hin91 : ¬ ((0 : Int32) < 0 ∨ clv90.slots.size ≤ ((0 : Int32)).toNatClampNeg) := inb_of Sv90 ⟨by decide, by decide⟩
  obtain ⟨T91, h91, X91, e91, W91, st91⟩ := stS X88 hx hZ e88 Arv90 (j := (0 : Int32)) hin91 (g := (mkF m 234 #[.val (.ref a0), .val (.int (2 : Int32)), .val (.int (2 : Int32)), .val (.int (4 : Int32)), .val (.int (2 : Int32)), .val (.int (5 : Int32)), .val (.int (0 : Int32)), .val (.int (0 : Int32)), .val (.int (3 : Int32)), .val (.int (1 : Int32))] [(.int (2 : Int32)), (.int (0 : Int32)), (.ref s3)])) rfl rfl (hb hby own_d4_234)
  have V91 : Arv Z h91 s3 k_s3 .short (512 : Int32) [(.int (2 : Int32)), (.int (0 : Int32)), (.int (0 : Int32)), (.int (0 : Int32)), (.int (0 : Int32)), (.int (0 : Int32)), (.int (0 : Int32)), (.int (0 : Int32))] (.int (0 : Int32)) := Arv.set Arv90 qv90 Sv90 Nv90 Hv90 Gv90 (fits_nar_short _) W91 0 rfl (Nat.le_of_ble_eq_true rfl)
  have N91 := Fr.snoc X91 N85 pre15
  have Kp92 : Keep h0 h91 [a0, s1, s2, s3, s5] := Kp86.wr W91 (Or.inl (List.mem_of_getElem? (i := 3) rfl))
  refine og_of st91 ?_
  show OG p e below _ _ (T91.setTop (mkF m 235 #[.val (.ref a0), .val (.int (2 : Int32)), .val (.int (2 : Int32)), .val (.int (4 : Int32)), .val (.int (2 : Int32)), .val (.int (5 : Int32)), .val (.int (0 : Int32)), .val (.int (0 : Int32)), .val (.int (3 : Int32)), .val (.int (1 : Int32))] []))
  refine o_iinc (z := (1 : Int32)) X91 hx rfl (hb hby own_d4_235) rfl (by decide) (L' := #[.val (.ref a0), .val (.int (2 : Int32)), .val (.int (2 : Int32)), .val (.int (4 : Int32)), .val (.int (2 : Int32)), .val (.int (5 : Int32)), .val (.int (1 : Int32)), .val (.int (0 : Int32)), .val (.int (3 : Int32)), .val (.int (1 : Int32))]) rfl ?_
  refine o_goto (pc' := 165) X91 hx (hb hby own_d4_238) (by decide) (by decide) ?_
  refine o_iload X91 hx rfl (hb hby own_d4_165) rfl ?_
  refine o_iloadN X91 hx rfl (hb hby own_d4_167) rfl ?_
  refine o_icmpN (pc' := 171) X91 hx rfl (hb hby own_d4_168) (tlt (by decide : ((1 : Int32) < (4 : Int32)))).2.1 ?_
  refine o_aloadN X91 hx rfl (hb hby own_d4_171) rfl rfl ?_
  have Fc93 : Fld Z h91 a0 "tidemark/record/FseTable" "symbols" "[B" (.ref s1) := (Fld.other W91 (Fld.other W85 (Fld.other W77 Fc67 (Or.inl pre22)) (Or.inl pre19)) (Or.inl pre20))
  obtain ⟨T94, X94, e94, st94⟩ := getF X91 hx hZ hown (host := "") (Or.inl (hw _ (List.mem_of_getElem? (i := 14) rfl))) Via.refl e91 Fc93 (g := (mkF m 172 #[.val (.ref a0), .val (.int (2 : Int32)), .val (.int (2 : Int32)), .val (.int (4 : Int32)), .val (.int (2 : Int32)), .val (.int (5 : Int32)), .val (.int (1 : Int32)), .val (.int (0 : Int32)), .val (.int (3 : Int32)), .val (.int (1 : Int32))] [(.ref a0)])) rfl rfl (hb hby own_d4_172)
  refine og_of st94 ?_
  show OG p e below _ _ (T94.setTop (mkF m 175 #[.val (.ref a0), .val (.int (2 : Int32)), .val (.int (2 : Int32)), .val (.int (4 : Int32)), .val (.int (2 : Int32)), .val (.int (5 : Int32)), .val (.int (1 : Int32)), .val (.int (0 : Int32)), .val (.int (3 : Int32)), .val (.int (1 : Int32))] [(.ref s1)]))
  refine o_iload X94 hx rfl (hb hby own_d4_175) rfl ?_
  have Fc95 : Arv Z h91 s1 k_s1 .byte (512 : Int32) [(.int (0 : Int32)), (.int (0 : Int32)), (.int (0 : Int32)), (.int (1 : Int32)), (.int (0 : Int32)), (.int (0 : Int32)), (.int (0 : Int32)), (.int (0 : Int32))] (.int (0 : Int32)) := (((V57.other W77 pre26).other W85 pre23).other W91 pre24)
  obtain ⟨clv96, Arv96, qv96, Sv96, Nv96, Hv96, Gv96⟩ := id Fc95
  have hin97 : ¬ ((1 : Int32) < 0 ∨ clv96.slots.size ≤ ((1 : Int32)).toNatClampNeg) := inb_of Sv96 ⟨by decide, by decide⟩
  have hat97 : clv96.slots[((1 : Int32)).toNatClampNeg]? = some (.int (0 : Int32)) := Hv96.at hin97 rfl
  refine og_of (X94.baloadBytes hx (j := (1 : Int32)) (v := (.int (0 : Int32))) (by rw [e94]; exact Arv96.1) (State.isArrayOf_alike hZ.alike Arv96.2.1) Arv96.2.2 hin97 hat97 (g := (mkF m 177 #[.val (.ref a0), .val (.int (2 : Int32)), .val (.int (2 : Int32)), .val (.int (4 : Int32)), .val (.int (2 : Int32)), .val (.int (5 : Int32)), .val (.int (1 : Int32)), .val (.int (0 : Int32)), .val (.int (3 : Int32)), .val (.int (1 : Int32))] [(.int (1 : Int32)), (.ref s1)])) rfl rfl (hb hby own_d4_177)) ?_
  show OG p e below _ _ (T94.setTop (mkF m 178 #[.val (.ref a0), .val (.int (2 : Int32)), .val (.int (2 : Int32)), .val (.int (4 : Int32)), .val (.int (2 : Int32)), .val (.int (5 : Int32)), .val (.int (1 : Int32)), .val (.int (0 : Int32)), .val (.int (3 : Int32)), .val (.int (1 : Int32))] [(.int (0 : Int32))]))
  refine o_sipush (z := (255 : Int32)) X94 hx rfl (hb hby own_d4_178) (by decide) ?_
  refine o_iand (z := (0 : Int32)) X94 hx rfl (hb hby own_d4_181) (by decide) ?_
  refine o_istore X94 hx rfl (hb hby own_d4_182) (L' := #[.val (.ref a0), .val (.int (2 : Int32)), .val (.int (2 : Int32)), .val (.int (4 : Int32)), .val (.int (2 : Int32)), .val (.int (5 : Int32)), .val (.int (1 : Int32)), .val (.int (0 : Int32)), .val (.int (3 : Int32)), .val (.int (1 : Int32))]) rfl ?_
  refine o_aloadN X94 hx rfl (hb hby own_d4_184) rfl rfl ?_
  have Fc98 : Fld Z h91 a0 "tidemark/record/FseTable" "next" "[I" (.ref s5) := (Fld.other W91 (Fld.other W85 (Fld.other W77 Fc71 (Or.inl pre22)) (Or.inl pre19)) (Or.inl pre20))
  obtain ⟨T99, X99, e99, st99⟩ := getF X94 hx hZ hown (host := "") (Or.inl (hw _ (List.mem_of_getElem? (i := 23) rfl))) Via.refl e94 Fc98 (g := (mkF m 185 #[.val (.ref a0), .val (.int (2 : Int32)), .val (.int (2 : Int32)), .val (.int (4 : Int32)), .val (.int (2 : Int32)), .val (.int (5 : Int32)), .val (.int (1 : Int32)), .val (.int (0 : Int32)), .val (.int (3 : Int32)), .val (.int (1 : Int32))] [(.ref a0)])) rfl rfl (hb hby own_d4_185)
  refine og_of st99 ?_
  show OG p e below _ _ (T99.setTop (mkF m 188 #[.val (.ref a0), .val (.int (2 : Int32)), .val (.int (2 : Int32)), .val (.int (4 : Int32)), .val (.int (2 : Int32)), .val (.int (5 : Int32)), .val (.int (1 : Int32)), .val (.int (0 : Int32)), .val (.int (3 : Int32)), .val (.int (1 : Int32))] [(.ref s5)]))
  refine o_iload X99 hx rfl (hb hby own_d4_188) rfl ?_
  refine o_dup2 X99 hx rfl (hb hby own_d4_190) rfl rfl ?_
  have Fc100 : Arv Z h91 s5 k_s5 .int (256 : Int32) [(.int (4 : Int32)), (.int (1 : Int32)), (.int (0 : Int32)), (.int (0 : Int32)), (.int (0 : Int32)), (.int (0 : Int32)), (.int (0 : Int32)), (.int (0 : Int32))] (.int (0 : Int32)) := ((V77.other W85 (Ne.symm pre29)).other W91 (Ne.symm pre31))
  obtain ⟨clv101, Arv101, qv101, Sv101, Nv101, Hv101, Gv101⟩ := id Fc100
  have hin102 : ¬ ((0 : Int32) < 0 ∨ clv101.slots.size ≤ ((0 : Int32)).toNatClampNeg) := inb_of Sv101 ⟨by decide, by decide⟩
  have hat102 : clv101.slots[((0 : Int32)).toNatClampNeg]? = some (.int (4 : Int32)) := Hv101.at hin102 rfl
  refine og_of (X99.iaload hx (j := (0 : Int32)) (v := (.int (4 : Int32))) (by rw [e99]; exact Arv101.1) (State.isArrayOf_alike hZ.alike Arv101.2.1) Arv101.2.2 hin102 hat102 (g := (mkF m 191 #[.val (.ref a0), .val (.int (2 : Int32)), .val (.int (2 : Int32)), .val (.int (4 : Int32)), .val (.int (2 : Int32)), .val (.int (5 : Int32)), .val (.int (1 : Int32)), .val (.int (0 : Int32)), .val (.int (3 : Int32)), .val (.int (1 : Int32))] [(.int (0 : Int32)), (.ref s5), (.int (0 : Int32)), (.ref s5)])) rfl rfl (hb hby own_d4_191)) ?_
  show OG p e below _ _ (T99.setTop (mkF m 192 #[.val (.ref a0), .val (.int (2 : Int32)), .val (.int (2 : Int32)), .val (.int (4 : Int32)), .val (.int (2 : Int32)), .val (.int (5 : Int32)), .val (.int (1 : Int32)), .val (.int (0 : Int32)), .val (.int (3 : Int32)), .val (.int (1 : Int32))] [(.int (4 : Int32)), (.int (0 : Int32)), (.ref s5)]))
  refine o_dup_x2 X99 hx rfl (hb hby own_d4_192) rfl rfl rfl ?_
  refine o_iconst (z := (1 : Int32)) X99 hx rfl (hb hby own_d4_193) (by decide) ?_
  refine o_iadd (z := (5 : Int32)) X99 hx rfl (hb hby own_d4_194) (by decide) ?_
  obtain ⟨clv103, Arv103, qv103, Sv103, Nv103, Hv103, Gv103⟩ := id Fc100
  have hin104 : ¬ ((0 : Int32) < 0 ∨ clv103.slots.size ≤ ((0 : Int32)).toNatClampNeg) := inb_of Sv103 ⟨by decide, by decide⟩
  obtain ⟨T104, h104, X104, e104, W104, st104⟩ := stI X99 hx hZ e99 Arv103 (j := (0 : Int32)) hin104 (g := (mkF m 195 #[.val (.ref a0), .val (.int (2 : Int32)), .val (.int (2 : Int32)), .val (.int (4 : Int32)), .val (.int (2 : Int32)), .val (.int (5 : Int32)), .val (.int (1 : Int32)), .val (.int (0 : Int32)), .val (.int (3 : Int32)), .val (.int (1 : Int32))] [(.int (5 : Int32)), (.int (0 : Int32)), (.ref s5), (.int (4 : Int32))])) rfl rfl (hb hby own_d4_195)
  have V104 : Arv Z h104 s5 k_s5 .int (256 : Int32) [(.int (5 : Int32)), (.int (1 : Int32)), (.int (0 : Int32)), (.int (0 : Int32)), (.int (0 : Int32)), (.int (0 : Int32)), (.int (0 : Int32)), (.int (0 : Int32))] (.int (0 : Int32)) := Arv.set Arv103 qv103 Sv103 Nv103 Hv103 Gv103 rfl W104 0 rfl (Nat.le_of_ble_eq_true rfl)
  have N104 := Fr.snoc X104 N91 pre17
  have Kp105 : Keep h0 h104 [a0, s1, s2, s3, s5] := Kp92.wr W104 (Or.inl (List.mem_of_getElem? (i := 4) rfl))
  refine og_of st104 ?_
  show OG p e below _ _ (T104.setTop (mkF m 196 #[.val (.ref a0), .val (.int (2 : Int32)), .val (.int (2 : Int32)), .val (.int (4 : Int32)), .val (.int (2 : Int32)), .val (.int (5 : Int32)), .val (.int (1 : Int32)), .val (.int (0 : Int32)), .val (.int (3 : Int32)), .val (.int (1 : Int32))] [(.int (4 : Int32))]))
  refine o_istore X104 hx rfl (hb hby own_d4_196) (L' := #[.val (.ref a0), .val (.int (2 : Int32)), .val (.int (2 : Int32)), .val (.int (4 : Int32)), .val (.int (2 : Int32)), .val (.int (5 : Int32)), .val (.int (1 : Int32)), .val (.int (0 : Int32)), .val (.int (4 : Int32)), .val (.int (1 : Int32))]) rfl ?_
  refine o_iloadN X104 hx rfl (hb hby own_d4_198) rfl ?_
  refine o_bipush (z := (31 : Int32)) X104 hx rfl (hb hby own_d4_199) (by decide) ?_
  refine o_iload X104 hx rfl (hb hby own_d4_201) rfl ?_
  obtain ⟨_, _, ⟨T106, L106, k106, n106⟩, -, X106, ⟨Lc106, hQ106, l106, y106, z106⟩, st106⟩ := Jvm.LawKit.callS X104 hx (y := (⟨"java/lang/Integer", "numberOfLeadingZeros", "(I)I"⟩ : MethodName)) hown (mvT hZ (hw _ (List.mem_of_getElem? (i := 29) rfl))) (mvT hZ (hw _ (List.mem_of_getElem? (i := 30) rfl))) (mvT hZ (hw _ (List.mem_of_getElem? (i := 31) rfl))) (mvT hZ (hw _ (List.mem_of_getElem? (i := 32) rfl))) (by decide) (backOf (W := 2) (own_rmz4 l Z aA hw []  h104 n0 (Nat.le_trans (Nat.le_trans (Nat.le_trans (Nat.le_trans (Nat.le_trans (Nat.le_trans (Nat.le_trans (Nat.le_trans (Nat.le_trans (Nat.le_trans Z0 (Keep.of_wr W9).1) (Keep.of_wr W20).1) (Keep.of_wr W26).1) (Keep.of_wr W37).1) (Keep.of_wr W47).1) (Keep.of_wr W57).1) (Keep.of_wr W77).1) (Keep.of_wr W85).1) (Keep.of_wr W91).1) (Keep.of_wr W104).1)) hZ (hw _ (List.mem_of_getElem? (i := 32) rfl)) (hw _ (List.mem_of_getElem? (i := 31) rfl)) (by decide) (by decide)) (g := (mkF m 203 #[.val (.ref a0), .val (.int (2 : Int32)), .val (.int (2 : Int32)), .val (.int (4 : Int32)), .val (.int (2 : Int32)), .val (.int (5 : Int32)), .val (.int (1 : Int32)), .val (.int (0 : Int32)), .val (.int (4 : Int32)), .val (.int (1 : Int32))] [(.int (4 : Int32)), (.int (31 : Int32)), (.int (2 : Int32))])) rfl (by rw [hml]; rfl) (argsL := [(.int (4 : Int32))]) (rest := [(.int (31 : Int32)), (.int (2 : Int32))]) (lenOf own_pd0 rfl) rfl (by show 2 * 0 + _ ≤ _; exact Nat.le_of_eq rfl) (hb hby own_d4_203) (fun _ _ => ⟨rfl, e104, Nat.le_of_ble_eq_true rfl, Nat.le_of_ble_eq_true rfl⟩)
  dsimp only [Pt.U, Pt.locs, Pt.cells, Pt.slots] at X106 l106 y106 z106 st106 hQ106
  subst l106 y106 z106
  obtain ⟨rfl, N106q, ee106⟩ := hQ106
  have N107 := Fr.app N104 N106q
  refine og_of st106 ?_
  show OG p e below _ _ (T106.setTop (mkF m 206 #[.val (.ref a0), .val (.int (2 : Int32)), .val (.int (2 : Int32)), .val (.int (4 : Int32)), .val (.int (2 : Int32)), .val (.int (5 : Int32)), .val (.int (1 : Int32)), .val (.int (0 : Int32)), .val (.int (4 : Int32)), .val (.int (1 : Int32))] [(.int (29 : Int32)), (.int (31 : Int32)), (.int (2 : Int32))]))
  refine o_isub (z := (2 : Int32)) X106 hx rfl (hb hby own_d4_206) (by decide) ?_
  refine o_isub (z := (0 : Int32)) X106 hx rfl (hb hby own_d4_207) (by decide) ?_
  refine o_istore X106 hx rfl (hb hby own_d4_208) (L' := #[.val (.ref a0), .val (.int (2 : Int32)), .val (.int (2 : Int32)), .val (.int (4 : Int32)), .val (.int (2 : Int32)), .val (.int (5 : Int32)), .val (.int (1 : Int32)), .val (.int (0 : Int32)), .val (.int (4 : Int32)), .val (.int (0 : Int32))]) rfl ?_
  refine o_aloadN X106 hx rfl (hb hby own_d4_210) rfl rfl ?_
  have Fc108 : Fld Z h104 a0 "tidemark/record/FseTable" "bits" "[B" (.ref s2) := (Fld.other W104 (Fld.other W91 (Fld.other W85 Fc81 (Or.inl pre19)) (Or.inl pre20)) (Or.inl pre22))
  obtain ⟨T109, X109, e109, st109⟩ := getF X106 hx hZ hown (host := "") (Or.inl (hw _ (List.mem_of_getElem? (i := 16) rfl))) Via.refl ee106 Fc108 (g := (mkF m 211 #[.val (.ref a0), .val (.int (2 : Int32)), .val (.int (2 : Int32)), .val (.int (4 : Int32)), .val (.int (2 : Int32)), .val (.int (5 : Int32)), .val (.int (1 : Int32)), .val (.int (0 : Int32)), .val (.int (4 : Int32)), .val (.int (0 : Int32))] [(.ref a0)])) rfl rfl (hb hby own_d4_211)
  refine og_of st109 ?_
  show OG p e below _ _ (T109.setTop (mkF m 214 #[.val (.ref a0), .val (.int (2 : Int32)), .val (.int (2 : Int32)), .val (.int (4 : Int32)), .val (.int (2 : Int32)), .val (.int (5 : Int32)), .val (.int (1 : Int32)), .val (.int (0 : Int32)), .val (.int (4 : Int32)), .val (.int (0 : Int32))] [(.ref s2)]))
  refine o_iload X109 hx rfl (hb hby own_d4_214) rfl ?_
  refine o_iload X109 hx rfl (hb hby own_d4_216) rfl ?_
  refine o_i2b (z := (0 : Int32)) X109 hx rfl (hb hby own_d4_218) (by decide) ?_
  have Fc110 : Arv Z h104 s2 k_s2 .byte (512 : Int32) [(.int (1 : Int32)), (.int (0 : Int32)), (.int (0 : Int32)), (.int (0 : Int32)), (.int (0 : Int32)), (.int (0 : Int32)), (.int (0 : Int32)), (.int (0 : Int32))] (.int (0 : Int32)) := ((V85.other W91 pre27).other W104 pre29)
  obtain ⟨clv111, Arv111, qv111, Sv111, Nv111, Hv111, Gv111⟩ := id Fc110
  have hin112 : ¬ ((1 : Int32) < 0 ∨ clv111.slots.size ≤ ((1 : Int32)).toNatClampNeg) := inb_of Sv111 ⟨by decide, by decide⟩
  obtain ⟨T112, h112, X112, e112, W112, st112⟩ := stB X109 hx hZ e109 Arv111 (j := (1 : Int32)) hin112 (g := (mkF m 219 #[.val (.ref a0), .val (.int (2 : Int32)), .val (.int (2 : Int32)), .val (.int (4 : Int32)), .val (.int (2 : Int32)), .val (.int (5 : Int32)), .val (.int (1 : Int32)), .val (.int (0 : Int32)), .val (.int (4 : Int32)), .val (.int (0 : Int32))] [(.int (0 : Int32)), (.int (1 : Int32)), (.ref s2)])) rfl rfl (hb hby own_d4_219)
  have V112 : Arv Z h112 s2 k_s2 .byte (512 : Int32) [(.int (1 : Int32)), (.int (0 : Int32)), (.int (0 : Int32)), (.int (0 : Int32)), (.int (0 : Int32)), (.int (0 : Int32)), (.int (0 : Int32)), (.int (0 : Int32))] (.int (0 : Int32)) := Arv.set Arv111 qv111 Sv111 Nv111 Hv111 Gv111 (fits_nar_byte _) W112 1 rfl (Nat.le_of_ble_eq_true rfl)
  have N112 := Fr.snoc X112 N107 pre14
  have Kp113 : Keep h0 h112 [a0, s1, s2, s3, s5] := Kp105.wr W112 (Or.inl (List.mem_of_getElem? (i := 2) rfl))
  refine og_of st112 ?_
  show OG p e below _ _ (T112.setTop (mkF m 220 #[.val (.ref a0), .val (.int (2 : Int32)), .val (.int (2 : Int32)), .val (.int (4 : Int32)), .val (.int (2 : Int32)), .val (.int (5 : Int32)), .val (.int (1 : Int32)), .val (.int (0 : Int32)), .val (.int (4 : Int32)), .val (.int (0 : Int32))] []))
  refine o_aloadN X112 hx rfl (hb hby own_d4_220) rfl rfl ?_
  have Fc114 : Fld Z h112 a0 "tidemark/record/FseTable" "bases" "[S" (.ref s3) := (Fld.other W112 (Fld.other W104 (Fld.other W91 Fc87 (Or.inl pre20)) (Or.inl pre22)) (Or.inl pre19))
  obtain ⟨T115, X115, e115, st115⟩ := getF X112 hx hZ hown (host := "") (Or.inl (hw _ (List.mem_of_getElem? (i := 19) rfl))) Via.refl e112 Fc114 (g := (mkF m 221 #[.val (.ref a0), .val (.int (2 : Int32)), .val (.int (2 : Int32)), .val (.int (4 : Int32)), .val (.int (2 : Int32)), .val (.int (5 : Int32)), .val (.int (1 : Int32)), .val (.int (0 : Int32)), .val (.int (4 : Int32)), .val (.int (0 : Int32))] [(.ref a0)])) rfl rfl (hb hby own_d4_221)
  refine og_of st115 ?_
  show OG p e below _ _ (T115.setTop (mkF m 224 #[.val (.ref a0), .val (.int (2 : Int32)), .val (.int (2 : Int32)), .val (.int (4 : Int32)), .val (.int (2 : Int32)), .val (.int (5 : Int32)), .val (.int (1 : Int32)), .val (.int (0 : Int32)), .val (.int (4 : Int32)), .val (.int (0 : Int32))] [(.ref s3)]))
  refine o_iload X115 hx rfl (hb hby own_d4_224) rfl ?_
  refine o_iload X115 hx rfl (hb hby own_d4_226) rfl ?_
  refine o_iload X115 hx rfl (hb hby own_d4_228) rfl ?_
  refine o_ishl (z := (4 : Int32)) X115 hx rfl (hb hby own_d4_230) (by decide) ?_
  refine o_iloadN X115 hx rfl (hb hby own_d4_231) rfl ?_
  refine o_isub (z := (0 : Int32)) X115 hx rfl (hb hby own_d4_232) (by decide) ?_
  refine o_i2s (z := (0 : Int32)) X115 hx rfl (hb hby own_d4_233) (by decide) ?_
  have Fc116 : Arv Z h112 s3 k_s3 .short (512 : Int32) [(.int (2 : Int32)), (.int (0 : Int32)), (.int (0 : Int32)), (.int (0 : Int32)), (.int (0 : Int32)), (.int (0 : Int32)), (.int (0 : Int32)), (.int (0 : Int32))] (.int (0 : Int32)) := ((V91.other W104 pre31).other W112 (Ne.symm pre27))
  obtain ⟨clv117, Arv117, qv117, Sv117, Nv117, Hv117, Gv117⟩ := id Fc116
  have hin118 : ¬ ((1 : Int32) < 0 ∨ clv117.slots.size ≤ ((1 : Int32)).toNatClampNeg) := inb_of Sv117 ⟨by decide, by decide⟩
  obtain ⟨T118, h118, X118, e118, W118, st118⟩ := stS X115 hx hZ e115 Arv117 (j := (1 : Int32)) hin118 (g := (mkF m 234 #[.val (.ref a0), .val (.int (2 : Int32)), .val (.int (2 : Int32)), .val (.int (4 : Int32)), .val (.int (2 : Int32)), .val (.int (5 : Int32)), .val (.int (1 : Int32)), .val (.int (0 : Int32)), .val (.int (4 : Int32)), .val (.int (0 : Int32))] [(.int (0 : Int32)), (.int (1 : Int32)), (.ref s3)])) rfl rfl (hb hby own_d4_234)
  have V118 : Arv Z h118 s3 k_s3 .short (512 : Int32) [(.int (2 : Int32)), (.int (0 : Int32)), (.int (0 : Int32)), (.int (0 : Int32)), (.int (0 : Int32)), (.int (0 : Int32)), (.int (0 : Int32)), (.int (0 : Int32))] (.int (0 : Int32)) := Arv.set Arv117 qv117 Sv117 Nv117 Hv117 Gv117 (fits_nar_short _) W118 1 rfl (Nat.le_of_ble_eq_true rfl)
  have N118 := Fr.snoc X118 N112 pre15
  have Kp119 : Keep h0 h118 [a0, s1, s2, s3, s5] := Kp113.wr W118 (Or.inl (List.mem_of_getElem? (i := 3) rfl))
  refine og_of st118 ?_
  show OG p e below _ _ (T118.setTop (mkF m 235 #[.val (.ref a0), .val (.int (2 : Int32)), .val (.int (2 : Int32)), .val (.int (4 : Int32)), .val (.int (2 : Int32)), .val (.int (5 : Int32)), .val (.int (1 : Int32)), .val (.int (0 : Int32)), .val (.int (4 : Int32)), .val (.int (0 : Int32))] []))
  refine o_iinc (z := (2 : Int32)) X118 hx rfl (hb hby own_d4_235) rfl (by decide) (L' := #[.val (.ref a0), .val (.int (2 : Int32)), .val (.int (2 : Int32)), .val (.int (4 : Int32)), .val (.int (2 : Int32)), .val (.int (5 : Int32)), .val (.int (2 : Int32)), .val (.int (0 : Int32)), .val (.int (4 : Int32)), .val (.int (0 : Int32))]) rfl ?_
  refine o_goto (pc' := 165) X118 hx (hb hby own_d4_238) (by decide) (by decide) ?_
  refine o_iload X118 hx rfl (hb hby own_d4_165) rfl ?_
  refine o_iloadN X118 hx rfl (hb hby own_d4_167) rfl ?_
  refine o_icmpN (pc' := 171) X118 hx rfl (hb hby own_d4_168) (tlt (by decide : ((2 : Int32) < (4 : Int32)))).2.1 ?_
  refine o_aloadN X118 hx rfl (hb hby own_d4_171) rfl rfl ?_
  have Fc120 : Fld Z h118 a0 "tidemark/record/FseTable" "symbols" "[B" (.ref s1) := (Fld.other W118 (Fld.other W112 (Fld.other W104 Fc93 (Or.inl pre22)) (Or.inl pre19)) (Or.inl pre20))
  obtain ⟨T121, X121, e121, st121⟩ := getF X118 hx hZ hown (host := "") (Or.inl (hw _ (List.mem_of_getElem? (i := 14) rfl))) Via.refl e118 Fc120 (g := (mkF m 172 #[.val (.ref a0), .val (.int (2 : Int32)), .val (.int (2 : Int32)), .val (.int (4 : Int32)), .val (.int (2 : Int32)), .val (.int (5 : Int32)), .val (.int (2 : Int32)), .val (.int (0 : Int32)), .val (.int (4 : Int32)), .val (.int (0 : Int32))] [(.ref a0)])) rfl rfl (hb hby own_d4_172)
  refine og_of st121 ?_
  show OG p e below _ _ (T121.setTop (mkF m 175 #[.val (.ref a0), .val (.int (2 : Int32)), .val (.int (2 : Int32)), .val (.int (4 : Int32)), .val (.int (2 : Int32)), .val (.int (5 : Int32)), .val (.int (2 : Int32)), .val (.int (0 : Int32)), .val (.int (4 : Int32)), .val (.int (0 : Int32))] [(.ref s1)]))
  refine o_iload X121 hx rfl (hb hby own_d4_175) rfl ?_
  have Fc122 : Arv Z h118 s1 k_s1 .byte (512 : Int32) [(.int (0 : Int32)), (.int (0 : Int32)), (.int (0 : Int32)), (.int (1 : Int32)), (.int (0 : Int32)), (.int (0 : Int32)), (.int (0 : Int32)), (.int (0 : Int32))] (.int (0 : Int32)) := (((Fc95.other W104 pre26).other W112 pre23).other W118 pre24)
  obtain ⟨clv123, Arv123, qv123, Sv123, Nv123, Hv123, Gv123⟩ := id Fc122
  have hin124 : ¬ ((2 : Int32) < 0 ∨ clv123.slots.size ≤ ((2 : Int32)).toNatClampNeg) := inb_of Sv123 ⟨by decide, by decide⟩
  have hat124 : clv123.slots[((2 : Int32)).toNatClampNeg]? = some (.int (0 : Int32)) := Hv123.at hin124 rfl
  refine og_of (X121.baloadBytes hx (j := (2 : Int32)) (v := (.int (0 : Int32))) (by rw [e121]; exact Arv123.1) (State.isArrayOf_alike hZ.alike Arv123.2.1) Arv123.2.2 hin124 hat124 (g := (mkF m 177 #[.val (.ref a0), .val (.int (2 : Int32)), .val (.int (2 : Int32)), .val (.int (4 : Int32)), .val (.int (2 : Int32)), .val (.int (5 : Int32)), .val (.int (2 : Int32)), .val (.int (0 : Int32)), .val (.int (4 : Int32)), .val (.int (0 : Int32))] [(.int (2 : Int32)), (.ref s1)])) rfl rfl (hb hby own_d4_177)) ?_
  show OG p e below _ _ (T121.setTop (mkF m 178 #[.val (.ref a0), .val (.int (2 : Int32)), .val (.int (2 : Int32)), .val (.int (4 : Int32)), .val (.int (2 : Int32)), .val (.int (5 : Int32)), .val (.int (2 : Int32)), .val (.int (0 : Int32)), .val (.int (4 : Int32)), .val (.int (0 : Int32))] [(.int (0 : Int32))]))
  refine o_sipush (z := (255 : Int32)) X121 hx rfl (hb hby own_d4_178) (by decide) ?_
  refine o_iand (z := (0 : Int32)) X121 hx rfl (hb hby own_d4_181) (by decide) ?_
  refine o_istore X121 hx rfl (hb hby own_d4_182) (L' := #[.val (.ref a0), .val (.int (2 : Int32)), .val (.int (2 : Int32)), .val (.int (4 : Int32)), .val (.int (2 : Int32)), .val (.int (5 : Int32)), .val (.int (2 : Int32)), .val (.int (0 : Int32)), .val (.int (4 : Int32)), .val (.int (0 : Int32))]) rfl ?_
  refine o_aloadN X121 hx rfl (hb hby own_d4_184) rfl rfl ?_
  have Fc125 : Fld Z h118 a0 "tidemark/record/FseTable" "next" "[I" (.ref s5) := (Fld.other W118 (Fld.other W112 (Fld.other W104 Fc98 (Or.inl pre22)) (Or.inl pre19)) (Or.inl pre20))
  obtain ⟨T126, X126, e126, st126⟩ := getF X121 hx hZ hown (host := "") (Or.inl (hw _ (List.mem_of_getElem? (i := 23) rfl))) Via.refl e121 Fc125 (g := (mkF m 185 #[.val (.ref a0), .val (.int (2 : Int32)), .val (.int (2 : Int32)), .val (.int (4 : Int32)), .val (.int (2 : Int32)), .val (.int (5 : Int32)), .val (.int (2 : Int32)), .val (.int (0 : Int32)), .val (.int (4 : Int32)), .val (.int (0 : Int32))] [(.ref a0)])) rfl rfl (hb hby own_d4_185)
  refine og_of st126 ?_
  show OG p e below _ _ (T126.setTop (mkF m 188 #[.val (.ref a0), .val (.int (2 : Int32)), .val (.int (2 : Int32)), .val (.int (4 : Int32)), .val (.int (2 : Int32)), .val (.int (5 : Int32)), .val (.int (2 : Int32)), .val (.int (0 : Int32)), .val (.int (4 : Int32)), .val (.int (0 : Int32))] [(.ref s5)]))
  refine o_iload X126 hx rfl (hb hby own_d4_188) rfl ?_
  refine o_dup2 X126 hx rfl (hb hby own_d4_190) rfl rfl ?_
  have Fc127 : Arv Z h118 s5 k_s5 .int (256 : Int32) [(.int (5 : Int32)), (.int (1 : Int32)), (.int (0 : Int32)), (.int (0 : Int32)), (.int (0 : Int32)), (.int (0 : Int32)), (.int (0 : Int32)), (.int (0 : Int32))] (.int (0 : Int32)) := ((V104.other W112 (Ne.symm pre29)).other W118 (Ne.symm pre31))
  obtain ⟨clv128, Arv128, qv128, Sv128, Nv128, Hv128, Gv128⟩ := id Fc127
  have hin129 : ¬ ((0 : Int32) < 0 ∨ clv128.slots.size ≤ ((0 : Int32)).toNatClampNeg) := inb_of Sv128 ⟨by decide, by decide⟩
  have hat129 : clv128.slots[((0 : Int32)).toNatClampNeg]? = some (.int (5 : Int32)) := Hv128.at hin129 rfl
  refine og_of (X126.iaload hx (j := (0 : Int32)) (v := (.int (5 : Int32))) (by rw [e126]; exact Arv128.1) (State.isArrayOf_alike hZ.alike Arv128.2.1) Arv128.2.2 hin129 hat129 (g := (mkF m 191 #[.val (.ref a0), .val (.int (2 : Int32)), .val (.int (2 : Int32)), .val (.int (4 : Int32)), .val (.int (2 : Int32)), .val (.int (5 : Int32)), .val (.int (2 : Int32)), .val (.int (0 : Int32)), .val (.int (4 : Int32)), .val (.int (0 : Int32))] [(.int (0 : Int32)), (.ref s5), (.int (0 : Int32)), (.ref s5)])) rfl rfl (hb hby own_d4_191)) ?_
  show OG p e below _ _ (T126.setTop (mkF m 192 #[.val (.ref a0), .val (.int (2 : Int32)), .val (.int (2 : Int32)), .val (.int (4 : Int32)), .val (.int (2 : Int32)), .val (.int (5 : Int32)), .val (.int (2 : Int32)), .val (.int (0 : Int32)), .val (.int (4 : Int32)), .val (.int (0 : Int32))] [(.int (5 : Int32)), (.int (0 : Int32)), (.ref s5)]))
  refine o_dup_x2 X126 hx rfl (hb hby own_d4_192) rfl rfl rfl ?_
  refine o_iconst (z := (1 : Int32)) X126 hx rfl (hb hby own_d4_193) (by decide) ?_
  refine o_iadd (z := (6 : Int32)) X126 hx rfl (hb hby own_d4_194) (by decide) ?_
  obtain ⟨clv130, Arv130, qv130, Sv130, Nv130, Hv130, Gv130⟩ := id Fc127
  have hin131 : ¬ ((0 : Int32) < 0 ∨ clv130.slots.size ≤ ((0 : Int32)).toNatClampNeg) := inb_of Sv130 ⟨by decide, by decide⟩
  obtain ⟨T131, h131, X131, e131, W131, st131⟩ := stI X126 hx hZ e126 Arv130 (j := (0 : Int32)) hin131 (g := (mkF m 195 #[.val (.ref a0), .val (.int (2 : Int32)), .val (.int (2 : Int32)), .val (.int (4 : Int32)), .val (.int (2 : Int32)), .val (.int (5 : Int32)), .val (.int (2 : Int32)), .val (.int (0 : Int32)), .val (.int (4 : Int32)), .val (.int (0 : Int32))] [(.int (6 : Int32)), (.int (0 : Int32)), (.ref s5), (.int (5 : Int32))])) rfl rfl (hb hby own_d4_195)
  have V131 : Arv Z h131 s5 k_s5 .int (256 : Int32) [(.int (6 : Int32)), (.int (1 : Int32)), (.int (0 : Int32)), (.int (0 : Int32)), (.int (0 : Int32)), (.int (0 : Int32)), (.int (0 : Int32)), (.int (0 : Int32))] (.int (0 : Int32)) := Arv.set Arv130 qv130 Sv130 Nv130 Hv130 Gv130 rfl W131 0 rfl (Nat.le_of_ble_eq_true rfl)
  have N131 := Fr.snoc X131 N118 pre17
  have Kp132 : Keep h0 h131 [a0, s1, s2, s3, s5] := Kp119.wr W131 (Or.inl (List.mem_of_getElem? (i := 4) rfl))
  refine og_of st131 ?_
  show OG p e below _ _ (T131.setTop (mkF m 196 #[.val (.ref a0), .val (.int (2 : Int32)), .val (.int (2 : Int32)), .val (.int (4 : Int32)), .val (.int (2 : Int32)), .val (.int (5 : Int32)), .val (.int (2 : Int32)), .val (.int (0 : Int32)), .val (.int (4 : Int32)), .val (.int (0 : Int32))] [(.int (5 : Int32))]))
  refine o_istore X131 hx rfl (hb hby own_d4_196) (L' := #[.val (.ref a0), .val (.int (2 : Int32)), .val (.int (2 : Int32)), .val (.int (4 : Int32)), .val (.int (2 : Int32)), .val (.int (5 : Int32)), .val (.int (2 : Int32)), .val (.int (0 : Int32)), .val (.int (5 : Int32)), .val (.int (0 : Int32))]) rfl ?_
  refine o_iloadN X131 hx rfl (hb hby own_d4_198) rfl ?_
  refine o_bipush (z := (31 : Int32)) X131 hx rfl (hb hby own_d4_199) (by decide) ?_
  refine o_iload X131 hx rfl (hb hby own_d4_201) rfl ?_
  obtain ⟨_, _, ⟨T133, L133, k133, n133⟩, -, X133, ⟨Lc133, hQ133, l133, y133, z133⟩, st133⟩ := Jvm.LawKit.callS X131 hx (y := (⟨"java/lang/Integer", "numberOfLeadingZeros", "(I)I"⟩ : MethodName)) hown (mvT hZ (hw _ (List.mem_of_getElem? (i := 29) rfl))) (mvT hZ (hw _ (List.mem_of_getElem? (i := 30) rfl))) (mvT hZ (hw _ (List.mem_of_getElem? (i := 31) rfl))) (mvT hZ (hw _ (List.mem_of_getElem? (i := 32) rfl))) (by decide) (backOf (W := 2) (own_rmz5 l Z aA hw []  h131 n0 (Nat.le_trans (Nat.le_trans (Nat.le_trans (Nat.le_trans (Nat.le_trans (Nat.le_trans (Nat.le_trans (Nat.le_trans (Nat.le_trans (Nat.le_trans (Nat.le_trans (Nat.le_trans (Nat.le_trans Z0 (Keep.of_wr W9).1) (Keep.of_wr W20).1) (Keep.of_wr W26).1) (Keep.of_wr W37).1) (Keep.of_wr W47).1) (Keep.of_wr W57).1) (Keep.of_wr W77).1) (Keep.of_wr W85).1) (Keep.of_wr W91).1) (Keep.of_wr W104).1) (Keep.of_wr W112).1) (Keep.of_wr W118).1) (Keep.of_wr W131).1)) hZ (hw _ (List.mem_of_getElem? (i := 32) rfl)) (hw _ (List.mem_of_getElem? (i := 31) rfl)) (by decide) (by decide)) (g := (mkF m 203 #[.val (.ref a0), .val (.int (2 : Int32)), .val (.int (2 : Int32)), .val (.int (4 : Int32)), .val (.int (2 : Int32)), .val (.int (5 : Int32)), .val (.int (2 : Int32)), .val (.int (0 : Int32)), .val (.int (5 : Int32)), .val (.int (0 : Int32))] [(.int (5 : Int32)), (.int (31 : Int32)), (.int (2 : Int32))])) rfl (by rw [hml]; rfl) (argsL := [(.int (5 : Int32))]) (rest := [(.int (31 : Int32)), (.int (2 : Int32))]) (lenOf own_pd0 rfl) rfl (by show 2 * 0 + _ ≤ _; exact Nat.le_of_eq rfl) (hb hby own_d4_203) (fun _ _ => ⟨rfl, e131, Nat.le_of_ble_eq_true rfl, Nat.le_of_ble_eq_true rfl⟩)
  dsimp only [Pt.U, Pt.locs, Pt.cells, Pt.slots] at X133 l133 y133 z133 st133 hQ133
  subst l133 y133 z133
  obtain ⟨rfl, N133q, ee133⟩ := hQ133
  have N134 := Fr.app N131 N133q
  refine og_of st133 ?_
  show OG p e below _ _ (T133.setTop (mkF m 206 #[.val (.ref a0), .val (.int (2 : Int32)), .val (.int (2 : Int32)), .val (.int (4 : Int32)), .val (.int (2 : Int32)), .val (.int (5 : Int32)), .val (.int (2 : Int32)), .val (.int (0 : Int32)), .val (.int (5 : Int32)), .val (.int (0 : Int32))] [(.int (29 : Int32)), (.int (31 : Int32)), (.int (2 : Int32))]))
  refine o_isub (z := (2 : Int32)) X133 hx rfl (hb hby own_d4_206) (by decide) ?_
  refine o_isub (z := (0 : Int32)) X133 hx rfl (hb hby own_d4_207) (by decide) ?_
  refine o_istore X133 hx rfl (hb hby own_d4_208) (L' := #[.val (.ref a0), .val (.int (2 : Int32)), .val (.int (2 : Int32)), .val (.int (4 : Int32)), .val (.int (2 : Int32)), .val (.int (5 : Int32)), .val (.int (2 : Int32)), .val (.int (0 : Int32)), .val (.int (5 : Int32)), .val (.int (0 : Int32))]) rfl ?_
  refine o_aloadN X133 hx rfl (hb hby own_d4_210) rfl rfl ?_
  have Fc135 : Fld Z h131 a0 "tidemark/record/FseTable" "bits" "[B" (.ref s2) := (Fld.other W131 (Fld.other W118 (Fld.other W112 Fc108 (Or.inl pre19)) (Or.inl pre20)) (Or.inl pre22))
  obtain ⟨T136, X136, e136, st136⟩ := getF X133 hx hZ hown (host := "") (Or.inl (hw _ (List.mem_of_getElem? (i := 16) rfl))) Via.refl ee133 Fc135 (g := (mkF m 211 #[.val (.ref a0), .val (.int (2 : Int32)), .val (.int (2 : Int32)), .val (.int (4 : Int32)), .val (.int (2 : Int32)), .val (.int (5 : Int32)), .val (.int (2 : Int32)), .val (.int (0 : Int32)), .val (.int (5 : Int32)), .val (.int (0 : Int32))] [(.ref a0)])) rfl rfl (hb hby own_d4_211)
  refine og_of st136 ?_
  show OG p e below _ _ (T136.setTop (mkF m 214 #[.val (.ref a0), .val (.int (2 : Int32)), .val (.int (2 : Int32)), .val (.int (4 : Int32)), .val (.int (2 : Int32)), .val (.int (5 : Int32)), .val (.int (2 : Int32)), .val (.int (0 : Int32)), .val (.int (5 : Int32)), .val (.int (0 : Int32))] [(.ref s2)]))
  refine o_iload X136 hx rfl (hb hby own_d4_214) rfl ?_
  refine o_iload X136 hx rfl (hb hby own_d4_216) rfl ?_
  refine o_i2b (z := (0 : Int32)) X136 hx rfl (hb hby own_d4_218) (by decide) ?_
  have Fc137 : Arv Z h131 s2 k_s2 .byte (512 : Int32) [(.int (1 : Int32)), (.int (0 : Int32)), (.int (0 : Int32)), (.int (0 : Int32)), (.int (0 : Int32)), (.int (0 : Int32)), (.int (0 : Int32)), (.int (0 : Int32))] (.int (0 : Int32)) := ((V112.other W118 pre27).other W131 pre29)
  obtain ⟨clv138, Arv138, qv138, Sv138, Nv138, Hv138, Gv138⟩ := id Fc137
  have hin139 : ¬ ((2 : Int32) < 0 ∨ clv138.slots.size ≤ ((2 : Int32)).toNatClampNeg) := inb_of Sv138 ⟨by decide, by decide⟩
  obtain ⟨T139, h139, X139, e139, W139, st139⟩ := stB X136 hx hZ e136 Arv138 (j := (2 : Int32)) hin139 (g := (mkF m 219 #[.val (.ref a0), .val (.int (2 : Int32)), .val (.int (2 : Int32)), .val (.int (4 : Int32)), .val (.int (2 : Int32)), .val (.int (5 : Int32)), .val (.int (2 : Int32)), .val (.int (0 : Int32)), .val (.int (5 : Int32)), .val (.int (0 : Int32))] [(.int (0 : Int32)), (.int (2 : Int32)), (.ref s2)])) rfl rfl (hb hby own_d4_219)
  have V139 : Arv Z h139 s2 k_s2 .byte (512 : Int32) [(.int (1 : Int32)), (.int (0 : Int32)), (.int (0 : Int32)), (.int (0 : Int32)), (.int (0 : Int32)), (.int (0 : Int32)), (.int (0 : Int32)), (.int (0 : Int32))] (.int (0 : Int32)) := Arv.set Arv138 qv138 Sv138 Nv138 Hv138 Gv138 (fits_nar_byte _) W139 2 rfl (Nat.le_of_ble_eq_true rfl)
  have N139 := Fr.snoc X139 N134 pre14
  have Kp140 : Keep h0 h139 [a0, s1, s2, s3, s5] := Kp132.wr W139 (Or.inl (List.mem_of_getElem? (i := 2) rfl))
  refine og_of st139 ?_
  show OG p e below _ _ (T139.setTop (mkF m 220 #[.val (.ref a0), .val (.int (2 : Int32)), .val (.int (2 : Int32)), .val (.int (4 : Int32)), .val (.int (2 : Int32)), .val (.int (5 : Int32)), .val (.int (2 : Int32)), .val (.int (0 : Int32)), .val (.int (5 : Int32)), .val (.int (0 : Int32))] []))
  refine o_aloadN X139 hx rfl (hb hby own_d4_220) rfl rfl ?_
  have Fc141 : Fld Z h139 a0 "tidemark/record/FseTable" "bases" "[S" (.ref s3) := (Fld.other W139 (Fld.other W131 (Fld.other W118 Fc114 (Or.inl pre20)) (Or.inl pre22)) (Or.inl pre19))
  obtain ⟨T142, X142, e142, st142⟩ := getF X139 hx hZ hown (host := "") (Or.inl (hw _ (List.mem_of_getElem? (i := 19) rfl))) Via.refl e139 Fc141 (g := (mkF m 221 #[.val (.ref a0), .val (.int (2 : Int32)), .val (.int (2 : Int32)), .val (.int (4 : Int32)), .val (.int (2 : Int32)), .val (.int (5 : Int32)), .val (.int (2 : Int32)), .val (.int (0 : Int32)), .val (.int (5 : Int32)), .val (.int (0 : Int32))] [(.ref a0)])) rfl rfl (hb hby own_d4_221)
  refine og_of st142 ?_
  show OG p e below _ _ (T142.setTop (mkF m 224 #[.val (.ref a0), .val (.int (2 : Int32)), .val (.int (2 : Int32)), .val (.int (4 : Int32)), .val (.int (2 : Int32)), .val (.int (5 : Int32)), .val (.int (2 : Int32)), .val (.int (0 : Int32)), .val (.int (5 : Int32)), .val (.int (0 : Int32))] [(.ref s3)]))
  refine o_iload X142 hx rfl (hb hby own_d4_224) rfl ?_
  refine o_iload X142 hx rfl (hb hby own_d4_226) rfl ?_
  refine o_iload X142 hx rfl (hb hby own_d4_228) rfl ?_
  refine o_ishl (z := (5 : Int32)) X142 hx rfl (hb hby own_d4_230) (by decide) ?_
  refine o_iloadN X142 hx rfl (hb hby own_d4_231) rfl ?_
  refine o_isub (z := (1 : Int32)) X142 hx rfl (hb hby own_d4_232) (by decide) ?_
  refine o_i2s (z := (1 : Int32)) X142 hx rfl (hb hby own_d4_233) (by decide) ?_
  have Fc143 : Arv Z h139 s3 k_s3 .short (512 : Int32) [(.int (2 : Int32)), (.int (0 : Int32)), (.int (0 : Int32)), (.int (0 : Int32)), (.int (0 : Int32)), (.int (0 : Int32)), (.int (0 : Int32)), (.int (0 : Int32))] (.int (0 : Int32)) := ((V118.other W131 pre31).other W139 (Ne.symm pre27))
  obtain ⟨clv144, Arv144, qv144, Sv144, Nv144, Hv144, Gv144⟩ := id Fc143
  have hin145 : ¬ ((2 : Int32) < 0 ∨ clv144.slots.size ≤ ((2 : Int32)).toNatClampNeg) := inb_of Sv144 ⟨by decide, by decide⟩
  obtain ⟨T145, h145, X145, e145, W145, st145⟩ := stS X142 hx hZ e142 Arv144 (j := (2 : Int32)) hin145 (g := (mkF m 234 #[.val (.ref a0), .val (.int (2 : Int32)), .val (.int (2 : Int32)), .val (.int (4 : Int32)), .val (.int (2 : Int32)), .val (.int (5 : Int32)), .val (.int (2 : Int32)), .val (.int (0 : Int32)), .val (.int (5 : Int32)), .val (.int (0 : Int32))] [(.int (1 : Int32)), (.int (2 : Int32)), (.ref s3)])) rfl rfl (hb hby own_d4_234)
  have V145 : Arv Z h145 s3 k_s3 .short (512 : Int32) [(.int (2 : Int32)), (.int (0 : Int32)), (.int (1 : Int32)), (.int (0 : Int32)), (.int (0 : Int32)), (.int (0 : Int32)), (.int (0 : Int32)), (.int (0 : Int32))] (.int (0 : Int32)) := Arv.set Arv144 qv144 Sv144 Nv144 Hv144 Gv144 (fits_nar_short _) W145 2 rfl (Nat.le_of_ble_eq_true rfl)
  have N145 := Fr.snoc X145 N139 pre15
  have Kp146 : Keep h0 h145 [a0, s1, s2, s3, s5] := Kp140.wr W145 (Or.inl (List.mem_of_getElem? (i := 3) rfl))
  refine og_of st145 ?_
  show OG p e below _ _ (T145.setTop (mkF m 235 #[.val (.ref a0), .val (.int (2 : Int32)), .val (.int (2 : Int32)), .val (.int (4 : Int32)), .val (.int (2 : Int32)), .val (.int (5 : Int32)), .val (.int (2 : Int32)), .val (.int (0 : Int32)), .val (.int (5 : Int32)), .val (.int (0 : Int32))] []))
  refine o_iinc (z := (3 : Int32)) X145 hx rfl (hb hby own_d4_235) rfl (by decide) (L' := #[.val (.ref a0), .val (.int (2 : Int32)), .val (.int (2 : Int32)), .val (.int (4 : Int32)), .val (.int (2 : Int32)), .val (.int (5 : Int32)), .val (.int (3 : Int32)), .val (.int (0 : Int32)), .val (.int (5 : Int32)), .val (.int (0 : Int32))]) rfl ?_
  refine o_goto (pc' := 165) X145 hx (hb hby own_d4_238) (by decide) (by decide) ?_
  refine o_iload X145 hx rfl (hb hby own_d4_165) rfl ?_
  refine o_iloadN X145 hx rfl (hb hby own_d4_167) rfl ?_
  refine o_icmpN (pc' := 171) X145 hx rfl (hb hby own_d4_168) (tlt (by decide : ((3 : Int32) < (4 : Int32)))).2.1 ?_
  refine o_aloadN X145 hx rfl (hb hby own_d4_171) rfl rfl ?_
  have Fc147 : Fld Z h145 a0 "tidemark/record/FseTable" "symbols" "[B" (.ref s1) := (Fld.other W145 (Fld.other W139 (Fld.other W131 Fc120 (Or.inl pre22)) (Or.inl pre19)) (Or.inl pre20))
  obtain ⟨T148, X148, e148, st148⟩ := getF X145 hx hZ hown (host := "") (Or.inl (hw _ (List.mem_of_getElem? (i := 14) rfl))) Via.refl e145 Fc147 (g := (mkF m 172 #[.val (.ref a0), .val (.int (2 : Int32)), .val (.int (2 : Int32)), .val (.int (4 : Int32)), .val (.int (2 : Int32)), .val (.int (5 : Int32)), .val (.int (3 : Int32)), .val (.int (0 : Int32)), .val (.int (5 : Int32)), .val (.int (0 : Int32))] [(.ref a0)])) rfl rfl (hb hby own_d4_172)
  refine og_of st148 ?_
  show OG p e below _ _ (T148.setTop (mkF m 175 #[.val (.ref a0), .val (.int (2 : Int32)), .val (.int (2 : Int32)), .val (.int (4 : Int32)), .val (.int (2 : Int32)), .val (.int (5 : Int32)), .val (.int (3 : Int32)), .val (.int (0 : Int32)), .val (.int (5 : Int32)), .val (.int (0 : Int32))] [(.ref s1)]))
  refine o_iload X148 hx rfl (hb hby own_d4_175) rfl ?_
  have Fc149 : Arv Z h145 s1 k_s1 .byte (512 : Int32) [(.int (0 : Int32)), (.int (0 : Int32)), (.int (0 : Int32)), (.int (1 : Int32)), (.int (0 : Int32)), (.int (0 : Int32)), (.int (0 : Int32)), (.int (0 : Int32))] (.int (0 : Int32)) := (((Fc122.other W131 pre26).other W139 pre23).other W145 pre24)
  obtain ⟨clv150, Arv150, qv150, Sv150, Nv150, Hv150, Gv150⟩ := id Fc149
  have hin151 : ¬ ((3 : Int32) < 0 ∨ clv150.slots.size ≤ ((3 : Int32)).toNatClampNeg) := inb_of Sv150 ⟨by decide, by decide⟩
  have hat151 : clv150.slots[((3 : Int32)).toNatClampNeg]? = some (.int (1 : Int32)) := Hv150.at hin151 rfl
  refine og_of (X148.baloadBytes hx (j := (3 : Int32)) (v := (.int (1 : Int32))) (by rw [e148]; exact Arv150.1) (State.isArrayOf_alike hZ.alike Arv150.2.1) Arv150.2.2 hin151 hat151 (g := (mkF m 177 #[.val (.ref a0), .val (.int (2 : Int32)), .val (.int (2 : Int32)), .val (.int (4 : Int32)), .val (.int (2 : Int32)), .val (.int (5 : Int32)), .val (.int (3 : Int32)), .val (.int (0 : Int32)), .val (.int (5 : Int32)), .val (.int (0 : Int32))] [(.int (3 : Int32)), (.ref s1)])) rfl rfl (hb hby own_d4_177)) ?_
  show OG p e below _ _ (T148.setTop (mkF m 178 #[.val (.ref a0), .val (.int (2 : Int32)), .val (.int (2 : Int32)), .val (.int (4 : Int32)), .val (.int (2 : Int32)), .val (.int (5 : Int32)), .val (.int (3 : Int32)), .val (.int (0 : Int32)), .val (.int (5 : Int32)), .val (.int (0 : Int32))] [(.int (1 : Int32))]))
  refine o_sipush (z := (255 : Int32)) X148 hx rfl (hb hby own_d4_178) (by decide) ?_
  refine o_iand (z := (1 : Int32)) X148 hx rfl (hb hby own_d4_181) (by decide) ?_
  refine o_istore X148 hx rfl (hb hby own_d4_182) (L' := #[.val (.ref a0), .val (.int (2 : Int32)), .val (.int (2 : Int32)), .val (.int (4 : Int32)), .val (.int (2 : Int32)), .val (.int (5 : Int32)), .val (.int (3 : Int32)), .val (.int (1 : Int32)), .val (.int (5 : Int32)), .val (.int (0 : Int32))]) rfl ?_
  refine o_aloadN X148 hx rfl (hb hby own_d4_184) rfl rfl ?_
  have Fc152 : Fld Z h145 a0 "tidemark/record/FseTable" "next" "[I" (.ref s5) := (Fld.other W145 (Fld.other W139 (Fld.other W131 Fc125 (Or.inl pre22)) (Or.inl pre19)) (Or.inl pre20))
  obtain ⟨T153, X153, e153, st153⟩ := getF X148 hx hZ hown (host := "") (Or.inl (hw _ (List.mem_of_getElem? (i := 23) rfl))) Via.refl e148 Fc152 (g := (mkF m 185 #[.val (.ref a0), .val (.int (2 : Int32)), .val (.int (2 : Int32)), .val (.int (4 : Int32)), .val (.int (2 : Int32)), .val (.int (5 : Int32)), .val (.int (3 : Int32)), .val (.int (1 : Int32)), .val (.int (5 : Int32)), .val (.int (0 : Int32))] [(.ref a0)])) rfl rfl (hb hby own_d4_185)
  refine og_of st153 ?_
  show OG p e below _ _ (T153.setTop (mkF m 188 #[.val (.ref a0), .val (.int (2 : Int32)), .val (.int (2 : Int32)), .val (.int (4 : Int32)), .val (.int (2 : Int32)), .val (.int (5 : Int32)), .val (.int (3 : Int32)), .val (.int (1 : Int32)), .val (.int (5 : Int32)), .val (.int (0 : Int32))] [(.ref s5)]))
  refine o_iload X153 hx rfl (hb hby own_d4_188) rfl ?_
  refine o_dup2 X153 hx rfl (hb hby own_d4_190) rfl rfl ?_
  have Fc154 : Arv Z h145 s5 k_s5 .int (256 : Int32) [(.int (6 : Int32)), (.int (1 : Int32)), (.int (0 : Int32)), (.int (0 : Int32)), (.int (0 : Int32)), (.int (0 : Int32)), (.int (0 : Int32)), (.int (0 : Int32))] (.int (0 : Int32)) := ((V131.other W139 (Ne.symm pre29)).other W145 (Ne.symm pre31))
  obtain ⟨clv155, Arv155, qv155, Sv155, Nv155, Hv155, Gv155⟩ := id Fc154
  have hin156 : ¬ ((1 : Int32) < 0 ∨ clv155.slots.size ≤ ((1 : Int32)).toNatClampNeg) := inb_of Sv155 ⟨by decide, by decide⟩
  have hat156 : clv155.slots[((1 : Int32)).toNatClampNeg]? = some (.int (1 : Int32)) := Hv155.at hin156 rfl
  refine og_of (X153.iaload hx (j := (1 : Int32)) (v := (.int (1 : Int32))) (by rw [e153]; exact Arv155.1) (State.isArrayOf_alike hZ.alike Arv155.2.1) Arv155.2.2 hin156 hat156 (g := (mkF m 191 #[.val (.ref a0), .val (.int (2 : Int32)), .val (.int (2 : Int32)), .val (.int (4 : Int32)), .val (.int (2 : Int32)), .val (.int (5 : Int32)), .val (.int (3 : Int32)), .val (.int (1 : Int32)), .val (.int (5 : Int32)), .val (.int (0 : Int32))] [(.int (1 : Int32)), (.ref s5), (.int (1 : Int32)), (.ref s5)])) rfl rfl (hb hby own_d4_191)) ?_
  show OG p e below _ _ (T153.setTop (mkF m 192 #[.val (.ref a0), .val (.int (2 : Int32)), .val (.int (2 : Int32)), .val (.int (4 : Int32)), .val (.int (2 : Int32)), .val (.int (5 : Int32)), .val (.int (3 : Int32)), .val (.int (1 : Int32)), .val (.int (5 : Int32)), .val (.int (0 : Int32))] [(.int (1 : Int32)), (.int (1 : Int32)), (.ref s5)]))
  refine o_dup_x2 X153 hx rfl (hb hby own_d4_192) rfl rfl rfl ?_
  refine o_iconst (z := (1 : Int32)) X153 hx rfl (hb hby own_d4_193) (by decide) ?_
  refine o_iadd (z := (2 : Int32)) X153 hx rfl (hb hby own_d4_194) (by decide) ?_
  obtain ⟨clv157, Arv157, qv157, Sv157, Nv157, Hv157, Gv157⟩ := id Fc154
  have hin158 : ¬ ((1 : Int32) < 0 ∨ clv157.slots.size ≤ ((1 : Int32)).toNatClampNeg) := inb_of Sv157 ⟨by decide, by decide⟩
  obtain ⟨T158, h158, X158, e158, W158, st158⟩ := stI X153 hx hZ e153 Arv157 (j := (1 : Int32)) hin158 (g := (mkF m 195 #[.val (.ref a0), .val (.int (2 : Int32)), .val (.int (2 : Int32)), .val (.int (4 : Int32)), .val (.int (2 : Int32)), .val (.int (5 : Int32)), .val (.int (3 : Int32)), .val (.int (1 : Int32)), .val (.int (5 : Int32)), .val (.int (0 : Int32))] [(.int (2 : Int32)), (.int (1 : Int32)), (.ref s5), (.int (1 : Int32))])) rfl rfl (hb hby own_d4_195)
  have V158 : Arv Z h158 s5 k_s5 .int (256 : Int32) [(.int (6 : Int32)), (.int (2 : Int32)), (.int (0 : Int32)), (.int (0 : Int32)), (.int (0 : Int32)), (.int (0 : Int32)), (.int (0 : Int32)), (.int (0 : Int32))] (.int (0 : Int32)) := Arv.set Arv157 qv157 Sv157 Nv157 Hv157 Gv157 rfl W158 1 rfl (Nat.le_of_ble_eq_true rfl)
  have N158 := Fr.snoc X158 N145 pre17
  have Kp159 : Keep h0 h158 [a0, s1, s2, s3, s5] := Kp146.wr W158 (Or.inl (List.mem_of_getElem? (i := 4) rfl))
  refine og_of st158 ?_
  show OG p e below _ _ (T158.setTop (mkF m 196 #[.val (.ref a0), .val (.int (2 : Int32)), .val (.int (2 : Int32)), .val (.int (4 : Int32)), .val (.int (2 : Int32)), .val (.int (5 : Int32)), .val (.int (3 : Int32)), .val (.int (1 : Int32)), .val (.int (5 : Int32)), .val (.int (0 : Int32))] [(.int (1 : Int32))]))
  refine o_istore X158 hx rfl (hb hby own_d4_196) (L' := #[.val (.ref a0), .val (.int (2 : Int32)), .val (.int (2 : Int32)), .val (.int (4 : Int32)), .val (.int (2 : Int32)), .val (.int (5 : Int32)), .val (.int (3 : Int32)), .val (.int (1 : Int32)), .val (.int (1 : Int32)), .val (.int (0 : Int32))]) rfl ?_
  refine o_iloadN X158 hx rfl (hb hby own_d4_198) rfl ?_
  refine o_bipush (z := (31 : Int32)) X158 hx rfl (hb hby own_d4_199) (by decide) ?_
  refine o_iload X158 hx rfl (hb hby own_d4_201) rfl ?_
  obtain ⟨_, _, ⟨T160, L160, k160, n160⟩, -, X160, ⟨Lc160, hQ160, l160, y160, z160⟩, st160⟩ := Jvm.LawKit.callS X158 hx (y := (⟨"java/lang/Integer", "numberOfLeadingZeros", "(I)I"⟩ : MethodName)) hown (mvT hZ (hw _ (List.mem_of_getElem? (i := 29) rfl))) (mvT hZ (hw _ (List.mem_of_getElem? (i := 30) rfl))) (mvT hZ (hw _ (List.mem_of_getElem? (i := 31) rfl))) (mvT hZ (hw _ (List.mem_of_getElem? (i := 32) rfl))) (by decide) (backOf (W := 2) (own_rmz1 l Z aA hw []  h158 n0 (Nat.le_trans (Nat.le_trans (Nat.le_trans (Nat.le_trans (Nat.le_trans (Nat.le_trans (Nat.le_trans (Nat.le_trans (Nat.le_trans (Nat.le_trans (Nat.le_trans (Nat.le_trans (Nat.le_trans (Nat.le_trans (Nat.le_trans (Nat.le_trans Z0 (Keep.of_wr W9).1) (Keep.of_wr W20).1) (Keep.of_wr W26).1) (Keep.of_wr W37).1) (Keep.of_wr W47).1) (Keep.of_wr W57).1) (Keep.of_wr W77).1) (Keep.of_wr W85).1) (Keep.of_wr W91).1) (Keep.of_wr W104).1) (Keep.of_wr W112).1) (Keep.of_wr W118).1) (Keep.of_wr W131).1) (Keep.of_wr W139).1) (Keep.of_wr W145).1) (Keep.of_wr W158).1)) hZ (hw _ (List.mem_of_getElem? (i := 32) rfl)) (hw _ (List.mem_of_getElem? (i := 31) rfl)) (by decide) (by decide)) (g := (mkF m 203 #[.val (.ref a0), .val (.int (2 : Int32)), .val (.int (2 : Int32)), .val (.int (4 : Int32)), .val (.int (2 : Int32)), .val (.int (5 : Int32)), .val (.int (3 : Int32)), .val (.int (1 : Int32)), .val (.int (1 : Int32)), .val (.int (0 : Int32))] [(.int (1 : Int32)), (.int (31 : Int32)), (.int (2 : Int32))])) rfl (by rw [hml]; rfl) (argsL := [(.int (1 : Int32))]) (rest := [(.int (31 : Int32)), (.int (2 : Int32))]) (lenOf own_pd0 rfl) rfl (by show 2 * 0 + _ ≤ _; exact Nat.le_of_eq rfl) (hb hby own_d4_203) (fun _ _ => ⟨rfl, e158, Nat.le_of_ble_eq_true rfl, Nat.le_of_ble_eq_true rfl⟩)
  dsimp only [Pt.U, Pt.locs, Pt.cells, Pt.slots] at X160 l160 y160 z160 st160 hQ160
  subst l160 y160 z160
  obtain ⟨rfl, N160q, ee160⟩ := hQ160
  have N161 := Fr.app N158 N160q
  refine og_of st160 ?_
  show OG p e below _ _ (T160.setTop (mkF m 206 #[.val (.ref a0), .val (.int (2 : Int32)), .val (.int (2 : Int32)), .val (.int (4 : Int32)), .val (.int (2 : Int32)), .val (.int (5 : Int32)), .val (.int (3 : Int32)), .val (.int (1 : Int32)), .val (.int (1 : Int32)), .val (.int (0 : Int32))] [(.int (31 : Int32)), (.int (31 : Int32)), (.int (2 : Int32))]))
  refine o_isub (z := (0 : Int32)) X160 hx rfl (hb hby own_d4_206) (by decide) ?_
  refine o_isub (z := (2 : Int32)) X160 hx rfl (hb hby own_d4_207) (by decide) ?_
  refine o_istore X160 hx rfl (hb hby own_d4_208) (L' := #[.val (.ref a0), .val (.int (2 : Int32)), .val (.int (2 : Int32)), .val (.int (4 : Int32)), .val (.int (2 : Int32)), .val (.int (5 : Int32)), .val (.int (3 : Int32)), .val (.int (1 : Int32)), .val (.int (1 : Int32)), .val (.int (2 : Int32))]) rfl ?_
  refine o_aloadN X160 hx rfl (hb hby own_d4_210) rfl rfl ?_
  have Fc162 : Fld Z h158 a0 "tidemark/record/FseTable" "bits" "[B" (.ref s2) := (Fld.other W158 (Fld.other W145 (Fld.other W139 Fc135 (Or.inl pre19)) (Or.inl pre20)) (Or.inl pre22))
  obtain ⟨T163, X163, e163, st163⟩ := getF X160 hx hZ hown (host := "") (Or.inl (hw _ (List.mem_of_getElem? (i := 16) rfl))) Via.refl ee160 Fc162 (g := (mkF m 211 #[.val (.ref a0), .val (.int (2 : Int32)), .val (.int (2 : Int32)), .val (.int (4 : Int32)), .val (.int (2 : Int32)), .val (.int (5 : Int32)), .val (.int (3 : Int32)), .val (.int (1 : Int32)), .val (.int (1 : Int32)), .val (.int (2 : Int32))] [(.ref a0)])) rfl rfl (hb hby own_d4_211)
  refine og_of st163 ?_
  show OG p e below _ _ (T163.setTop (mkF m 214 #[.val (.ref a0), .val (.int (2 : Int32)), .val (.int (2 : Int32)), .val (.int (4 : Int32)), .val (.int (2 : Int32)), .val (.int (5 : Int32)), .val (.int (3 : Int32)), .val (.int (1 : Int32)), .val (.int (1 : Int32)), .val (.int (2 : Int32))] [(.ref s2)]))
  refine o_iload X163 hx rfl (hb hby own_d4_214) rfl ?_
  refine o_iload X163 hx rfl (hb hby own_d4_216) rfl ?_
  refine o_i2b (z := (2 : Int32)) X163 hx rfl (hb hby own_d4_218) (by decide) ?_
  have Fc164 : Arv Z h158 s2 k_s2 .byte (512 : Int32) [(.int (1 : Int32)), (.int (0 : Int32)), (.int (0 : Int32)), (.int (0 : Int32)), (.int (0 : Int32)), (.int (0 : Int32)), (.int (0 : Int32)), (.int (0 : Int32))] (.int (0 : Int32)) := ((V139.other W145 pre27).other W158 pre29)
  obtain ⟨clv165, Arv165, qv165, Sv165, Nv165, Hv165, Gv165⟩ := id Fc164
  have hin166 : ¬ ((3 : Int32) < 0 ∨ clv165.slots.size ≤ ((3 : Int32)).toNatClampNeg) := inb_of Sv165 ⟨by decide, by decide⟩
  obtain ⟨T166, h166, X166, e166, W166, st166⟩ := stB X163 hx hZ e163 Arv165 (j := (3 : Int32)) hin166 (g := (mkF m 219 #[.val (.ref a0), .val (.int (2 : Int32)), .val (.int (2 : Int32)), .val (.int (4 : Int32)), .val (.int (2 : Int32)), .val (.int (5 : Int32)), .val (.int (3 : Int32)), .val (.int (1 : Int32)), .val (.int (1 : Int32)), .val (.int (2 : Int32))] [(.int (2 : Int32)), (.int (3 : Int32)), (.ref s2)])) rfl rfl (hb hby own_d4_219)
  have V166 : Arv Z h166 s2 k_s2 .byte (512 : Int32) [(.int (1 : Int32)), (.int (0 : Int32)), (.int (0 : Int32)), (.int (2 : Int32)), (.int (0 : Int32)), (.int (0 : Int32)), (.int (0 : Int32)), (.int (0 : Int32))] (.int (0 : Int32)) := Arv.set Arv165 qv165 Sv165 Nv165 Hv165 Gv165 (fits_nar_byte _) W166 3 rfl (Nat.le_of_ble_eq_true rfl)
  have N166 := Fr.snoc X166 N161 pre14
  have Kp167 : Keep h0 h166 [a0, s1, s2, s3, s5] := Kp159.wr W166 (Or.inl (List.mem_of_getElem? (i := 2) rfl))
  refine og_of st166 ?_
  show OG p e below _ _ (T166.setTop (mkF m 220 #[.val (.ref a0), .val (.int (2 : Int32)), .val (.int (2 : Int32)), .val (.int (4 : Int32)), .val (.int (2 : Int32)), .val (.int (5 : Int32)), .val (.int (3 : Int32)), .val (.int (1 : Int32)), .val (.int (1 : Int32)), .val (.int (2 : Int32))] []))
  refine o_aloadN X166 hx rfl (hb hby own_d4_220) rfl rfl ?_
  have Fc168 : Fld Z h166 a0 "tidemark/record/FseTable" "bases" "[S" (.ref s3) := (Fld.other W166 (Fld.other W158 (Fld.other W145 Fc141 (Or.inl pre20)) (Or.inl pre22)) (Or.inl pre19))
  obtain ⟨T169, X169, e169, st169⟩ := getF X166 hx hZ hown (host := "") (Or.inl (hw _ (List.mem_of_getElem? (i := 19) rfl))) Via.refl e166 Fc168 (g := (mkF m 221 #[.val (.ref a0), .val (.int (2 : Int32)), .val (.int (2 : Int32)), .val (.int (4 : Int32)), .val (.int (2 : Int32)), .val (.int (5 : Int32)), .val (.int (3 : Int32)), .val (.int (1 : Int32)), .val (.int (1 : Int32)), .val (.int (2 : Int32))] [(.ref a0)])) rfl rfl (hb hby own_d4_221)
  refine og_of st169 ?_
  show OG p e below _ _ (T169.setTop (mkF m 224 #[.val (.ref a0), .val (.int (2 : Int32)), .val (.int (2 : Int32)), .val (.int (4 : Int32)), .val (.int (2 : Int32)), .val (.int (5 : Int32)), .val (.int (3 : Int32)), .val (.int (1 : Int32)), .val (.int (1 : Int32)), .val (.int (2 : Int32))] [(.ref s3)]))
  refine o_iload X169 hx rfl (hb hby own_d4_224) rfl ?_
  refine o_iload X169 hx rfl (hb hby own_d4_226) rfl ?_
  refine o_iload X169 hx rfl (hb hby own_d4_228) rfl ?_
  refine o_ishl (z := (4 : Int32)) X169 hx rfl (hb hby own_d4_230) (by decide) ?_
  refine o_iloadN X169 hx rfl (hb hby own_d4_231) rfl ?_
  refine o_isub (z := (0 : Int32)) X169 hx rfl (hb hby own_d4_232) (by decide) ?_
  refine o_i2s (z := (0 : Int32)) X169 hx rfl (hb hby own_d4_233) (by decide) ?_
  have Fc170 : Arv Z h166 s3 k_s3 .short (512 : Int32) [(.int (2 : Int32)), (.int (0 : Int32)), (.int (1 : Int32)), (.int (0 : Int32)), (.int (0 : Int32)), (.int (0 : Int32)), (.int (0 : Int32)), (.int (0 : Int32))] (.int (0 : Int32)) := ((V145.other W158 pre31).other W166 (Ne.symm pre27))
  obtain ⟨clv171, Arv171, qv171, Sv171, Nv171, Hv171, Gv171⟩ := id Fc170
  have hin172 : ¬ ((3 : Int32) < 0 ∨ clv171.slots.size ≤ ((3 : Int32)).toNatClampNeg) := inb_of Sv171 ⟨by decide, by decide⟩
  obtain ⟨T172, h172, X172, e172, W172, st172⟩ := stS X169 hx hZ e169 Arv171 (j := (3 : Int32)) hin172 (g := (mkF m 234 #[.val (.ref a0), .val (.int (2 : Int32)), .val (.int (2 : Int32)), .val (.int (4 : Int32)), .val (.int (2 : Int32)), .val (.int (5 : Int32)), .val (.int (3 : Int32)), .val (.int (1 : Int32)), .val (.int (1 : Int32)), .val (.int (2 : Int32))] [(.int (0 : Int32)), (.int (3 : Int32)), (.ref s3)])) rfl rfl (hb hby own_d4_234)
  have V172 : Arv Z h172 s3 k_s3 .short (512 : Int32) [(.int (2 : Int32)), (.int (0 : Int32)), (.int (1 : Int32)), (.int (0 : Int32)), (.int (0 : Int32)), (.int (0 : Int32)), (.int (0 : Int32)), (.int (0 : Int32))] (.int (0 : Int32)) := Arv.set Arv171 qv171 Sv171 Nv171 Hv171 Gv171 (fits_nar_short _) W172 3 rfl (Nat.le_of_ble_eq_true rfl)
  have N172 := Fr.snoc X172 N166 pre15
  have Kp173 : Keep h0 h172 [a0, s1, s2, s3, s5] := Kp167.wr W172 (Or.inl (List.mem_of_getElem? (i := 3) rfl))
  refine og_of st172 ?_
  show OG p e below _ _ (T172.setTop (mkF m 235 #[.val (.ref a0), .val (.int (2 : Int32)), .val (.int (2 : Int32)), .val (.int (4 : Int32)), .val (.int (2 : Int32)), .val (.int (5 : Int32)), .val (.int (3 : Int32)), .val (.int (1 : Int32)), .val (.int (1 : Int32)), .val (.int (2 : Int32))] []))
  refine o_iinc (z := (4 : Int32)) X172 hx rfl (hb hby own_d4_235) rfl (by decide) (L' := #[.val (.ref a0), .val (.int (2 : Int32)), .val (.int (2 : Int32)), .val (.int (4 : Int32)), .val (.int (2 : Int32)), .val (.int (5 : Int32)), .val (.int (4 : Int32)), .val (.int (1 : Int32)), .val (.int (1 : Int32)), .val (.int (2 : Int32))]) rfl ?_
  refine o_goto (pc' := 165) X172 hx (hb hby own_d4_238) (by decide) (by decide) ?_
  refine o_iload X172 hx rfl (hb hby own_d4_165) rfl ?_
  refine o_iloadN X172 hx rfl (hb hby own_d4_167) rfl ?_
  refine o_icmpY (pc' := 241) X172 hx (hb hby own_d4_168) (flt (by decide : ¬ ((4 : Int32) < (4 : Int32)))).2.1 (by decide) (by decide) ?_
  refine o_aloadN X172 hx rfl (hb hby own_d4_241) rfl rfl ?_
  refine o_iloadN X172 hx rfl (hb hby own_d4_242) rfl ?_
  have Fc174 : Exa Z h172 a0 "tidemark/record/FseTable" := (Exa.wr W172 (Exa.wr W166 (Exa.wr W158 (Exa.wr W145 (Exa.wr W139 (Exa.wr W131 (Exa.wr W118 (Exa.wr W112 (Exa.wr W104 (Exa.wr W91 (Exa.wr W85 (Exa.wr W77 (Exa.wr W57 (Exa.wr W47 (Exa.wr W37 (Exa.wr W26 (Exa.wr W20 (Exa.wr W9 pre0))))))))))))))))))
  have Fc175 : Fld Z h172 a0 "tidemark/record/FseTable" "accuracyLog" "I" (.int (0 : Int32)) := (Fld.other W172 (Fld.other W166 (Fld.other W158 (Fld.other W145 (Fld.other W139 (Fld.other W131 (Fld.other W118 (Fld.other W112 (Fld.other W104 (Fld.other W91 (Fld.other W85 (Fld.other W77 (Fld.other W57 (Fld.other W47 (Fld.other W37 (Fld.other W26 (Fld.other W20 (Fld.other W9 pre6 (Or.inl pre22)) (Or.inl pre18)) (Or.inl pre22)) (Or.inl pre18)) (Or.inl pre18)) (Or.inl pre18)) (Or.inl pre22)) (Or.inl pre19)) (Or.inl pre20)) (Or.inl pre22)) (Or.inl pre19)) (Or.inl pre20)) (Or.inl pre22)) (Or.inl pre19)) (Or.inl pre20)) (Or.inl pre22)) (Or.inl pre19)) (Or.inl pre20))
  obtain ⟨T176, h176, X176, e176, W176, st176⟩ := putF X172 hx hZ hown (host := "") (Or.inl (hw _ (List.mem_of_getElem? (i := 34) rfl))) Via.refl e172 Fc175 Fc174 (Or.inl (hw _ (List.mem_of_getElem? (i := 35) rfl))) (hw _ (List.mem_of_getElem? (i := 6) rfl)) (ty := .int) (by decide) rfl rfl (g := (mkF m 243 #[.val (.ref a0), .val (.int (2 : Int32)), .val (.int (2 : Int32)), .val (.int (4 : Int32)), .val (.int (2 : Int32)), .val (.int (5 : Int32)), .val (.int (4 : Int32)), .val (.int (1 : Int32)), .val (.int (1 : Int32)), .val (.int (2 : Int32))] [(.int (2 : Int32)), (.ref a0)])) rfl rfl (hb hby own_d4_243)
  have Fw176 := Fc175.same W176
  have N176 := Fr.snoc X176 N172 pre12
  have Kp177 : Keep h0 h176 [a0, s1, s2, s3, s5] := Kp173.wr W176 (Or.inl (List.mem_of_getElem? (i := 0) rfl))
  refine og_of st176 ?_
  show OG p e below _ _ (T176.setTop (mkF m 246 #[.val (.ref a0), .val (.int (2 : Int32)), .val (.int (2 : Int32)), .val (.int (4 : Int32)), .val (.int (2 : Int32)), .val (.int (5 : Int32)), .val (.int (4 : Int32)), .val (.int (1 : Int32)), .val (.int (1 : Int32)), .val (.int (2 : Int32))] []))
  have Fc178 : Fld Z h176 a0 "tidemark/record/FseTable" "symbols" "[B" (.ref s1) := (Fld.other W176 (Fld.other W172 (Fld.other W166 (Fld.other W158 Fc147 (Or.inl pre22)) (Or.inl pre19)) (Or.inl pre20)) (Or.inr (slot_ne (Or.inr (hw _ (List.mem_of_getElem? (i := 15) rfl))) (Or.inl (hw _ (List.mem_of_getElem? (i := 35) rfl))) (by decide) (t := (.array .byte)) (t' := .int) (by decide) (by decide))))
  have Fc179 : Fld Z h176 a0 "tidemark/record/FseTable" "bits" "[B" (.ref s2) := (Fld.other W176 (Fld.other W172 (Fld.other W166 Fc162 (Or.inl pre19)) (Or.inl pre20)) (Or.inr (slot_ne (Or.inr (hw _ (List.mem_of_getElem? (i := 17) rfl))) (Or.inl (hw _ (List.mem_of_getElem? (i := 35) rfl))) (by decide) (t := (.array .byte)) (t' := .int) (by decide) (by decide))))
  have Fc180 : Fld Z h176 a0 "tidemark/record/FseTable" "bases" "[S" (.ref s3) := (Fld.other W176 (Fld.other W172 Fc168 (Or.inl pre20)) (Or.inr (slot_ne (Or.inr (hw _ (List.mem_of_getElem? (i := 20) rfl))) (Or.inl (hw _ (List.mem_of_getElem? (i := 35) rfl))) (by decide) (t := (.array .short)) (t' := .int) (by decide) (by decide))))
  have Fc181 : Fld Z h176 a0 "tidemark/record/FseTable" "counts" "[S" (.ref s4) := (Fld.other W176 (Fld.other W172 (Fld.other W166 (Fld.other W158 (Fld.other W145 (Fld.other W139 (Fld.other W131 (Fld.other W118 (Fld.other W112 (Fld.other W104 (Fld.other W91 (Fld.other W85 (Fld.other W77 Fc59 (Or.inl pre22)) (Or.inl pre19)) (Or.inl pre20)) (Or.inl pre22)) (Or.inl pre19)) (Or.inl pre20)) (Or.inl pre22)) (Or.inl pre19)) (Or.inl pre20)) (Or.inl pre22)) (Or.inl pre19)) (Or.inl pre20)) (Or.inr (slot_ne (Or.inr (hw _ (List.mem_of_getElem? (i := 22) rfl))) (Or.inl (hw _ (List.mem_of_getElem? (i := 35) rfl))) (by decide) (t := (.array .short)) (t' := .int) (by decide) (by decide))))
  have Fc182 : Fld Z h176 a0 "tidemark/record/FseTable" "next" "[I" (.ref s5) := (Fld.other W176 (Fld.other W172 (Fld.other W166 (Fld.other W158 Fc152 (Or.inl pre22)) (Or.inl pre19)) (Or.inl pre20)) (Or.inr (slot_ne (Or.inr (hw _ (List.mem_of_getElem? (i := 24) rfl))) (Or.inl (hw _ (List.mem_of_getElem? (i := 35) rfl))) (by decide) (t := (.array .int)) (t' := .int) (by decide) (by decide))))
  have Fc183 : Arv Z h176 s1 k_s1 .byte (512 : Int32) [(.int (0 : Int32)), (.int (0 : Int32)), (.int (0 : Int32)), (.int (1 : Int32)), (.int (0 : Int32)), (.int (0 : Int32)), (.int (0 : Int32)), (.int (0 : Int32))] (.int (0 : Int32)) := ((((Fc149.other W158 pre26).other W166 pre23).other W172 pre24).other W176 (Ne.symm pre18))
  have Fc184 : Arv Z h176 s2 k_s2 .byte (512 : Int32) [(.int (1 : Int32)), (.int (0 : Int32)), (.int (0 : Int32)), (.int (2 : Int32)), (.int (0 : Int32)), (.int (0 : Int32)), (.int (0 : Int32)), (.int (0 : Int32))] (.int (0 : Int32)) := ((V166.other W172 pre27).other W176 (Ne.symm pre19))
  have Fc185 : Arv Z h176 s3 k_s3 .short (512 : Int32) [(.int (2 : Int32)), (.int (0 : Int32)), (.int (1 : Int32)), (.int (0 : Int32)), (.int (0 : Int32)), (.int (0 : Int32)), (.int (0 : Int32)), (.int (0 : Int32))] (.int (0 : Int32)) := (V172.other W176 (Ne.symm pre20))
  have Fc186 : Arv Z h176 s5 k_s5 .int (256 : Int32) [(.int (6 : Int32)), (.int (2 : Int32)), (.int (0 : Int32)), (.int (0 : Int32)), (.int (0 : Int32)), (.int (0 : Int32)), (.int (0 : Int32)), (.int (0 : Int32))] (.int (0 : Int32)) := (((V158.other W166 (Ne.symm pre29)).other W172 (Ne.symm pre31)).other W176 (Ne.symm pre22))
  exact o_ret0 X176 hx Bd.returns (own_lv X176 hlk (by decide) (by decide)) (hb hby own_d4_246) ⟨rfl, N176, (by rw [e176]; exact Kp177), (by rw [e176]; exact Fc178), (by rw [e176]; exact Fc179), (by rw [e176]; exact Fc180), (by rw [e176]; exact Fc181), (by rw [e176]; exact Fc182), (by rw [e176]; exact Fw176), (by rw [e176]; exact Fc183), (by rw [e176]; exact Fc184), (by rw [e176]; exact Fc185), (by rw [e176]; exact Fc186)⟩
theorem own_pd1 : parseMethodDescriptor "()V" = some ⟨[], none⟩ := by decide +kernel
theorem own_pd2 : parseMethodDescriptor "(II)V" = some ⟨[.int, .int], none⟩ := by decide +kernel
theorem own_d1_0 : decode prog_170_method_2_code 0 = .ok (.new 7, 3) := by decide +kernel
theorem own_d1_3 : decode prog_170_method_2_code 3 = .ok (.dup, 1) := by decide +kernel
theorem own_d1_4 : decode prog_170_method_2_code 4 = .ok (.invokespecial 27, 3) := by decide +kernel
theorem own_d1_7 : decode prog_170_method_2_code 7 = .ok (.astore_n 2, 1) := by decide +kernel
theorem own_d1_8 : decode prog_170_method_2_code 8 = .ok (.iconst 0, 1) := by decide +kernel
theorem own_d1_9 : decode prog_170_method_2_code 9 = .ok (.istore_n 3, 1) := by decide +kernel
theorem own_d1_10 : decode prog_170_method_2_code 10 = .ok (.iload_n 3, 1) := by decide +kernel
theorem own_d1_11 : decode prog_170_method_2_code 11 = .ok (.aload_n 1, 1) := by decide +kernel
theorem own_d1_12 : decode prog_170_method_2_code 12 = .ok (.arraylength, 1) := by decide +kernel
theorem own_d1_13 : decode prog_170_method_2_code 13 = .ok (.if_icmp .ge 19, 3) := by decide +kernel
theorem own_d1_16 : decode prog_170_method_2_code 16 = .ok (.aload_n 2, 1) := by decide +kernel
theorem own_d1_17 : decode prog_170_method_2_code 17 = .ok (.getfield 20, 3) := by decide +kernel
theorem own_d1_20 : decode prog_170_method_2_code 20 = .ok (.iload_n 3, 1) := by decide +kernel
theorem own_d1_21 : decode prog_170_method_2_code 21 = .ok (.aload_n 1, 1) := by decide +kernel
theorem own_d1_22 : decode prog_170_method_2_code 22 = .ok (.iload_n 3, 1) := by decide +kernel
theorem own_d1_23 : decode prog_170_method_2_code 23 = .ok (.iaload, 1) := by decide +kernel
theorem own_d1_24 : decode prog_170_method_2_code 24 = .ok (.i2s, 1) := by decide +kernel
theorem own_d1_25 : decode prog_170_method_2_code 25 = .ok (.sastore, 1) := by decide +kernel
theorem own_d1_26 : decode prog_170_method_2_code 26 = .ok (.iinc 3 1, 3) := by decide +kernel
theorem own_d1_29 : decode prog_170_method_2_code 29 = .ok (.goto (-19), 3) := by decide +kernel
theorem own_d1_32 : decode prog_170_method_2_code 32 = .ok (.aload_n 2, 1) := by decide +kernel
theorem own_d1_33 : decode prog_170_method_2_code 33 = .ok (.aload_n 1, 1) := by decide +kernel
theorem own_d1_34 : decode prog_170_method_2_code 34 = .ok (.arraylength, 1) := by decide +kernel
theorem own_d1_35 : decode prog_170_method_2_code 35 = .ok (.iload_n 0, 1) := by decide +kernel
theorem own_d1_36 : decode prog_170_method_2_code 36 = .ok (.invokevirtual 28, 3) := by decide +kernel
theorem own_d1_39 : decode prog_170_method_2_code 39 = .ok (.goto 15, 3) := by decide +kernel
theorem own_d1_54 : decode prog_170_method_2_code 54 = .ok (.aload_n 2, 1) := by decide +kernel
theorem own_d1_55 : decode prog_170_method_2_code 55 = .ok (.areturn, 1) := by decide +kernel
theorem own_ef1 (m : MethodId) (a1 : Addr) : entryFrame m #[(.int (2 : Int32)), (.ref a1)] 4 = mkF m 0 #[.val (.int (2 : Int32)), .val (.ref a1), .unset, .unset] [] := by first | (simp [entryFrame, mkF, argsToLocals, Value.category]; done) | rfl
def own_Q1 (Z : State) (a1 : Addr) (k_a1 : ClassId) (h0 : Heap) (n0 : Nat) (v : Option Value) (h : Heap) (L : List Loc) : Prop := ∃ (b s1 s2 s3 : Addr) (k_s1 : ClassId) (k_s2 : ClassId) (k_s3 : ClassId), v = some (.ref b) ∧ Fr n0 L ∧ Keep h0 h [] ∧ h0.size ≤ b ∧ h0.size ≤ s1 ∧ h0.size ≤ s2 ∧ h0.size ≤ s3 ∧ b ≠ s1 ∧ b ≠ s2 ∧ b ≠ s3 ∧ s1 ≠ s2 ∧ s1 ≠ s3 ∧ s2 ≠ s3 ∧ Exa Z h b "tidemark/record/FseTable" ∧ Fld Z h b "tidemark/record/FseTable" "symbols" "[B" (.ref s1) ∧ Fld Z h b "tidemark/record/FseTable" "bits" "[B" (.ref s2) ∧ Fld Z h b "tidemark/record/FseTable" "bases" "[S" (.ref s3) ∧ Fld Z h b "tidemark/record/FseTable" "accuracyLog" "I" (.int (2 : Int32)) ∧ Arv Z h s1 k_s1 .byte (512 : Int32) [(.int (0 : Int32)), (.int (0 : Int32)), (.int (0 : Int32)), (.int (1 : Int32)), (.int (0 : Int32)), (.int (0 : Int32)), (.int (0 : Int32)), (.int (0 : Int32))] (.int (0 : Int32)) ∧ Arv Z h s2 k_s2 .byte (512 : Int32) [(.int (1 : Int32)), (.int (0 : Int32)), (.int (0 : Int32)), (.int (2 : Int32)), (.int (0 : Int32)), (.int (0 : Int32)), (.int (0 : Int32)), (.int (0 : Int32))] (.int (0 : Int32)) ∧ Arv Z h s3 k_s3 .short (512 : Int32) [(.int (2 : Int32)), (.int (0 : Int32)), (.int (1 : Int32)), (.int (0 : Int32)), (.int (0 : Int32)), (.int (0 : Int32)), (.int (0 : Int32)), (.int (0 : Int32))] (.int (0 : Int32))
set_option maxRecDepth 65536 in
set_option maxHeartbeats 40000000 in
theorem own_rm1 (l : Launch) (Z : State) (aA : Array Value) (hw : ∀ d ∈ tables_1, d.before aA Z = true) (ws : List Jvm.Cond) (a1 : Addr) (k_a1 : ClassId) (h0 : Heap) (n0 : Nat) (Z0 : n0 ≤ h0.size) (pre0 : Arv Z h0 a1 k_a1 .int (2 : Int32) [(.int (3 : Int32)), (.int (-1 : Int32))] (.int (0 : Int32))) :
    MetFree l (⟨"tidemark/record/FseTable", "predefined", "(I[I)Ltidemark/record/FseTable;"⟩ : MethodName) (head1 (Jvm.Cond.codeWith (⟨"tidemark/record/FseTable", "predefined", "(I[I)Ltidemark/record/FseTable;"⟩ : MethodName) prog_170_method_2_code 4 (some (.object "tidemark/record/FseTable")) [((32 : Nat), (39 : Nat), (42 : Nat), (32 : Nat))] :: ws) ({ frames := 2, cells := 6, slots := 2054, locals := 36 } : Room)) (fun a U => a = #[(.int (2 : Int32)), (.ref a1)] ∧ Z.Warmed39 U.vm ∧ U.heap = h0) (fun _ _ _ _ _ => True) (fun _ U o U' => ∃ v L, o = .returned v ∧ own_Q1 Z a1 k_a1 h0 n0 v U'.heap L ∧ FrameEnd U o U' L ({ frames := 2, cells := 6, slots := 2054, locals := 36 } : Room).cells ({ frames := 2, cells := 6, slots := 2054, locals := 36 } : Room).slots) := by
  refine MetFree.of_bodySF (plainFor_of_name own_pn23) hisWith ?_
  intro p e s m args below meth c s₁ Bd hml0 hP hK
  obtain ⟨rfl, hZ, hh⟩ := hP
  have hx := Bd.exec
  have hby := Bd.bytes
  have hlk : meth.locks = false := Bd.notSynchronized
  have hml : c.maxLocals = 4 := hml0
  have hown : s.vm.findClass "tidemark/record/FseTable" = some m.cls := findClass_of_methodNamed Bd.named
  have hnm := (name_of_methodNamed Bd.named Bd.method).1
  have X0 : Stand p l e ({ frames := 2, cells := 6, slots := 2054, locals := 36 } : Room) s m #[(.int (2 : Int32)), (.ref a1)] below meth c s₁ [] 0 0 := Stand.of_body Bd
  have e0 : s₁.heap = h0 := by rw [← hh, Bd.state]; rfl
  have N0 := Fr.nil n0
  show OG p e below (FE s ({ frames := 2, cells := 6, slots := 2054, locals := 36 } : Room).cells ({ frames := 2, cells := 6, slots := 2054, locals := 36 } : Room).slots) (own_Q1 Z a1 k_a1 h0 n0) (s₁.setTop (entryFrame m #[(.int (2 : Int32)), (.ref a1)] 4))
  refine og_of (fun _ k => castTop (own_ef1 m a1) k) ?_
  obtain ⟨T1, h1, X1, e1, E1, A1, D1, -, st1⟩ := newO X0 hx hZ hown (hw _ (List.mem_of_getElem? (i := 5) rfl)) (hw _ (List.mem_of_getElem? (i := 6) rfl)) (hw _ (List.mem_of_getElem? (i := 3) rfl)) e0 (g := (mkF m 0 #[.val (.int (2 : Int32)), .val (.ref a1), .unset, .unset] [])) rfl (hb hby own_d1_0) (by decide) (by decide)
  obtain ⟨b1, g1⟩ : ∃ z, z = h0.size := ⟨_, rfl⟩
  rw [← g1] at A1 D1 st1
  have ne2 : a1 ≠ b1 := Nat.ne_of_lt (Nat.lt_of_lt_of_le pre0.lt (Nat.le_of_eq g1.symm))
  have gn1 : n0 ≤ b1 := Nat.le_trans Z0 (Nat.le_of_eq g1.symm)
  have sz1 : h0.size ≤ b1 := Nat.le_trans (Keep.refl h0 []).1 (Nat.le_of_eq g1.symm)
  have Kp3 : Keep h0 h1 [] := (Keep.refl h0 []).ext E1
  have F1_15 : Fld Z h1 b1 "tidemark/record/FseTable" "symbols" "[B" .null := D1 (Or.inr (hw _ (List.mem_of_getElem? (i := 15) rfl))) (ty := (.array .byte)) (by decide)
  have F1_17 : Fld Z h1 b1 "tidemark/record/FseTable" "bits" "[B" .null := D1 (Or.inr (hw _ (List.mem_of_getElem? (i := 17) rfl))) (ty := (.array .byte)) (by decide)
  have F1_20 : Fld Z h1 b1 "tidemark/record/FseTable" "bases" "[S" .null := D1 (Or.inr (hw _ (List.mem_of_getElem? (i := 20) rfl))) (ty := (.array .short)) (by decide)
  have F1_22 : Fld Z h1 b1 "tidemark/record/FseTable" "counts" "[S" .null := D1 (Or.inr (hw _ (List.mem_of_getElem? (i := 22) rfl))) (ty := (.array .short)) (by decide)
  have F1_24 : Fld Z h1 b1 "tidemark/record/FseTable" "next" "[I" .null := D1 (Or.inr (hw _ (List.mem_of_getElem? (i := 24) rfl))) (ty := (.array .int)) (by decide)
  have F1_35 : Fld Z h1 b1 "tidemark/record/FseTable" "accuracyLog" "I" (.int (0 : Int32)) := D1 (Or.inl (hw _ (List.mem_of_getElem? (i := 35) rfl))) (ty := .int) (by decide)
  refine og_of st1 ?_
  show OG p e below _ _ (T1.setTop (mkF m 3 #[.val (.int (2 : Int32)), .val (.ref a1), .unset, .unset] [(.ref b1)]))
  refine o_dup X1 hx rfl (hb hby own_d1_3) rfl ?_
  obtain ⟨_, _, ⟨T4, L4, k4, n4⟩, -, X4, ⟨Lc4, hQ4, l4, y4, z4⟩, st4⟩ := X1.specialBack hx (y := (⟨"tidemark/record/FseTable", "<init>", "()V"⟩ : MethodName)) rfl hown (mvT hZ (hw _ (List.mem_of_getElem? (i := 7) rfl))) (mvT hZ (hw _ (List.mem_of_getElem? (i := 8) rfl))) (mvT hZ (hw _ (List.mem_of_getElem? (i := 9) rfl))) (by decide) (backOf (W := 1) (own_rm2 l Z aA hw [] b1 h1 n0 (Nat.le_trans Z0 E1.1) A1 gn1 F1_15 F1_17 F1_20 F1_22 F1_24 F1_35) hZ (hw _ (List.mem_of_getElem? (i := 9) rfl)) (hw _ (List.mem_of_getElem? (i := 3) rfl)) (by decide) (by decide)) (g := (mkF m 4 #[.val (.int (2 : Int32)), .val (.ref a1), .unset, .unset] [(.ref b1), (.ref b1)])) rfl (by rw [hml]; rfl) (Steps.refl _) (a := b1) (argsL := []) (rest := [(.ref b1)]) (lenOf own_pd1 rfl) rfl (by show 2 * 0 + _ ≤ _; exact Nat.le_of_eq rfl) (hb hby own_d1_4) (fun _ _ => ⟨rfl, e1, Nat.le_of_ble_eq_true rfl, Nat.le_of_ble_eq_true rfl⟩)
  dsimp only [Pt.U, Pt.locs, Pt.cells, Pt.slots] at X4 l4 y4 z4 st4 hQ4
  subst l4 y4 z4
  obtain ⟨b4_0, b4_1, b4_2, b4_3, b4_4, k_b4_0, k_b4_1, k_b4_2, k_b4_3, k_b4_4, rfl, N4q, K4, sq4_0, sq4_1, sq4_2, sq4_3, sq4_4, nn4_0_1, nn4_0_2, nn4_0_3, nn4_0_4, nn4_1_2, nn4_1_3, nn4_1_4, nn4_2_3, nn4_2_4, nn4_3_4, f4_0, f4_1, f4_2, f4_3, f4_4, f4_5, f4_6, f4_7, f4_8, f4_9, f4_10⟩ := hQ4
  have Fc5 : Arv Z h1 a1 k_a1 .int (2 : Int32) [(.int (3 : Int32)), (.int (-1 : Int32))] (.int (0 : Int32)) := (pre0.ext E1)
  have ne6 : a1 ≠ b4_0 := Nat.ne_of_lt (Nat.lt_of_lt_of_le Fc5.lt sq4_0)
  have ne7 : b1 ≠ b4_0 := Nat.ne_of_lt (Nat.lt_of_lt_of_le A1.lt sq4_0)
  have ne8 : a1 ≠ b4_1 := Nat.ne_of_lt (Nat.lt_of_lt_of_le Fc5.lt sq4_1)
  have ne9 : b1 ≠ b4_1 := Nat.ne_of_lt (Nat.lt_of_lt_of_le A1.lt sq4_1)
  have ne10 : a1 ≠ b4_2 := Nat.ne_of_lt (Nat.lt_of_lt_of_le Fc5.lt sq4_2)
  have ne11 : b1 ≠ b4_2 := Nat.ne_of_lt (Nat.lt_of_lt_of_le A1.lt sq4_2)
  have ne12 : a1 ≠ b4_3 := Nat.ne_of_lt (Nat.lt_of_lt_of_le Fc5.lt sq4_3)
  have ne13 : b1 ≠ b4_3 := Nat.ne_of_lt (Nat.lt_of_lt_of_le A1.lt sq4_3)
  have ne14 : a1 ≠ b4_4 := Nat.ne_of_lt (Nat.lt_of_lt_of_le Fc5.lt sq4_4)
  have ne15 : b1 ≠ b4_4 := Nat.ne_of_lt (Nat.lt_of_lt_of_le A1.lt sq4_4)
  have gnb4_0 : n0 ≤ b4_0 := Nat.le_trans (Nat.le_trans Z0 E1.1) sq4_0
  have szb4_0 : h0.size ≤ b4_0 := Nat.le_trans Kp3.1 sq4_0
  have gnb4_1 : n0 ≤ b4_1 := Nat.le_trans (Nat.le_trans Z0 E1.1) sq4_1
  have szb4_1 : h0.size ≤ b4_1 := Nat.le_trans Kp3.1 sq4_1
  have gnb4_2 : n0 ≤ b4_2 := Nat.le_trans (Nat.le_trans Z0 E1.1) sq4_2
  have szb4_2 : h0.size ≤ b4_2 := Nat.le_trans Kp3.1 sq4_2
  have gnb4_3 : n0 ≤ b4_3 := Nat.le_trans (Nat.le_trans Z0 E1.1) sq4_3
  have szb4_3 : h0.size ≤ b4_3 := Nat.le_trans Kp3.1 sq4_3
  have gnb4_4 : n0 ≤ b4_4 := Nat.le_trans (Nat.le_trans Z0 E1.1) sq4_4
  have szb4_4 : h0.size ≤ b4_4 := Nat.le_trans Kp3.1 sq4_4
  have N16 := Fr.app N0 N4q
  have Kp17 : Keep h0 T4.heap [] := Kp3.trans K4 (allS (Or.inr sz1) all0)
  refine og_tr st4 ?_
  show OG p e below _ _ (T4.setTop (mkF m 7 #[.val (.int (2 : Int32)), .val (.ref a1), .unset, .unset] [(.ref b1)]))
  refine o_astoreN X4 hx rfl (hb hby own_d1_7) rfl (L' := #[.val (.int (2 : Int32)), .val (.ref a1), .val (.ref b1), .unset]) rfl ?_
  refine o_iconst (z := (0 : Int32)) X4 hx rfl (hb hby own_d1_8) (by decide) ?_
  refine o_istoreN X4 hx rfl (hb hby own_d1_9) (L' := #[.val (.int (2 : Int32)), .val (.ref a1), .val (.ref b1), .val (.int (0 : Int32))]) rfl ?_
  refine o_iloadN X4 hx rfl (hb hby own_d1_10) rfl ?_
  refine o_aloadN X4 hx rfl (hb hby own_d1_11) rfl rfl ?_
  have Fc18 : Arv Z T4.heap a1 k_a1 .int (2 : Int32) [(.int (3 : Int32)), (.int (-1 : Int32))] (.int (0 : Int32)) := (Fc5.keep K4 (ninS ne2 nin0))
  obtain ⟨clv19, Arv19, qv19, Sv19, Nv19, Hv19, Gv19⟩ := id Fc18
  have hlv19 := X4.arraylength hx (by exact Arv19.1) (State.isArrayOf_alike hZ.alike Arv19.2.1) (g := (mkF m 12 #[.val (.int (2 : Int32)), .val (.ref a1), .val (.ref b1), .val (.int (0 : Int32))] [(.ref a1), (.int (0 : Int32))])) rfl rfl (hb hby own_d1_12)
  rw [len_of Sv19 Nv19] at hlv19
  refine og_of hlv19 ?_
  show OG p e below _ _ (T4.setTop (mkF m 13 #[.val (.int (2 : Int32)), .val (.ref a1), .val (.ref b1), .val (.int (0 : Int32))] [(.int (2 : Int32)), (.int (0 : Int32))]))
  refine o_icmpN (pc' := 16) X4 hx rfl (hb hby own_d1_13) (tlt (by decide : ((0 : Int32) < (2 : Int32)))).2.1 ?_
  refine o_aloadN X4 hx rfl (hb hby own_d1_16) rfl rfl ?_
  obtain ⟨T20, X20, e20, st20⟩ := getF X4 hx hZ hown (host := "") (Or.inl (hw _ (List.mem_of_getElem? (i := 21) rfl))) Via.refl rfl f4_3 (g := (mkF m 17 #[.val (.int (2 : Int32)), .val (.ref a1), .val (.ref b1), .val (.int (0 : Int32))] [(.ref b1)])) rfl rfl (hb hby own_d1_17)
  refine og_of st20 ?_
  show OG p e below _ _ (T20.setTop (mkF m 20 #[.val (.int (2 : Int32)), .val (.ref a1), .val (.ref b1), .val (.int (0 : Int32))] [(.ref b4_3)]))
  refine o_iloadN X20 hx rfl (hb hby own_d1_20) rfl ?_
  refine o_aloadN X20 hx rfl (hb hby own_d1_21) rfl rfl ?_
  refine o_iloadN X20 hx rfl (hb hby own_d1_22) rfl ?_
  obtain ⟨clv21, Arv21, qv21, Sv21, Nv21, Hv21, Gv21⟩ := id Fc18
  have hin22 : ¬ ((0 : Int32) < 0 ∨ clv21.slots.size ≤ ((0 : Int32)).toNatClampNeg) := inb_of Sv21 ⟨by decide, by decide⟩
  have hat22 : clv21.slots[((0 : Int32)).toNatClampNeg]? = some (.int (3 : Int32)) := Hv21.at hin22 rfl
  refine og_of (X20.iaload hx (j := (0 : Int32)) (v := (.int (3 : Int32))) (by rw [e20]; exact Arv21.1) (State.isArrayOf_alike hZ.alike Arv21.2.1) Arv21.2.2 hin22 hat22 (g := (mkF m 23 #[.val (.int (2 : Int32)), .val (.ref a1), .val (.ref b1), .val (.int (0 : Int32))] [(.int (0 : Int32)), (.ref a1), (.int (0 : Int32)), (.ref b4_3)])) rfl rfl (hb hby own_d1_23)) ?_
  show OG p e below _ _ (T20.setTop (mkF m 24 #[.val (.int (2 : Int32)), .val (.ref a1), .val (.ref b1), .val (.int (0 : Int32))] [(.int (3 : Int32)), (.int (0 : Int32)), (.ref b4_3)]))
  refine o_i2s (z := (3 : Int32)) X20 hx rfl (hb hby own_d1_24) (by decide) ?_
  obtain ⟨clv23, Arv23, qv23, Sv23, Nv23, Hv23, Gv23⟩ := id f4_9
  have hin24 : ¬ ((0 : Int32) < 0 ∨ clv23.slots.size ≤ ((0 : Int32)).toNatClampNeg) := inb_of Sv23 ⟨by decide, by decide⟩
  obtain ⟨T24, h24, X24, e24, W24, st24⟩ := stS X20 hx hZ e20 Arv23 (j := (0 : Int32)) hin24 (g := (mkF m 25 #[.val (.int (2 : Int32)), .val (.ref a1), .val (.ref b1), .val (.int (0 : Int32))] [(.int (3 : Int32)), (.int (0 : Int32)), (.ref b4_3)])) rfl rfl (hb hby own_d1_25)
  have V24 : Arv Z h24 b4_3 k_b4_3 .short (256 : Int32) [(.int (3 : Int32)), (.int (0 : Int32)), (.int (0 : Int32)), (.int (0 : Int32)), (.int (0 : Int32)), (.int (0 : Int32)), (.int (0 : Int32)), (.int (0 : Int32))] (.int (0 : Int32)) := Arv.set Arv23 qv23 Sv23 Nv23 Hv23 Gv23 (fits_nar_short _) W24 0 rfl (Nat.le_of_ble_eq_true rfl)
  have N24 := Fr.snoc X24 N16 gnb4_3
  have Kp25 : Keep h0 h24 [] := Kp17.wr W24 (Or.inr szb4_3)
  refine og_of st24 ?_
  show OG p e below _ _ (T24.setTop (mkF m 26 #[.val (.int (2 : Int32)), .val (.ref a1), .val (.ref b1), .val (.int (0 : Int32))] []))
  refine o_iinc (z := (1 : Int32)) X24 hx rfl (hb hby own_d1_26) rfl (by decide) (L' := #[.val (.int (2 : Int32)), .val (.ref a1), .val (.ref b1), .val (.int (1 : Int32))]) rfl ?_
  refine o_goto (pc' := 10) X24 hx (hb hby own_d1_29) (by decide) (by decide) ?_
  refine o_iloadN X24 hx rfl (hb hby own_d1_10) rfl ?_
  refine o_aloadN X24 hx rfl (hb hby own_d1_11) rfl rfl ?_
  have Fc26 : Arv Z h24 a1 k_a1 .int (2 : Int32) [(.int (3 : Int32)), (.int (-1 : Int32))] (.int (0 : Int32)) := (Fc18.other W24 ne12)
  obtain ⟨clv27, Arv27, qv27, Sv27, Nv27, Hv27, Gv27⟩ := id Fc26
  have hlv27 := X24.arraylength hx (by rw [e24]; exact Arv27.1) (State.isArrayOf_alike hZ.alike Arv27.2.1) (g := (mkF m 12 #[.val (.int (2 : Int32)), .val (.ref a1), .val (.ref b1), .val (.int (1 : Int32))] [(.ref a1), (.int (1 : Int32))])) rfl rfl (hb hby own_d1_12)
  rw [len_of Sv27 Nv27] at hlv27
  refine og_of hlv27 ?_
  show OG p e below _ _ (T24.setTop (mkF m 13 #[.val (.int (2 : Int32)), .val (.ref a1), .val (.ref b1), .val (.int (1 : Int32))] [(.int (2 : Int32)), (.int (1 : Int32))]))
  refine o_icmpN (pc' := 16) X24 hx rfl (hb hby own_d1_13) (tlt (by decide : ((1 : Int32) < (2 : Int32)))).2.1 ?_
  refine o_aloadN X24 hx rfl (hb hby own_d1_16) rfl rfl ?_
  have Fc28 : Fld Z h24 b1 "tidemark/record/FseTable" "counts" "[S" (.ref b4_3) := (Fld.other W24 f4_3 (Or.inl ne13))
  obtain ⟨T29, X29, e29, st29⟩ := getF X24 hx hZ hown (host := "") (Or.inl (hw _ (List.mem_of_getElem? (i := 21) rfl))) Via.refl e24 Fc28 (g := (mkF m 17 #[.val (.int (2 : Int32)), .val (.ref a1), .val (.ref b1), .val (.int (1 : Int32))] [(.ref b1)])) rfl rfl (hb hby own_d1_17)
  refine og_of st29 ?_
  show OG p e below _ _ (T29.setTop (mkF m 20 #[.val (.int (2 : Int32)), .val (.ref a1), .val (.ref b1), .val (.int (1 : Int32))] [(.ref b4_3)]))
  refine o_iloadN X29 hx rfl (hb hby own_d1_20) rfl ?_
  refine o_aloadN X29 hx rfl (hb hby own_d1_21) rfl rfl ?_
  refine o_iloadN X29 hx rfl (hb hby own_d1_22) rfl ?_
  obtain ⟨clv30, Arv30, qv30, Sv30, Nv30, Hv30, Gv30⟩ := id Fc26
  have hin31 : ¬ ((1 : Int32) < 0 ∨ clv30.slots.size ≤ ((1 : Int32)).toNatClampNeg) := inb_of Sv30 ⟨by decide, by decide⟩
  have hat31 : clv30.slots[((1 : Int32)).toNatClampNeg]? = some (.int (-1 : Int32)) := Hv30.at hin31 rfl
  refine og_of (X29.iaload hx (j := (1 : Int32)) (v := (.int (-1 : Int32))) (by rw [e29]; exact Arv30.1) (State.isArrayOf_alike hZ.alike Arv30.2.1) Arv30.2.2 hin31 hat31 (g := (mkF m 23 #[.val (.int (2 : Int32)), .val (.ref a1), .val (.ref b1), .val (.int (1 : Int32))] [(.int (1 : Int32)), (.ref a1), (.int (1 : Int32)), (.ref b4_3)])) rfl rfl (hb hby own_d1_23)) ?_
  show OG p e below _ _ (T29.setTop (mkF m 24 #[.val (.int (2 : Int32)), .val (.ref a1), .val (.ref b1), .val (.int (1 : Int32))] [(.int (-1 : Int32)), (.int (1 : Int32)), (.ref b4_3)]))
  refine o_i2s (z := (-1 : Int32)) X29 hx rfl (hb hby own_d1_24) (by decide) ?_
  obtain ⟨clv32, Arv32, qv32, Sv32, Nv32, Hv32, Gv32⟩ := id V24
  have hin33 : ¬ ((1 : Int32) < 0 ∨ clv32.slots.size ≤ ((1 : Int32)).toNatClampNeg) := inb_of Sv32 ⟨by decide, by decide⟩
  obtain ⟨T33, h33, X33, e33, W33, st33⟩ := stS X29 hx hZ e29 Arv32 (j := (1 : Int32)) hin33 (g := (mkF m 25 #[.val (.int (2 : Int32)), .val (.ref a1), .val (.ref b1), .val (.int (1 : Int32))] [(.int (-1 : Int32)), (.int (1 : Int32)), (.ref b4_3)])) rfl rfl (hb hby own_d1_25)
  have V33 : Arv Z h33 b4_3 k_b4_3 .short (256 : Int32) [(.int (3 : Int32)), (.int (-1 : Int32)), (.int (0 : Int32)), (.int (0 : Int32)), (.int (0 : Int32)), (.int (0 : Int32)), (.int (0 : Int32)), (.int (0 : Int32))] (.int (0 : Int32)) := Arv.set Arv32 qv32 Sv32 Nv32 Hv32 Gv32 (fits_nar_short _) W33 1 rfl (Nat.le_of_ble_eq_true rfl)
  have N33 := Fr.snoc X33 N24 gnb4_3
  have Kp34 : Keep h0 h33 [] := Kp25.wr W33 (Or.inr szb4_3)
  refine og_of st33 ?_
  show OG p e below _ _ (T33.setTop (mkF m 26 #[.val (.int (2 : Int32)), .val (.ref a1), .val (.ref b1), .val (.int (1 : Int32))] []))
  refine o_iinc (z := (2 : Int32)) X33 hx rfl (hb hby own_d1_26) rfl (by decide) (L' := #[.val (.int (2 : Int32)), .val (.ref a1), .val (.ref b1), .val (.int (2 : Int32))]) rfl ?_
  refine o_goto (pc' := 10) X33 hx (hb hby own_d1_29) (by decide) (by decide) ?_
  refine o_iloadN X33 hx rfl (hb hby own_d1_10) rfl ?_
  refine o_aloadN X33 hx rfl (hb hby own_d1_11) rfl rfl ?_
  have Fc35 : Arv Z h33 a1 k_a1 .int (2 : Int32) [(.int (3 : Int32)), (.int (-1 : Int32))] (.int (0 : Int32)) := (Fc26.other W33 ne12)
  obtain ⟨clv36, Arv36, qv36, Sv36, Nv36, Hv36, Gv36⟩ := id Fc35
  have hlv36 := X33.arraylength hx (by rw [e33]; exact Arv36.1) (State.isArrayOf_alike hZ.alike Arv36.2.1) (g := (mkF m 12 #[.val (.int (2 : Int32)), .val (.ref a1), .val (.ref b1), .val (.int (2 : Int32))] [(.ref a1), (.int (2 : Int32))])) rfl rfl (hb hby own_d1_12)
  rw [len_of Sv36 Nv36] at hlv36
  refine og_of hlv36 ?_
  show OG p e below _ _ (T33.setTop (mkF m 13 #[.val (.int (2 : Int32)), .val (.ref a1), .val (.ref b1), .val (.int (2 : Int32))] [(.int (2 : Int32)), (.int (2 : Int32))]))
  refine o_icmpY (pc' := 32) X33 hx (hb hby own_d1_13) (flt (by decide : ¬ ((2 : Int32) < (2 : Int32)))).2.1 (by decide) (by decide) ?_
  refine o_aloadN X33 hx rfl (hb hby own_d1_32) rfl rfl ?_
  refine o_aloadN X33 hx rfl (hb hby own_d1_33) rfl rfl ?_
  obtain ⟨clv37, Arv37, qv37, Sv37, Nv37, Hv37, Gv37⟩ := id Fc35
  have hlv37 := X33.arraylength hx (by rw [e33]; exact Arv37.1) (State.isArrayOf_alike hZ.alike Arv37.2.1) (g := (mkF m 34 #[.val (.int (2 : Int32)), .val (.ref a1), .val (.ref b1), .val (.int (2 : Int32))] [(.ref a1), (.ref b1)])) rfl rfl (hb hby own_d1_34)
  rw [len_of Sv37 Nv37] at hlv37
  refine og_of hlv37 ?_
  show OG p e below _ _ (T33.setTop (mkF m 35 #[.val (.int (2 : Int32)), .val (.ref a1), .val (.ref b1), .val (.int (2 : Int32))] [(.int (2 : Int32)), (.ref b1)]))
  refine o_iloadN X33 hx rfl (hb hby own_d1_35) rfl ?_
  have Fc39 : Exa Z h33 b1 "tidemark/record/FseTable" := (Exa.wr W33 (Exa.wr W24 (A1.keep K4)))
  have Fc40 : Fld Z h33 b1 "tidemark/record/FseTable" "symbols" "[B" (.ref b4_0) := (Fld.other W33 (Fld.other W24 f4_0 (Or.inl ne13)) (Or.inl ne13))
  have Fc41 : Fld Z h33 b1 "tidemark/record/FseTable" "bits" "[B" (.ref b4_1) := (Fld.other W33 (Fld.other W24 f4_1 (Or.inl ne13)) (Or.inl ne13))
  have Fc42 : Fld Z h33 b1 "tidemark/record/FseTable" "bases" "[S" (.ref b4_2) := (Fld.other W33 (Fld.other W24 f4_2 (Or.inl ne13)) (Or.inl ne13))
  have Fc43 : Fld Z h33 b1 "tidemark/record/FseTable" "counts" "[S" (.ref b4_3) := (Fld.other W33 Fc28 (Or.inl ne13))
  have Fc44 : Fld Z h33 b1 "tidemark/record/FseTable" "next" "[I" (.ref b4_4) := (Fld.other W33 (Fld.other W24 f4_4 (Or.inl ne13)) (Or.inl ne13))
  have Fc45 : Fld Z h33 b1 "tidemark/record/FseTable" "accuracyLog" "I" (.int (0 : Int32)) := (Fld.other W33 (Fld.other W24 f4_5 (Or.inl ne13)) (Or.inl ne13))
  have Fc46 : Arv Z h33 b4_0 k_b4_0 .byte (512 : Int32) [(.int (0 : Int32)), (.int (0 : Int32)), (.int (0 : Int32)), (.int (0 : Int32)), (.int (0 : Int32)), (.int (0 : Int32)), (.int (0 : Int32)), (.int (0 : Int32))] (.int (0 : Int32)) := ((f4_6.other W24 nn4_0_3).other W33 nn4_0_3)
  have Fc47 : Arv Z h33 b4_1 k_b4_1 .byte (512 : Int32) [(.int (0 : Int32)), (.int (0 : Int32)), (.int (0 : Int32)), (.int (0 : Int32)), (.int (0 : Int32)), (.int (0 : Int32)), (.int (0 : Int32)), (.int (0 : Int32))] (.int (0 : Int32)) := ((f4_7.other W24 nn4_1_3).other W33 nn4_1_3)
  have Fc48 : Arv Z h33 b4_2 k_b4_2 .short (512 : Int32) [(.int (0 : Int32)), (.int (0 : Int32)), (.int (0 : Int32)), (.int (0 : Int32)), (.int (0 : Int32)), (.int (0 : Int32)), (.int (0 : Int32)), (.int (0 : Int32))] (.int (0 : Int32)) := ((f4_8.other W24 nn4_2_3).other W33 nn4_2_3)
  have Fc49 : Arv Z h33 b4_4 k_b4_4 .int (256 : Int32) [(.int (0 : Int32)), (.int (0 : Int32)), (.int (0 : Int32)), (.int (0 : Int32)), (.int (0 : Int32)), (.int (0 : Int32)), (.int (0 : Int32)), (.int (0 : Int32))] (.int (0 : Int32)) := ((f4_10.other W24 (Ne.symm nn4_3_4)).other W33 (Ne.symm nn4_3_4))
  obtain ⟨cq38, q38, q38'⟩ := Fc39.cell
  obtain ⟨_, _, ⟨T38, L38, k38, n38⟩, -, X38, ⟨Lc38, hQ38, l38, y38, z38⟩, st38⟩ := X33.privateBack hx (y := (⟨"tidemark/record/FseTable", "build", "(II)V"⟩ : MethodName)) hown (mvT hZ (hw _ (List.mem_of_getElem? (i := 25) rfl))) (mvT hZ (hw _ (List.mem_of_getElem? (i := 26) rfl))) (own_selp hZ (hw _ (List.mem_of_getElem? (i := 6) rfl)) (hw _ (List.mem_of_getElem? (i := 27) rfl)) (hw _ (List.mem_of_getElem? (i := 26) rfl)) (by decide)) (Cond.privateMethod_at (mvP hZ (hw _ (List.mem_of_getElem? (i := 27) rfl)) (args := #[]))) (mvT hZ (hw _ (List.mem_of_getElem? (i := 28) rfl))) (by decide) (backOf (W := 0) (own_rm4 l Z aA hw [] b1 b4_0 b4_1 b4_2 b4_3 b4_4 k_b4_0 k_b4_1 k_b4_2 k_b4_3 k_b4_4 h33 n0 (Nat.le_trans (Nat.le_trans (Nat.le_trans (Nat.le_trans Z0 E1.1) K4.1) (Keep.of_wr W24).1) (Keep.of_wr W33).1) Fc39 Fc40 Fc41 Fc42 Fc43 Fc44 Fc45 Fc46 Fc47 Fc48 V33 Fc49 gn1 gnb4_0 gnb4_1 gnb4_2 gnb4_3 gnb4_4 ne7 ne9 ne11 ne13 ne15 nn4_0_1 nn4_0_2 nn4_0_3 nn4_0_4 nn4_1_2 nn4_1_3 nn4_1_4 nn4_2_3 nn4_2_4 nn4_3_4) hZ (hw _ (List.mem_of_getElem? (i := 28) rfl)) (hw _ (List.mem_of_getElem? (i := 3) rfl)) (by decide) (by decide)) (g := (mkF m 36 #[.val (.int (2 : Int32)), .val (.ref a1), .val (.ref b1), .val (.int (2 : Int32))] [(.int (2 : Int32)), (.int (2 : Int32)), (.ref b1)])) rfl (by rw [hml]; rfl) (Steps.refl _) (a := b1) (by rw [e33]; exact q38) q38' (argsL := [(.int (2 : Int32)), (.int (2 : Int32))]) (rest := []) (lenOf own_pd2 rfl) rfl (by show 2 * 0 + _ ≤ _; exact Nat.le_of_eq rfl) (hb hby own_d1_36) (fun _ _ => ⟨rfl, e33, Nat.le_of_ble_eq_true rfl, Nat.le_of_ble_eq_true rfl⟩)
  dsimp only [Pt.U, Pt.locs, Pt.cells, Pt.slots] at X38 l38 y38 z38 st38 hQ38
  subst l38 y38 z38
  obtain ⟨rfl, N38q, K38, f38_0, f38_1, f38_2, f38_3, f38_4, f38_5, f38_6, f38_7, f38_8, f38_9⟩ := hQ38
  have N50 := Fr.app N33 N38q
  have Kp51 : Keep h0 T38.heap [] := Kp34.trans K38 (allS (Or.inr sz1) (allS (Or.inr szb4_0) (allS (Or.inr szb4_1) (allS (Or.inr szb4_2) (allS (Or.inr szb4_4) all0)))))
  refine og_tr st38 ?_
  show OG p e below _ _ (T38.setTop (mkF m 39 #[.val (.int (2 : Int32)), .val (.ref a1), .val (.ref b1), .val (.int (2 : Int32))] []))
  refine o_goto (pc' := 54) X38 hx (hb hby own_d1_39) (by decide) (by decide) ?_
  refine o_aloadN X38 hx rfl (hb hby own_d1_54) rfl rfl ?_
  have Fc52 : Exa Z T38.heap b1 "tidemark/record/FseTable" := (Fc39.keep K38)
  exact o_retA X38 hx Bd.returns rfl (own_lv X38 hlk (by decide) (by decide)) (hb hby own_d1_55) rfl rfl ⟨b1, b4_0, b4_1, b4_2, k_b4_0, k_b4_1, k_b4_2, rfl, N50, (Kp51), sz1, szb4_0, szb4_1, szb4_2, ne7, ne9, ne11, nn4_0_1, nn4_0_2, nn4_1_2, Fc52, f38_0, f38_1, f38_2, f38_5, f38_6, f38_7, f38_8⟩
theorem own_d6_0 : decode prog_170_method_7_code 0 = .ok (.aload_n 0, 1) := by decide +kernel
theorem own_d6_1 : decode prog_170_method_7_code 1 = .ok (.iconst 0, 1) := by decide +kernel
theorem own_d6_2 : decode prog_170_method_7_code 2 = .ok (.putfield 41, 3) := by decide +kernel
theorem own_d6_5 : decode prog_170_method_7_code 5 = .ok (.aload_n 0, 1) := by decide +kernel
theorem own_d6_6 : decode prog_170_method_7_code 6 = .ok (.getfield 9, 3) := by decide +kernel
theorem own_d6_9 : decode prog_170_method_7_code 9 = .ok (.iconst 0, 1) := by decide +kernel
theorem own_d6_10 : decode prog_170_method_7_code 10 = .ok (.iload_n 1, 1) := by decide +kernel
theorem own_d6_11 : decode prog_170_method_7_code 11 = .ok (.i2b, 1) := by decide +kernel
theorem own_d6_12 : decode prog_170_method_7_code 12 = .ok (.bastore, 1) := by decide +kernel
theorem own_d6_13 : decode prog_170_method_7_code 13 = .ok (.aload_n 0, 1) := by decide +kernel
theorem own_d6_14 : decode prog_170_method_7_code 14 = .ok (.getfield 13, 3) := by decide +kernel
theorem own_d6_17 : decode prog_170_method_7_code 17 = .ok (.iconst 0, 1) := by decide +kernel
theorem own_d6_18 : decode prog_170_method_7_code 18 = .ok (.iconst 0, 1) := by decide +kernel
theorem own_d6_19 : decode prog_170_method_7_code 19 = .ok (.bastore, 1) := by decide +kernel
theorem own_d6_20 : decode prog_170_method_7_code 20 = .ok (.aload_n 0, 1) := by decide +kernel
theorem own_d6_21 : decode prog_170_method_7_code 21 = .ok (.getfield 16, 3) := by decide +kernel
theorem own_d6_24 : decode prog_170_method_7_code 24 = .ok (.iconst 0, 1) := by decide +kernel
theorem own_d6_25 : decode prog_170_method_7_code 25 = .ok (.iconst 0, 1) := by decide +kernel
theorem own_d6_26 : decode prog_170_method_7_code 26 = .ok (.sastore, 1) := by decide +kernel
theorem own_d6_27 : decode prog_170_method_7_code 27 = .ok (.return_, 1) := by decide +kernel
theorem own_ef6 (m : MethodId) (a0 : Addr) (p1 : Int32) : entryFrame m #[(.ref a0), (.int p1)] 2 = mkF m 0 #[.val (.ref a0), .val (.int p1)] [] := by first | (simp [entryFrame, mkF, argsToLocals, Value.category]; done) | rfl
def own_Q6 (Z : State) (a0 : Addr) (p1 : Int32) (s1 : Addr) (s2 : Addr) (s3 : Addr) (k_s1 : ClassId) (k_s2 : ClassId) (k_s3 : ClassId) (x0 : Int32) (x1 : Int32) (x2 : Int32) (x3 : Int32) (x4 : Int32) (x5 : Int32) (x6 : Int32) (x7 : Int32) (y0 : Int32) (y1 : Int32) (y2 : Int32) (y3 : Int32) (y4 : Int32) (y5 : Int32) (y6 : Int32) (y7 : Int32) (w0 : Int32) (w1 : Int32) (w2 : Int32) (w3 : Int32) (w4 : Int32) (w5 : Int32) (w6 : Int32) (w7 : Int32) (ac : Int32) (h0 : Heap) (n0 : Nat) (v : Option Value) (h : Heap) (L : List Loc) : Prop := v = none ∧ Fr n0 L ∧ Keep h0 h [a0, s1, s2, s3] ∧ Fld Z h a0 "tidemark/record/FseTable" "symbols" "[B" (.ref s1) ∧ Fld Z h a0 "tidemark/record/FseTable" "bits" "[B" (.ref s2) ∧ Fld Z h a0 "tidemark/record/FseTable" "bases" "[S" (.ref s3) ∧ Fld Z h a0 "tidemark/record/FseTable" "accuracyLog" "I" (.int (0 : Int32)) ∧ Arv Z h s1 k_s1 .byte (512 : Int32) [(.int (nar .byte (p1.toInt8.toInt32))), (.int x1), (.int x2), (.int x3), (.int x4), (.int x5), (.int x6), (.int x7)] (.int (0 : Int32)) ∧ Arv Z h s2 k_s2 .byte (512 : Int32) [(.int (0 : Int32)), (.int y1), (.int y2), (.int y3), (.int y4), (.int y5), (.int y6), (.int y7)] (.int (0 : Int32)) ∧ Arv Z h s3 k_s3 .short (512 : Int32) [(.int (0 : Int32)), (.int w1), (.int w2), (.int w3), (.int w4), (.int w5), (.int w6), (.int w7)] (.int (0 : Int32))
set_option maxRecDepth 65536 in
set_option maxHeartbeats 40000000 in
theorem own_rm6 (l : Launch) (Z : State) (aA : Array Value) (hw : ∀ d ∈ tables_1, d.before aA Z = true) (ws : List Jvm.Cond) (a0 : Addr) (p1 : Int32) (s1 : Addr) (s2 : Addr) (s3 : Addr) (k_s1 : ClassId) (k_s2 : ClassId) (k_s3 : ClassId) (x0 : Int32) (x1 : Int32) (x2 : Int32) (x3 : Int32) (x4 : Int32) (x5 : Int32) (x6 : Int32) (x7 : Int32) (y0 : Int32) (y1 : Int32) (y2 : Int32) (y3 : Int32) (y4 : Int32) (y5 : Int32) (y6 : Int32) (y7 : Int32) (w0 : Int32) (w1 : Int32) (w2 : Int32) (w3 : Int32) (w4 : Int32) (w5 : Int32) (w6 : Int32) (w7 : Int32) (ac : Int32) (h0 : Heap) (n0 : Nat) (Z0 : n0 ≤ h0.size) (pre0 : Exa Z h0 a0 "tidemark/record/FseTable") (pre1 : Fld Z h0 a0 "tidemark/record/FseTable" "symbols" "[B" (.ref s1)) (pre2 : Fld Z h0 a0 "tidemark/record/FseTable" "bits" "[B" (.ref s2)) (pre3 : Fld Z h0 a0 "tidemark/record/FseTable" "bases" "[S" (.ref s3)) (pre4 : Fld Z h0 a0 "tidemark/record/FseTable" "accuracyLog" "I" (.int ac)) (pre5 : Arv Z h0 s1 k_s1 .byte (512 : Int32) [(.int x0), (.int x1), (.int x2), (.int x3), (.int x4), (.int x5), (.int x6), (.int x7)] (.int (0 : Int32))) (pre6 : Arv Z h0 s2 k_s2 .byte (512 : Int32) [(.int y0), (.int y1), (.int y2), (.int y3), (.int y4), (.int y5), (.int y6), (.int y7)] (.int (0 : Int32))) (pre7 : Arv Z h0 s3 k_s3 .short (512 : Int32) [(.int w0), (.int w1), (.int w2), (.int w3), (.int w4), (.int w5), (.int w6), (.int w7)] (.int (0 : Int32))) (pre8 : n0 ≤ a0) (pre9 : n0 ≤ s1) (pre10 : n0 ≤ s2) (pre11 : n0 ≤ s3) (pre12 : a0 ≠ s1) (pre13 : a0 ≠ s2) (pre14 : a0 ≠ s3) (pre15 : s1 ≠ s2) (pre16 : s1 ≠ s3) (pre17 : s2 ≠ s3) :
    MetFree l (⟨"tidemark/record/FseTable", "single", "(I)V"⟩ : MethodName) (head1 (Jvm.Cond.code (⟨"tidemark/record/FseTable", "single", "(I)V"⟩ : MethodName) prog_170_method_7_code 2 none :: ws) ({ frames := 0, cells := 0, slots := 0, locals := 0 } : Room)) (fun a U => a = #[(.ref a0), (.int p1)] ∧ Z.Warmed39 U.vm ∧ U.heap = h0) (fun _ _ _ _ _ => True) (fun _ U o U' => ∃ v L, o = .returned v ∧ own_Q6 Z a0 p1 s1 s2 s3 k_s1 k_s2 k_s3 x0 x1 x2 x3 x4 x5 x6 x7 y0 y1 y2 y3 y4 y5 y6 y7 w0 w1 w2 w3 w4 w5 w6 w7 ac h0 n0 v U'.heap L ∧ FrameEnd U o U' L ({ frames := 0, cells := 0, slots := 0, locals := 0 } : Room).cells ({ frames := 0, cells := 0, slots := 0, locals := 0 } : Room).slots) := by
  refine MetFree.of_bodySF (plainFor_of_name own_pn23) hisR ?_
  intro p e s m args below meth c s₁ Bd hml0 hP hK
  obtain ⟨rfl, hZ, hh⟩ := hP
  have hx := Bd.exec
  have hby := Bd.bytes
  have hlk : meth.locks = false := Bd.notSynchronized
  have hml : c.maxLocals = 2 := hml0
  have hown : s.vm.findClass "tidemark/record/FseTable" = some m.cls := findClass_of_methodNamed Bd.named
  have hnm := (name_of_methodNamed Bd.named Bd.method).1
  have X0 : Stand p l e ({ frames := 0, cells := 0, slots := 0, locals := 0 } : Room) s m #[(.ref a0), (.int p1)] below meth c s₁ [] 0 0 := Stand.of_body Bd
  have e0 : s₁.heap = h0 := by rw [← hh, Bd.state]; rfl
  have N0 := Fr.nil n0
  show OG p e below (FE s ({ frames := 0, cells := 0, slots := 0, locals := 0 } : Room).cells ({ frames := 0, cells := 0, slots := 0, locals := 0 } : Room).slots) (own_Q6 Z a0 p1 s1 s2 s3 k_s1 k_s2 k_s3 x0 x1 x2 x3 x4 x5 x6 x7 y0 y1 y2 y3 y4 y5 y6 y7 w0 w1 w2 w3 w4 w5 w6 w7 ac h0 n0) (s₁.setTop (entryFrame m #[(.ref a0), (.int p1)] 2))
  refine og_of (fun _ k => castTop (own_ef6 m a0 p1) k) ?_
  refine o_aloadN X0 hx rfl (hb hby own_d6_0) rfl rfl ?_
  refine o_iconst (z := (0 : Int32)) X0 hx rfl (hb hby own_d6_1) (by decide) ?_
  obtain ⟨T1, h1, X1, e1, W1, st1⟩ := putF X0 hx hZ hown (host := "") (Or.inl (hw _ (List.mem_of_getElem? (i := 34) rfl))) Via.refl e0 pre4 pre0 (Or.inl (hw _ (List.mem_of_getElem? (i := 35) rfl))) (hw _ (List.mem_of_getElem? (i := 6) rfl)) (ty := .int) (by decide) rfl rfl (g := (mkF m 2 #[.val (.ref a0), .val (.int p1)] [(.int (0 : Int32)), (.ref a0)])) rfl rfl (hb hby own_d6_2)
  have Fw1 := pre4.same W1
  have N1 := Fr.snoc X1 N0 pre8
  have Kp2 : Keep h0 h1 [a0, s1, s2, s3] := (Keep.refl h0 [a0, s1, s2, s3]).wr W1 (Or.inl (List.mem_of_getElem? (i := 0) rfl))
  refine og_of st1 ?_
  show OG p e below _ _ (T1.setTop (mkF m 5 #[.val (.ref a0), .val (.int p1)] []))
  refine o_aloadN X1 hx rfl (hb hby own_d6_5) rfl rfl ?_
  have Fc3 : Fld Z h1 a0 "tidemark/record/FseTable" "symbols" "[B" (.ref s1) := (Fld.other W1 pre1 (Or.inr (slot_ne (Or.inr (hw _ (List.mem_of_getElem? (i := 15) rfl))) (Or.inl (hw _ (List.mem_of_getElem? (i := 35) rfl))) (by decide) (t := (.array .byte)) (t' := .int) (by decide) (by decide))))
  obtain ⟨T4, X4, e4, st4⟩ := getF X1 hx hZ hown (host := "") (Or.inl (hw _ (List.mem_of_getElem? (i := 14) rfl))) Via.refl e1 Fc3 (g := (mkF m 6 #[.val (.ref a0), .val (.int p1)] [(.ref a0)])) rfl rfl (hb hby own_d6_6)
  refine og_of st4 ?_
  show OG p e below _ _ (T4.setTop (mkF m 9 #[.val (.ref a0), .val (.int p1)] [(.ref s1)]))
  refine o_iconst (z := (0 : Int32)) X4 hx rfl (hb hby own_d6_9) (by decide) ?_
  refine o_iloadN X4 hx rfl (hb hby own_d6_10) rfl ?_
  refine o_i2b (z := (p1.toInt8.toInt32)) X4 hx rfl (hb hby own_d6_11) rfl ?_
  have Fc5 : Arv Z h1 s1 k_s1 .byte (512 : Int32) [(.int x0), (.int x1), (.int x2), (.int x3), (.int x4), (.int x5), (.int x6), (.int x7)] (.int (0 : Int32)) := (pre5.other W1 (Ne.symm pre12))
  obtain ⟨clv6, Arv6, qv6, Sv6, Nv6, Hv6, Gv6⟩ := id Fc5
  have hin7 : ¬ ((0 : Int32) < 0 ∨ clv6.slots.size ≤ ((0 : Int32)).toNatClampNeg) := inb_of Sv6 ⟨by decide, by decide⟩
  obtain ⟨T7, h7, X7, e7, W7, st7⟩ := stB X4 hx hZ e4 Arv6 (j := (0 : Int32)) hin7 (g := (mkF m 12 #[.val (.ref a0), .val (.int p1)] [(.int (p1.toInt8.toInt32)), (.int (0 : Int32)), (.ref s1)])) rfl rfl (hb hby own_d6_12)
  have V7 : Arv Z h7 s1 k_s1 .byte (512 : Int32) [(.int (nar .byte (p1.toInt8.toInt32))), (.int x1), (.int x2), (.int x3), (.int x4), (.int x5), (.int x6), (.int x7)] (.int (0 : Int32)) := Arv.set Arv6 qv6 Sv6 Nv6 Hv6 Gv6 (fits_nar_byte _) W7 0 rfl (Nat.le_of_ble_eq_true rfl)
  have N7 := Fr.snoc X7 N1 pre9
  have Kp8 : Keep h0 h7 [a0, s1, s2, s3] := Kp2.wr W7 (Or.inl (List.mem_of_getElem? (i := 1) rfl))
  refine og_of st7 ?_
  show OG p e below _ _ (T7.setTop (mkF m 13 #[.val (.ref a0), .val (.int p1)] []))
  refine o_aloadN X7 hx rfl (hb hby own_d6_13) rfl rfl ?_
  have Fc9 : Fld Z h7 a0 "tidemark/record/FseTable" "bits" "[B" (.ref s2) := (Fld.other W7 (Fld.other W1 pre2 (Or.inr (slot_ne (Or.inr (hw _ (List.mem_of_getElem? (i := 17) rfl))) (Or.inl (hw _ (List.mem_of_getElem? (i := 35) rfl))) (by decide) (t := (.array .byte)) (t' := .int) (by decide) (by decide)))) (Or.inl pre12))
  obtain ⟨T10, X10, e10, st10⟩ := getF X7 hx hZ hown (host := "") (Or.inl (hw _ (List.mem_of_getElem? (i := 16) rfl))) Via.refl e7 Fc9 (g := (mkF m 14 #[.val (.ref a0), .val (.int p1)] [(.ref a0)])) rfl rfl (hb hby own_d6_14)
  refine og_of st10 ?_
  show OG p e below _ _ (T10.setTop (mkF m 17 #[.val (.ref a0), .val (.int p1)] [(.ref s2)]))
  refine o_iconst (z := (0 : Int32)) X10 hx rfl (hb hby own_d6_17) (by decide) ?_
  refine o_iconst (z := (0 : Int32)) X10 hx rfl (hb hby own_d6_18) (by decide) ?_
  have Fc11 : Arv Z h7 s2 k_s2 .byte (512 : Int32) [(.int y0), (.int y1), (.int y2), (.int y3), (.int y4), (.int y5), (.int y6), (.int y7)] (.int (0 : Int32)) := ((pre6.other W1 (Ne.symm pre13)).other W7 (Ne.symm pre15))
  obtain ⟨clv12, Arv12, qv12, Sv12, Nv12, Hv12, Gv12⟩ := id Fc11
  have hin13 : ¬ ((0 : Int32) < 0 ∨ clv12.slots.size ≤ ((0 : Int32)).toNatClampNeg) := inb_of Sv12 ⟨by decide, by decide⟩
  obtain ⟨T13, h13, X13, e13, W13, st13⟩ := stB X10 hx hZ e10 Arv12 (j := (0 : Int32)) hin13 (g := (mkF m 19 #[.val (.ref a0), .val (.int p1)] [(.int (0 : Int32)), (.int (0 : Int32)), (.ref s2)])) rfl rfl (hb hby own_d6_19)
  have V13 : Arv Z h13 s2 k_s2 .byte (512 : Int32) [(.int (0 : Int32)), (.int y1), (.int y2), (.int y3), (.int y4), (.int y5), (.int y6), (.int y7)] (.int (0 : Int32)) := Arv.set Arv12 qv12 Sv12 Nv12 Hv12 Gv12 (fits_nar_byte _) W13 0 rfl (Nat.le_of_ble_eq_true rfl)
  have N13 := Fr.snoc X13 N7 pre10
  have Kp14 : Keep h0 h13 [a0, s1, s2, s3] := Kp8.wr W13 (Or.inl (List.mem_of_getElem? (i := 2) rfl))
  refine og_of st13 ?_
  show OG p e below _ _ (T13.setTop (mkF m 20 #[.val (.ref a0), .val (.int p1)] []))
  refine o_aloadN X13 hx rfl (hb hby own_d6_20) rfl rfl ?_
  have Fc15 : Fld Z h13 a0 "tidemark/record/FseTable" "bases" "[S" (.ref s3) := (Fld.other W13 (Fld.other W7 (Fld.other W1 pre3 (Or.inr (slot_ne (Or.inr (hw _ (List.mem_of_getElem? (i := 20) rfl))) (Or.inl (hw _ (List.mem_of_getElem? (i := 35) rfl))) (by decide) (t := (.array .short)) (t' := .int) (by decide) (by decide)))) (Or.inl pre12)) (Or.inl pre13))
  obtain ⟨T16, X16, e16, st16⟩ := getF X13 hx hZ hown (host := "") (Or.inl (hw _ (List.mem_of_getElem? (i := 19) rfl))) Via.refl e13 Fc15 (g := (mkF m 21 #[.val (.ref a0), .val (.int p1)] [(.ref a0)])) rfl rfl (hb hby own_d6_21)
  refine og_of st16 ?_
  show OG p e below _ _ (T16.setTop (mkF m 24 #[.val (.ref a0), .val (.int p1)] [(.ref s3)]))
  refine o_iconst (z := (0 : Int32)) X16 hx rfl (hb hby own_d6_24) (by decide) ?_
  refine o_iconst (z := (0 : Int32)) X16 hx rfl (hb hby own_d6_25) (by decide) ?_
  have Fc17 : Arv Z h13 s3 k_s3 .short (512 : Int32) [(.int w0), (.int w1), (.int w2), (.int w3), (.int w4), (.int w5), (.int w6), (.int w7)] (.int (0 : Int32)) := (((pre7.other W1 (Ne.symm pre14)).other W7 (Ne.symm pre16)).other W13 (Ne.symm pre17))
  obtain ⟨clv18, Arv18, qv18, Sv18, Nv18, Hv18, Gv18⟩ := id Fc17
  have hin19 : ¬ ((0 : Int32) < 0 ∨ clv18.slots.size ≤ ((0 : Int32)).toNatClampNeg) := inb_of Sv18 ⟨by decide, by decide⟩
  obtain ⟨T19, h19, X19, e19, W19, st19⟩ := stS X16 hx hZ e16 Arv18 (j := (0 : Int32)) hin19 (g := (mkF m 26 #[.val (.ref a0), .val (.int p1)] [(.int (0 : Int32)), (.int (0 : Int32)), (.ref s3)])) rfl rfl (hb hby own_d6_26)
  have V19 : Arv Z h19 s3 k_s3 .short (512 : Int32) [(.int (0 : Int32)), (.int w1), (.int w2), (.int w3), (.int w4), (.int w5), (.int w6), (.int w7)] (.int (0 : Int32)) := Arv.set Arv18 qv18 Sv18 Nv18 Hv18 Gv18 (fits_nar_short _) W19 0 rfl (Nat.le_of_ble_eq_true rfl)
  have N19 := Fr.snoc X19 N13 pre11
  have Kp20 : Keep h0 h19 [a0, s1, s2, s3] := Kp14.wr W19 (Or.inl (List.mem_of_getElem? (i := 3) rfl))
  refine og_of st19 ?_
  show OG p e below _ _ (T19.setTop (mkF m 27 #[.val (.ref a0), .val (.int p1)] []))
  have Fc21 : Fld Z h19 a0 "tidemark/record/FseTable" "symbols" "[B" (.ref s1) := (Fld.other W19 (Fld.other W13 (Fld.other W7 Fc3 (Or.inl pre12)) (Or.inl pre13)) (Or.inl pre14))
  have Fc22 : Fld Z h19 a0 "tidemark/record/FseTable" "bits" "[B" (.ref s2) := (Fld.other W19 (Fld.other W13 Fc9 (Or.inl pre13)) (Or.inl pre14))
  have Fc23 : Fld Z h19 a0 "tidemark/record/FseTable" "bases" "[S" (.ref s3) := (Fld.other W19 Fc15 (Or.inl pre14))
  have Fc24 : Fld Z h19 a0 "tidemark/record/FseTable" "accuracyLog" "I" (.int (0 : Int32)) := (Fld.other W19 (Fld.other W13 (Fld.other W7 Fw1 (Or.inl pre12)) (Or.inl pre13)) (Or.inl pre14))
  have Fc25 : Arv Z h19 s1 k_s1 .byte (512 : Int32) [(.int (nar .byte (p1.toInt8.toInt32))), (.int x1), (.int x2), (.int x3), (.int x4), (.int x5), (.int x6), (.int x7)] (.int (0 : Int32)) := ((V7.other W13 pre15).other W19 pre16)
  have Fc26 : Arv Z h19 s2 k_s2 .byte (512 : Int32) [(.int (0 : Int32)), (.int y1), (.int y2), (.int y3), (.int y4), (.int y5), (.int y6), (.int y7)] (.int (0 : Int32)) := (V13.other W19 pre17)
  exact o_ret0 X19 hx Bd.returns (own_lv X19 hlk (by decide) (by decide)) (hb hby own_d6_27) ⟨rfl, N19, (by rw [e19]; exact Kp20), (by rw [e19]; exact Fc21), (by rw [e19]; exact Fc22), (by rw [e19]; exact Fc23), (by rw [e19]; exact Fc24), (by rw [e19]; exact Fc25), (by rw [e19]; exact Fc26), (by rw [e19]; exact V19)⟩
theorem own_d7_0 : decode prog_170_method_3_code 0 = .ok (.aload_n 0, 1) := by decide +kernel
theorem own_d7_1 : decode prog_170_method_3_code 1 = .ok (.getfield 41, 3) := by decide +kernel
theorem own_d7_4 : decode prog_170_method_3_code 4 = .ok (.ireturn, 1) := by decide +kernel
theorem own_ef7 (m : MethodId) (a0 : Addr) : entryFrame m #[(.ref a0)] 1 = mkF m 0 #[.val (.ref a0)] [] := by first | (simp [entryFrame, mkF, argsToLocals, Value.category]; done) | rfl
def own_Q7 (Z : State) (a0 : Addr) (w0 : Int32) (h0 : Heap) (n0 : Nat) (v : Option Value) (h : Heap) (L : List Loc) : Prop := v = some (.int w0) ∧ Fr n0 L ∧ h = h0
set_option maxRecDepth 65536 in
set_option maxHeartbeats 40000000 in
theorem own_rm7 (l : Launch) (Z : State) (aA : Array Value) (hw : ∀ d ∈ tables_1, d.before aA Z = true) (ws : List Jvm.Cond) (a0 : Addr) (w0 : Int32) (h0 : Heap) (n0 : Nat) (Z0 : n0 ≤ h0.size) (pre0 : Fld Z h0 a0 "tidemark/record/FseTable" "accuracyLog" "I" (.int w0)) :
    MetFree l (⟨"tidemark/record/FseTable", "accuracyLog", "()I"⟩ : MethodName) (head1 (Jvm.Cond.code (⟨"tidemark/record/FseTable", "accuracyLog", "()I"⟩ : MethodName) prog_170_method_3_code 1 (some .int) :: ws) ({ frames := 0, cells := 0, slots := 0, locals := 0 } : Room)) (fun a U => a = #[(.ref a0)] ∧ Z.Warmed39 U.vm ∧ U.heap = h0) (fun _ _ _ _ _ => True) (fun _ U o U' => ∃ v L, o = .returned v ∧ own_Q7 Z a0 w0 h0 n0 v U'.heap L ∧ FrameEnd U o U' L ({ frames := 0, cells := 0, slots := 0, locals := 0 } : Room).cells ({ frames := 0, cells := 0, slots := 0, locals := 0 } : Room).slots) := by
  refine MetFree.of_bodySF (plainFor_of_name own_pn23) hisR ?_
  intro p e s m args below meth c s₁ Bd hml0 hP hK
  obtain ⟨rfl, hZ, hh⟩ := hP
  have hx := Bd.exec
  have hby := Bd.bytes
  have hlk : meth.locks = false := Bd.notSynchronized
  have hml : c.maxLocals = 1 := hml0
  have hown : s.vm.findClass "tidemark/record/FseTable" = some m.cls := findClass_of_methodNamed Bd.named
  have hnm := (name_of_methodNamed Bd.named Bd.method).1
  have X0 : Stand p l e ({ frames := 0, cells := 0, slots := 0, locals := 0 } : Room) s m #[(.ref a0)] below meth c s₁ [] 0 0 := Stand.of_body Bd
  have e0 : s₁.heap = h0 := by rw [← hh, Bd.state]; rfl
  have N0 := Fr.nil n0
  show OG p e below (FE s ({ frames := 0, cells := 0, slots := 0, locals := 0 } : Room).cells ({ frames := 0, cells := 0, slots := 0, locals := 0 } : Room).slots) (own_Q7 Z a0 w0 h0 n0) (s₁.setTop (entryFrame m #[(.ref a0)] 1))
  refine og_of (fun _ k => castTop (own_ef7 m a0) k) ?_
  refine o_aloadN X0 hx rfl (hb hby own_d7_0) rfl rfl ?_
  obtain ⟨T1, X1, e1, st1⟩ := getF X0 hx hZ hown (host := "") (Or.inl (hw _ (List.mem_of_getElem? (i := 34) rfl))) Via.refl e0 pre0 (g := (mkF m 1 #[.val (.ref a0)] [(.ref a0)])) rfl rfl (hb hby own_d7_1)
  refine og_of st1 ?_
  show OG p e below _ _ (T1.setTop (mkF m 4 #[.val (.ref a0)] [(.int w0)]))
  exact o_retI X1 hx Bd.returns (own_lv X1 hlk (by decide) (by decide)) (hb hby own_d7_4) ⟨rfl, N0, e1⟩
theorem own_d8_0 : decode prog_170_method_4_code 0 = .ok (.aload_n 0, 1) := by decide +kernel
theorem own_d8_1 : decode prog_170_method_4_code 1 = .ok (.getfield 9, 3) := by decide +kernel
theorem own_d8_4 : decode prog_170_method_4_code 4 = .ok (.iload_n 1, 1) := by decide +kernel
theorem own_d8_5 : decode prog_170_method_4_code 5 = .ok (.baload, 1) := by decide +kernel
theorem own_d8_6 : decode prog_170_method_4_code 6 = .ok (.sipush 255, 3) := by decide +kernel
theorem own_d8_9 : decode prog_170_method_4_code 9 = .ok (.iand, 1) := by decide +kernel
theorem own_d8_10 : decode prog_170_method_4_code 10 = .ok (.ireturn, 1) := by decide +kernel
theorem own_ef8 (m : MethodId) (a0 : Addr) : entryFrame m #[(.ref a0), (.int (0 : Int32))] 2 = mkF m 0 #[.val (.ref a0), .val (.int (0 : Int32))] [] := by first | (simp [entryFrame, mkF, argsToLocals, Value.category]; done) | rfl
def own_Q8 (Z : State) (a0 : Addr) (s1 : Addr) (k_s1 : ClassId) (x0 : Int32) (x1 : Int32) (x2 : Int32) (x3 : Int32) (x4 : Int32) (x5 : Int32) (x6 : Int32) (x7 : Int32) (h0 : Heap) (n0 : Nat) (v : Option Value) (h : Heap) (L : List Loc) : Prop := v = some (.int (x0 &&& (255 : Int32))) ∧ Fr n0 L ∧ h = h0
set_option maxRecDepth 65536 in
set_option maxHeartbeats 40000000 in
theorem own_rm8 (l : Launch) (Z : State) (aA : Array Value) (hw : ∀ d ∈ tables_1, d.before aA Z = true) (ws : List Jvm.Cond) (a0 : Addr) (s1 : Addr) (k_s1 : ClassId) (x0 : Int32) (x1 : Int32) (x2 : Int32) (x3 : Int32) (x4 : Int32) (x5 : Int32) (x6 : Int32) (x7 : Int32) (h0 : Heap) (n0 : Nat) (Z0 : n0 ≤ h0.size) (pre0 : Fld Z h0 a0 "tidemark/record/FseTable" "symbols" "[B" (.ref s1)) (pre1 : Arv Z h0 s1 k_s1 .byte (512 : Int32) [(.int x0), (.int x1), (.int x2), (.int x3), (.int x4), (.int x5), (.int x6), (.int x7)] (.int (0 : Int32))) :
    MetFree l (⟨"tidemark/record/FseTable", "symbol", "(I)I"⟩ : MethodName) (head1 (Jvm.Cond.code (⟨"tidemark/record/FseTable", "symbol", "(I)I"⟩ : MethodName) prog_170_method_4_code 2 (some .int) :: ws) ({ frames := 0, cells := 0, slots := 0, locals := 0 } : Room)) (fun a U => a = #[(.ref a0), (.int (0 : Int32))] ∧ Z.Warmed39 U.vm ∧ U.heap = h0) (fun _ _ _ _ _ => True) (fun _ U o U' => ∃ v L, o = .returned v ∧ own_Q8 Z a0 s1 k_s1 x0 x1 x2 x3 x4 x5 x6 x7 h0 n0 v U'.heap L ∧ FrameEnd U o U' L ({ frames := 0, cells := 0, slots := 0, locals := 0 } : Room).cells ({ frames := 0, cells := 0, slots := 0, locals := 0 } : Room).slots) := by
  refine MetFree.of_bodySF (plainFor_of_name own_pn23) hisR ?_
  intro p e s m args below meth c s₁ Bd hml0 hP hK
  obtain ⟨rfl, hZ, hh⟩ := hP
  have hx := Bd.exec
  have hby := Bd.bytes
  have hlk : meth.locks = false := Bd.notSynchronized
  have hml : c.maxLocals = 2 := hml0
  have hown : s.vm.findClass "tidemark/record/FseTable" = some m.cls := findClass_of_methodNamed Bd.named
  have hnm := (name_of_methodNamed Bd.named Bd.method).1
  have X0 : Stand p l e ({ frames := 0, cells := 0, slots := 0, locals := 0 } : Room) s m #[(.ref a0), (.int (0 : Int32))] below meth c s₁ [] 0 0 := Stand.of_body Bd
  have e0 : s₁.heap = h0 := by rw [← hh, Bd.state]; rfl
  have N0 := Fr.nil n0
  show OG p e below (FE s ({ frames := 0, cells := 0, slots := 0, locals := 0 } : Room).cells ({ frames := 0, cells := 0, slots := 0, locals := 0 } : Room).slots) (own_Q8 Z a0 s1 k_s1 x0 x1 x2 x3 x4 x5 x6 x7 h0 n0) (s₁.setTop (entryFrame m #[(.ref a0), (.int (0 : Int32))] 2))
  refine og_of (fun _ k => castTop (own_ef8 m a0) k) ?_
  refine o_aloadN X0 hx rfl (hb hby own_d8_0) rfl rfl ?_
  obtain ⟨T1, X1, e1, st1⟩ := getF X0 hx hZ hown (host := "") (Or.inl (hw _ (List.mem_of_getElem? (i := 14) rfl))) Via.refl e0 pre0 (g := (mkF m 1 #[.val (.ref a0), .val (.int (0 : Int32))] [(.ref a0)])) rfl rfl (hb hby own_d8_1)
  refine og_of st1 ?_
  show OG p e below _ _ (T1.setTop (mkF m 4 #[.val (.ref a0), .val (.int (0 : Int32))] [(.ref s1)]))
  refine o_iloadN X1 hx rfl (hb hby own_d8_4) rfl ?_
  obtain ⟨clv2, Arv2, qv2, Sv2, Nv2, Hv2, Gv2⟩ := id pre1
  have hin3 : ¬ ((0 : Int32) < 0 ∨ clv2.slots.size ≤ ((0 : Int32)).toNatClampNeg) := inb_of Sv2 ⟨by decide, by decide⟩
  have hat3 : clv2.slots[((0 : Int32)).toNatClampNeg]? = some (.int x0) := Hv2.at hin3 rfl
  refine og_of (X1.baloadBytes hx (j := (0 : Int32)) (v := (.int x0)) (by rw [e1]; exact Arv2.1) (State.isArrayOf_alike hZ.alike Arv2.2.1) Arv2.2.2 hin3 hat3 (g := (mkF m 5 #[.val (.ref a0), .val (.int (0 : Int32))] [(.int (0 : Int32)), (.ref s1)])) rfl rfl (hb hby own_d8_5)) ?_
  show OG p e below _ _ (T1.setTop (mkF m 6 #[.val (.ref a0), .val (.int (0 : Int32))] [(.int x0)]))
  refine o_sipush (z := (255 : Int32)) X1 hx rfl (hb hby own_d8_6) (by decide) ?_
  refine o_iand (z := (x0 &&& (255 : Int32))) X1 hx rfl (hb hby own_d8_9) rfl ?_
  exact o_retI X1 hx Bd.returns (own_lv X1 hlk (by decide) (by decide)) (hb hby own_d8_10) ⟨rfl, N0, e1⟩
theorem own_d9_0 : decode prog_170_method_5_code 0 = .ok (.aload_n 0, 1) := by decide +kernel
theorem own_d9_1 : decode prog_170_method_5_code 1 = .ok (.getfield 13, 3) := by decide +kernel
theorem own_d9_4 : decode prog_170_method_5_code 4 = .ok (.iload_n 1, 1) := by decide +kernel
theorem own_d9_5 : decode prog_170_method_5_code 5 = .ok (.baload, 1) := by decide +kernel
theorem own_d9_6 : decode prog_170_method_5_code 6 = .ok (.ireturn, 1) := by decide +kernel
theorem own_ef9 (m : MethodId) (a0 : Addr) : entryFrame m #[(.ref a0), (.int (0 : Int32))] 2 = mkF m 0 #[.val (.ref a0), .val (.int (0 : Int32))] [] := by first | (simp [entryFrame, mkF, argsToLocals, Value.category]; done) | rfl
def own_Q9 (Z : State) (a0 : Addr) (s2 : Addr) (k_s2 : ClassId) (y0 : Int32) (y1 : Int32) (y2 : Int32) (y3 : Int32) (y4 : Int32) (y5 : Int32) (y6 : Int32) (y7 : Int32) (h0 : Heap) (n0 : Nat) (v : Option Value) (h : Heap) (L : List Loc) : Prop := v = some (.int y0) ∧ Fr n0 L ∧ h = h0
set_option maxRecDepth 65536 in
set_option maxHeartbeats 40000000 in
theorem own_rm9 (l : Launch) (Z : State) (aA : Array Value) (hw : ∀ d ∈ tables_1, d.before aA Z = true) (ws : List Jvm.Cond) (a0 : Addr) (s2 : Addr) (k_s2 : ClassId) (y0 : Int32) (y1 : Int32) (y2 : Int32) (y3 : Int32) (y4 : Int32) (y5 : Int32) (y6 : Int32) (y7 : Int32) (h0 : Heap) (n0 : Nat) (Z0 : n0 ≤ h0.size) (pre0 : Fld Z h0 a0 "tidemark/record/FseTable" "bits" "[B" (.ref s2)) (pre1 : Arv Z h0 s2 k_s2 .byte (512 : Int32) [(.int y0), (.int y1), (.int y2), (.int y3), (.int y4), (.int y5), (.int y6), (.int y7)] (.int (0 : Int32))) :
    MetFree l (⟨"tidemark/record/FseTable", "bits", "(I)I"⟩ : MethodName) (head1 (Jvm.Cond.code (⟨"tidemark/record/FseTable", "bits", "(I)I"⟩ : MethodName) prog_170_method_5_code 2 (some .int) :: ws) ({ frames := 0, cells := 0, slots := 0, locals := 0 } : Room)) (fun a U => a = #[(.ref a0), (.int (0 : Int32))] ∧ Z.Warmed39 U.vm ∧ U.heap = h0) (fun _ _ _ _ _ => True) (fun _ U o U' => ∃ v L, o = .returned v ∧ own_Q9 Z a0 s2 k_s2 y0 y1 y2 y3 y4 y5 y6 y7 h0 n0 v U'.heap L ∧ FrameEnd U o U' L ({ frames := 0, cells := 0, slots := 0, locals := 0 } : Room).cells ({ frames := 0, cells := 0, slots := 0, locals := 0 } : Room).slots) := by
  refine MetFree.of_bodySF (plainFor_of_name own_pn23) hisR ?_
  intro p e s m args below meth c s₁ Bd hml0 hP hK
  obtain ⟨rfl, hZ, hh⟩ := hP
  have hx := Bd.exec
  have hby := Bd.bytes
  have hlk : meth.locks = false := Bd.notSynchronized
  have hml : c.maxLocals = 2 := hml0
  have hown : s.vm.findClass "tidemark/record/FseTable" = some m.cls := findClass_of_methodNamed Bd.named
  have hnm := (name_of_methodNamed Bd.named Bd.method).1
  have X0 : Stand p l e ({ frames := 0, cells := 0, slots := 0, locals := 0 } : Room) s m #[(.ref a0), (.int (0 : Int32))] below meth c s₁ [] 0 0 := Stand.of_body Bd
  have e0 : s₁.heap = h0 := by rw [← hh, Bd.state]; rfl
  have N0 := Fr.nil n0
  show OG p e below (FE s ({ frames := 0, cells := 0, slots := 0, locals := 0 } : Room).cells ({ frames := 0, cells := 0, slots := 0, locals := 0 } : Room).slots) (own_Q9 Z a0 s2 k_s2 y0 y1 y2 y3 y4 y5 y6 y7 h0 n0) (s₁.setTop (entryFrame m #[(.ref a0), (.int (0 : Int32))] 2))
  refine og_of (fun _ k => castTop (own_ef9 m a0) k) ?_
  refine o_aloadN X0 hx rfl (hb hby own_d9_0) rfl rfl ?_
  obtain ⟨T1, X1, e1, st1⟩ := getF X0 hx hZ hown (host := "") (Or.inl (hw _ (List.mem_of_getElem? (i := 16) rfl))) Via.refl e0 pre0 (g := (mkF m 1 #[.val (.ref a0), .val (.int (0 : Int32))] [(.ref a0)])) rfl rfl (hb hby own_d9_1)
  refine og_of st1 ?_
  show OG p e below _ _ (T1.setTop (mkF m 4 #[.val (.ref a0), .val (.int (0 : Int32))] [(.ref s2)]))
  refine o_iloadN X1 hx rfl (hb hby own_d9_4) rfl ?_
  obtain ⟨clv2, Arv2, qv2, Sv2, Nv2, Hv2, Gv2⟩ := id pre1
  have hin3 : ¬ ((0 : Int32) < 0 ∨ clv2.slots.size ≤ ((0 : Int32)).toNatClampNeg) := inb_of Sv2 ⟨by decide, by decide⟩
  have hat3 : clv2.slots[((0 : Int32)).toNatClampNeg]? = some (.int y0) := Hv2.at hin3 rfl
  refine og_of (X1.baloadBytes hx (j := (0 : Int32)) (v := (.int y0)) (by rw [e1]; exact Arv2.1) (State.isArrayOf_alike hZ.alike Arv2.2.1) Arv2.2.2 hin3 hat3 (g := (mkF m 5 #[.val (.ref a0), .val (.int (0 : Int32))] [(.int (0 : Int32)), (.ref s2)])) rfl rfl (hb hby own_d9_5)) ?_
  show OG p e below _ _ (T1.setTop (mkF m 6 #[.val (.ref a0), .val (.int (0 : Int32))] [(.int y0)]))
  exact o_retI X1 hx Bd.returns (own_lv X1 hlk (by decide) (by decide)) (hb hby own_d9_6) ⟨rfl, N0, e1⟩
theorem own_d10_0 : decode prog_170_method_6_code 0 = .ok (.aload_n 0, 1) := by decide +kernel
theorem own_d10_1 : decode prog_170_method_6_code 1 = .ok (.getfield 16, 3) := by decide +kernel
theorem own_d10_4 : decode prog_170_method_6_code 4 = .ok (.iload_n 1, 1) := by decide +kernel
theorem own_d10_5 : decode prog_170_method_6_code 5 = .ok (.saload, 1) := by decide +kernel
theorem own_d10_6 : decode prog_170_method_6_code 6 = .ok (.ireturn, 1) := by decide +kernel
theorem own_ef10 (m : MethodId) (a0 : Addr) : entryFrame m #[(.ref a0), (.int (0 : Int32))] 2 = mkF m 0 #[.val (.ref a0), .val (.int (0 : Int32))] [] := by first | (simp [entryFrame, mkF, argsToLocals, Value.category]; done) | rfl
def own_Q10 (Z : State) (a0 : Addr) (s3 : Addr) (k_s3 : ClassId) (w0 : Int32) (w1 : Int32) (w2 : Int32) (w3 : Int32) (w4 : Int32) (w5 : Int32) (w6 : Int32) (w7 : Int32) (h0 : Heap) (n0 : Nat) (v : Option Value) (h : Heap) (L : List Loc) : Prop := v = some (.int w0) ∧ Fr n0 L ∧ h = h0
set_option maxRecDepth 65536 in
set_option maxHeartbeats 40000000 in
theorem own_rm10 (l : Launch) (Z : State) (aA : Array Value) (hw : ∀ d ∈ tables_1, d.before aA Z = true) (ws : List Jvm.Cond) (a0 : Addr) (s3 : Addr) (k_s3 : ClassId) (w0 : Int32) (w1 : Int32) (w2 : Int32) (w3 : Int32) (w4 : Int32) (w5 : Int32) (w6 : Int32) (w7 : Int32) (h0 : Heap) (n0 : Nat) (Z0 : n0 ≤ h0.size) (pre0 : Fld Z h0 a0 "tidemark/record/FseTable" "bases" "[S" (.ref s3)) (pre1 : Arv Z h0 s3 k_s3 .short (512 : Int32) [(.int w0), (.int w1), (.int w2), (.int w3), (.int w4), (.int w5), (.int w6), (.int w7)] (.int (0 : Int32))) :
    MetFree l (⟨"tidemark/record/FseTable", "base", "(I)I"⟩ : MethodName) (head1 (Jvm.Cond.code (⟨"tidemark/record/FseTable", "base", "(I)I"⟩ : MethodName) prog_170_method_6_code 2 (some .int) :: ws) ({ frames := 0, cells := 0, slots := 0, locals := 0 } : Room)) (fun a U => a = #[(.ref a0), (.int (0 : Int32))] ∧ Z.Warmed39 U.vm ∧ U.heap = h0) (fun _ _ _ _ _ => True) (fun _ U o U' => ∃ v L, o = .returned v ∧ own_Q10 Z a0 s3 k_s3 w0 w1 w2 w3 w4 w5 w6 w7 h0 n0 v U'.heap L ∧ FrameEnd U o U' L ({ frames := 0, cells := 0, slots := 0, locals := 0 } : Room).cells ({ frames := 0, cells := 0, slots := 0, locals := 0 } : Room).slots) := by
  refine MetFree.of_bodySF (plainFor_of_name own_pn23) hisR ?_
  intro p e s m args below meth c s₁ Bd hml0 hP hK
  obtain ⟨rfl, hZ, hh⟩ := hP
  have hx := Bd.exec
  have hby := Bd.bytes
  have hlk : meth.locks = false := Bd.notSynchronized
  have hml : c.maxLocals = 2 := hml0
  have hown : s.vm.findClass "tidemark/record/FseTable" = some m.cls := findClass_of_methodNamed Bd.named
  have hnm := (name_of_methodNamed Bd.named Bd.method).1
  have X0 : Stand p l e ({ frames := 0, cells := 0, slots := 0, locals := 0 } : Room) s m #[(.ref a0), (.int (0 : Int32))] below meth c s₁ [] 0 0 := Stand.of_body Bd
  have e0 : s₁.heap = h0 := by rw [← hh, Bd.state]; rfl
  have N0 := Fr.nil n0
  show OG p e below (FE s ({ frames := 0, cells := 0, slots := 0, locals := 0 } : Room).cells ({ frames := 0, cells := 0, slots := 0, locals := 0 } : Room).slots) (own_Q10 Z a0 s3 k_s3 w0 w1 w2 w3 w4 w5 w6 w7 h0 n0) (s₁.setTop (entryFrame m #[(.ref a0), (.int (0 : Int32))] 2))
  refine og_of (fun _ k => castTop (own_ef10 m a0) k) ?_
  refine o_aloadN X0 hx rfl (hb hby own_d10_0) rfl rfl ?_
  obtain ⟨T1, X1, e1, st1⟩ := getF X0 hx hZ hown (host := "") (Or.inl (hw _ (List.mem_of_getElem? (i := 19) rfl))) Via.refl e0 pre0 (g := (mkF m 1 #[.val (.ref a0), .val (.int (0 : Int32))] [(.ref a0)])) rfl rfl (hb hby own_d10_1)
  refine og_of st1 ?_
  show OG p e below _ _ (T1.setTop (mkF m 4 #[.val (.ref a0), .val (.int (0 : Int32))] [(.ref s3)]))
  refine o_iloadN X1 hx rfl (hb hby own_d10_4) rfl ?_
  obtain ⟨clv2, Arv2, qv2, Sv2, Nv2, Hv2, Gv2⟩ := id pre1
  have hin3 : ¬ ((0 : Int32) < 0 ∨ clv2.slots.size ≤ ((0 : Int32)).toNatClampNeg) := inb_of Sv2 ⟨by decide, by decide⟩
  have hat3 : clv2.slots[((0 : Int32)).toNatClampNeg]? = some (.int w0) := Hv2.at hin3 rfl
  refine og_of (X1.saload hx (j := (0 : Int32)) (v := (.int w0)) (by rw [e1]; exact Arv2.1) (State.isArrayOf_alike hZ.alike Arv2.2.1) Arv2.2.2 hin3 hat3 (g := (mkF m 5 #[.val (.ref a0), .val (.int (0 : Int32))] [(.int (0 : Int32)), (.ref s3)])) rfl rfl (hb hby own_d10_5)) ?_
  show OG p e below _ _ (T1.setTop (mkF m 6 #[.val (.ref a0), .val (.int (0 : Int32))] [(.int w0)]))
  exact o_retI X1 hx Bd.returns (own_lv X1 hlk (by decide) (by decide)) (hb hby own_d10_6) ⟨rfl, N0, e1⟩
theorem own_by (p : Int32) : ((nar .byte (p.toInt8.toInt32)) &&& (255 : Int32)) = p &&& (255 : Int32) := by
  apply Int32.toInt_inj.mp
  have e1 := c_mask (nar .byte (p.toInt8.toInt32)) 255 8 (by decide) (by decide)
  have e2 := c_mask p 255 8 (by decide) (by decide)
  have e3 := (c_i2b p).1
  have e4 := (c_i2b (p.toInt8.toInt32)).1
  have e5 : nar .byte (p.toInt8.toInt32) = (p.toInt8.toInt32).toInt8.toInt32 := rfl
  rw [e1, e2, e5]
  omega
theorem own_pd3 : parseMethodDescriptor "(I)V" = some ⟨[.int], none⟩ := by decide +kernel
theorem own_pd4 : parseMethodDescriptor "()I" = some ⟨[], some .int⟩ := by decide +kernel
theorem own_pd5 : parseMethodDescriptor "(I[I)Ltidemark/record/FseTable;" = some ⟨[.int, (.array .int)], some (.object "tidemark/record/FseTable")⟩ := by decide +kernel
theorem own_ef0 (m : MethodId) (p0 : Int32) (p1 : Int32) : entryFrame m #[(.int p0), (.int p1)] maxLocals = mkF m 0 #[.val (.int p0), .val (.int p1), .unset] [] := by first | (simp [entryFrame, mkF, argsToLocals, Value.category, maxLocals]; done) | rfl
def own_Q0 (Z : State) (p0 : Int32) (p1 : Int32) (h0 : Heap) (n0 : Nat) (v : Option Value) (h : Heap) (L : List Loc) : Prop := v = some (.int (1 : Int32)) ∧ Fr n0 L
theorem own_pn261 : plainName "tidemark/record/FseTableSinglePinLaw" = true := by first | (simp [plainName, overriddenIn]; done) | decide +kernel
set_option maxRecDepth 65536 in
set_option maxHeartbeats 40000000 in
theorem own_rm0 (l : Launch) (Z : State) (aA : Array Value) (hw : ∀ d ∈ tables_1, d.before aA Z = true) (ws : List Jvm.Cond) (p0 : Int32) (p1 : Int32) (h0 : Heap) (n0 : Nat) (Z0 : n0 ≤ h0.size) :
    MetFree l x (head1 (Jvm.Cond.code x code maxLocals ret :: ws) room_1) (fun a U => a = #[(.int p0), (.int p1)] ∧ Z.Warmed39 U.vm ∧ U.heap = h0) (fun _ _ _ _ _ => True) (fun _ U o U' => ∃ v L, o = .returned v ∧ own_Q0 Z p0 p1 h0 n0 v U'.heap L ∧ FrameEnd U o U' L room_1.cells room_1.slots) := by
  refine MetFree.of_bodySF (plainFor_of_name own_pn261) hisR ?_
  intro p e s m args below meth c s₁ Bd hml0 hP hK
  obtain ⟨rfl, hZ, hh⟩ := hP
  have hx := Bd.exec
  have hby := Bd.bytes
  have hlk : meth.locks = false := Bd.notSynchronized
  have hml : c.maxLocals = 3 := hml0
  have hown : s.vm.findClass "tidemark/record/FseTableSinglePinLaw" = some m.cls := findClass_of_methodNamed Bd.named
  have hnm := (name_of_methodNamed Bd.named Bd.method).1
  have X0 : Stand p l e room_1 s m #[(.int p0), (.int p1)] below meth c s₁ [] 0 0 := Stand.of_body Bd
  have e0 : s₁.heap = h0 := by rw [← hh, Bd.state]; rfl
  have N0 := Fr.nil n0
  show OG p e below (FE s room_1.cells room_1.slots) (own_Q0 Z p0 p1 h0 n0) (s₁.setTop (entryFrame m #[(.int p0), (.int p1)] maxLocals))
  refine og_of (fun _ k => castTop (own_ef0 m p0 p1) k) ?_
  refine o_iloadN X0 hx rfl (hb hby at_0) rfl ?_
  refine o_iconst (z := (1 : Int32)) X0 hx rfl (hb hby at_1) (by decide) ?_
  obtain ⟨z1, hz1⟩ : ∃ z : Int32, p1 &&& (1 : Int32) = z := ⟨_, rfl⟩
  refine o_iand (z := z1) X0 hx rfl (hb hby at_2) hz1 ?_
  by_cases hc2 : z1 = (0 : Int32)
  · skip
    refine o_ifY (pc' := 25) X0 hx (hb hby at_3) ((if0 _ _).trans (teq hc2).1) (by decide) (by decide) ?_
    obtain ⟨T3, h3, X3, e3, E3, A3, D3, -, st3⟩ := newO X0 hx hZ hown (hw _ (List.mem_of_getElem? (i := 61) rfl)) (hw _ (List.mem_of_getElem? (i := 6) rfl)) (hw _ (List.mem_of_getElem? (i := 3) rfl)) e0 (g := (mkF m 25 #[.val (.int p0), .val (.int p1), .unset] [])) rfl (hb hby at_25) (by decide) (by decide)
    obtain ⟨b3, g3⟩ : ∃ z, z = h0.size := ⟨_, rfl⟩
    rw [← g3] at A3 D3 st3
    have gn3 : n0 ≤ b3 := Nat.le_trans Z0 (Nat.le_of_eq g3.symm)
    have sz3 : h0.size ≤ b3 := Nat.le_trans (Keep.refl h0 []).1 (Nat.le_of_eq g3.symm)
    have Kp4 : Keep h0 h3 [] := (Keep.refl h0 []).ext E3
    have F3_15 : Fld Z h3 b3 "tidemark/record/FseTable" "symbols" "[B" .null := D3 (Or.inr (hw _ (List.mem_of_getElem? (i := 15) rfl))) (ty := (.array .byte)) (by decide)
    have F3_17 : Fld Z h3 b3 "tidemark/record/FseTable" "bits" "[B" .null := D3 (Or.inr (hw _ (List.mem_of_getElem? (i := 17) rfl))) (ty := (.array .byte)) (by decide)
    have F3_20 : Fld Z h3 b3 "tidemark/record/FseTable" "bases" "[S" .null := D3 (Or.inr (hw _ (List.mem_of_getElem? (i := 20) rfl))) (ty := (.array .short)) (by decide)
    have F3_22 : Fld Z h3 b3 "tidemark/record/FseTable" "counts" "[S" .null := D3 (Or.inr (hw _ (List.mem_of_getElem? (i := 22) rfl))) (ty := (.array .short)) (by decide)
    have F3_24 : Fld Z h3 b3 "tidemark/record/FseTable" "next" "[I" .null := D3 (Or.inr (hw _ (List.mem_of_getElem? (i := 24) rfl))) (ty := (.array .int)) (by decide)
    have F3_35 : Fld Z h3 b3 "tidemark/record/FseTable" "accuracyLog" "I" (.int (0 : Int32)) := D3 (Or.inl (hw _ (List.mem_of_getElem? (i := 35) rfl))) (ty := .int) (by decide)
    refine og_of st3 ?_
    show OG p e below _ _ (T3.setTop (mkF m 28 #[.val (.int p0), .val (.int p1), .unset] [(.ref b3)]))
    refine o_dup X3 hx rfl (hb hby at_28) rfl ?_
    obtain ⟨_, _, ⟨T5, L5, k5, n5⟩, -, X5, ⟨Lc5, hQ5, l5, y5, z5⟩, st5⟩ := X3.specialBack hx (y := (⟨"tidemark/record/FseTable", "<init>", "()V"⟩ : MethodName)) rfl hown (mvT hZ (hw _ (List.mem_of_getElem? (i := 62) rfl))) (mvT hZ (hw _ (List.mem_of_getElem? (i := 8) rfl))) (mvT hZ (hw _ (List.mem_of_getElem? (i := 9) rfl))) (by decide) (backOf (W := 1) (own_rm2 l Z aA hw [] b3 h3 n0 (Nat.le_trans Z0 E3.1) A3 gn3 F3_15 F3_17 F3_20 F3_22 F3_24 F3_35) hZ (hw _ (List.mem_of_getElem? (i := 9) rfl)) (hw _ (List.mem_of_getElem? (i := 3) rfl)) (by decide) (by decide)) (g := (mkF m 29 #[.val (.int p0), .val (.int p1), .unset] [(.ref b3), (.ref b3)])) rfl (by rw [hml]; rfl) (Steps.refl _) (a := b3) (argsL := []) (rest := [(.ref b3)]) (lenOf own_pd1 rfl) rfl (by show 2 * 0 + _ ≤ _; exact Nat.le_of_eq rfl) (hb hby at_29) (fun _ _ => ⟨rfl, e3, Nat.le_of_ble_eq_true rfl, Nat.le_of_ble_eq_true rfl⟩)
    dsimp only [Pt.U, Pt.locs, Pt.cells, Pt.slots] at X5 l5 y5 z5 st5 hQ5
    subst l5 y5 z5
    obtain ⟨b5_0, b5_1, b5_2, b5_3, b5_4, k_b5_0, k_b5_1, k_b5_2, k_b5_3, k_b5_4, rfl, N5q, K5, sq5_0, sq5_1, sq5_2, sq5_3, sq5_4, nn5_0_1, nn5_0_2, nn5_0_3, nn5_0_4, nn5_1_2, nn5_1_3, nn5_1_4, nn5_2_3, nn5_2_4, nn5_3_4, f5_0, f5_1, f5_2, f5_3, f5_4, f5_5, f5_6, f5_7, f5_8, f5_9, f5_10⟩ := hQ5
    have ne6 : b3 ≠ b5_0 := Nat.ne_of_lt (Nat.lt_of_lt_of_le A3.lt sq5_0)
    have ne7 : b3 ≠ b5_1 := Nat.ne_of_lt (Nat.lt_of_lt_of_le A3.lt sq5_1)
    have ne8 : b3 ≠ b5_2 := Nat.ne_of_lt (Nat.lt_of_lt_of_le A3.lt sq5_2)
    have ne9 : b3 ≠ b5_3 := Nat.ne_of_lt (Nat.lt_of_lt_of_le A3.lt sq5_3)
    have ne10 : b3 ≠ b5_4 := Nat.ne_of_lt (Nat.lt_of_lt_of_le A3.lt sq5_4)
    have gnb5_0 : n0 ≤ b5_0 := Nat.le_trans (Nat.le_trans Z0 E3.1) sq5_0
    have szb5_0 : h0.size ≤ b5_0 := Nat.le_trans Kp4.1 sq5_0
    have gnb5_1 : n0 ≤ b5_1 := Nat.le_trans (Nat.le_trans Z0 E3.1) sq5_1
    have szb5_1 : h0.size ≤ b5_1 := Nat.le_trans Kp4.1 sq5_1
    have gnb5_2 : n0 ≤ b5_2 := Nat.le_trans (Nat.le_trans Z0 E3.1) sq5_2
    have szb5_2 : h0.size ≤ b5_2 := Nat.le_trans Kp4.1 sq5_2
    have gnb5_3 : n0 ≤ b5_3 := Nat.le_trans (Nat.le_trans Z0 E3.1) sq5_3
    have szb5_3 : h0.size ≤ b5_3 := Nat.le_trans Kp4.1 sq5_3
    have gnb5_4 : n0 ≤ b5_4 := Nat.le_trans (Nat.le_trans Z0 E3.1) sq5_4
    have szb5_4 : h0.size ≤ b5_4 := Nat.le_trans Kp4.1 sq5_4
    have N11 := Fr.app N0 N5q
    have Kp12 : Keep h0 T5.heap [] := Kp4.trans K5 (allS (Or.inr sz3) all0)
    refine og_tr st5 ?_
    show OG p e below _ _ (T5.setTop (mkF m 32 #[.val (.int p0), .val (.int p1), .unset] [(.ref b3)]))
    refine o_astoreN X5 hx rfl (hb hby at_32) rfl (L' := #[.val (.int p0), .val (.int p1), .val (.ref b3)]) rfl ?_
    refine o_aloadN X5 hx rfl (hb hby at_33) rfl rfl ?_
    refine o_iloadN X5 hx rfl (hb hby at_34) rfl ?_
    have Fc14 : Exa Z T5.heap b3 "tidemark/record/FseTable" := (A3.keep K5)
    obtain ⟨cq13, kq13, q13a, q13b, q13c⟩ := isOf hZ rfl Fc14
    obtain ⟨_, _, ⟨T13, L13, k13, n13⟩, -, X13, ⟨Lc13, hQ13, l13, y13, z13⟩, st13⟩ := X5.virtualBack hx (y := (⟨"tidemark/record/FseTable", "single", "(I)V"⟩ : MethodName)) (z := (⟨"tidemark/record/FseTable", "single", "(I)V"⟩ : MethodName)) hown (mvT hZ (hw _ (List.mem_of_getElem? (i := 36) rfl))) (mvT hZ (hw _ (List.mem_of_getElem? (i := 37) rfl))) (notFace_of_selects (args := #[]) (mvT hZ (hw _ (List.mem_of_getElem? (i := 39) rfl)))) (mvT hZ (hw _ (List.mem_of_getElem? (i := 39) rfl))) (mvT hZ (hw _ (List.mem_of_getElem? (i := 38) rfl))) (by decide) (backOf (W := 0) (own_rm6 l Z aA hw [] b3 p0 b5_0 b5_1 b5_2 k_b5_0 k_b5_1 k_b5_2 (0 : Int32) (0 : Int32) (0 : Int32) (0 : Int32) (0 : Int32) (0 : Int32) (0 : Int32) (0 : Int32) (0 : Int32) (0 : Int32) (0 : Int32) (0 : Int32) (0 : Int32) (0 : Int32) (0 : Int32) (0 : Int32) (0 : Int32) (0 : Int32) (0 : Int32) (0 : Int32) (0 : Int32) (0 : Int32) (0 : Int32) (0 : Int32) (0 : Int32) T5.heap n0 (Nat.le_trans (Nat.le_trans Z0 E3.1) K5.1) Fc14 f5_0 f5_1 f5_2 f5_5 f5_6 f5_7 f5_8 gn3 gnb5_0 gnb5_1 gnb5_2 ne6 ne7 ne8 nn5_0_1 nn5_0_2 nn5_1_2) hZ (hw _ (List.mem_of_getElem? (i := 40) rfl)) (hw _ (List.mem_of_getElem? (i := 3) rfl)) (by decide) (by decide)) q13a q13c (g := (mkF m 35 #[.val (.int p0), .val (.int p1), .val (.ref b3)] [(.int p0), (.ref b3)])) rfl (by rw [hml]; rfl) (Steps.refl _) (argsL := [(.int p0)]) (rest := []) (lenOf own_pd3 rfl) rfl (by show 2 * 0 + _ ≤ _; exact Nat.le_of_eq rfl) (hb hby at_35) (fun _ _ => ⟨rfl, rfl, Nat.le_of_ble_eq_true rfl, Nat.le_of_ble_eq_true rfl⟩)
    dsimp only [Pt.U, Pt.locs, Pt.cells, Pt.slots] at X13 l13 y13 z13 st13 hQ13
    subst l13 y13 z13
    obtain ⟨rfl, N13q, K13, f13_0, f13_1, f13_2, f13_3, f13_4, f13_5, f13_6⟩ := hQ13
    have N15 := Fr.app N11 N13q
    have Kp16 : Keep h0 T13.heap [] := Kp12.trans K13 (allS (Or.inr sz3) (allS (Or.inr szb5_0) (allS (Or.inr szb5_1) (allS (Or.inr szb5_2) all0))))
    refine og_tr st13 ?_
    show OG p e below _ _ (T13.setTop (mkF m 38 #[.val (.int p0), .val (.int p1), .val (.ref b3)] []))
    refine o_aloadN X13 hx rfl (hb hby at_38) rfl rfl ?_
    have Fc18 : Exa Z T13.heap b3 "tidemark/record/FseTable" := (Fc14.keep K13)
    obtain ⟨cq17, kq17, q17a, q17b, q17c⟩ := isOf hZ rfl Fc18
    obtain ⟨_, _, ⟨T17, L17, k17, n17⟩, -, X17, ⟨Lc17, hQ17, l17, y17, z17⟩, st17⟩ := X13.virtualBack hx (y := (⟨"tidemark/record/FseTable", "accuracyLog", "()I"⟩ : MethodName)) (z := (⟨"tidemark/record/FseTable", "accuracyLog", "()I"⟩ : MethodName)) hown (mvT hZ (hw _ (List.mem_of_getElem? (i := 41) rfl))) (mvT hZ (hw _ (List.mem_of_getElem? (i := 42) rfl))) (notFace_of_selects (args := #[]) (mvT hZ (hw _ (List.mem_of_getElem? (i := 44) rfl)))) (mvT hZ (hw _ (List.mem_of_getElem? (i := 44) rfl))) (mvT hZ (hw _ (List.mem_of_getElem? (i := 43) rfl))) (by decide) (backOf (W := 0) (own_rm7 l Z aA hw [] b3 (0 : Int32) T13.heap n0 (Nat.le_trans (Nat.le_trans (Nat.le_trans Z0 E3.1) K5.1) K13.1) f13_3) hZ (hw _ (List.mem_of_getElem? (i := 45) rfl)) (hw _ (List.mem_of_getElem? (i := 3) rfl)) (by decide) (by decide)) q17a q17c (g := (mkF m 39 #[.val (.int p0), .val (.int p1), .val (.ref b3)] [(.ref b3)])) rfl (by rw [hml]; rfl) (Steps.refl _) (argsL := []) (rest := []) (lenOf own_pd4 rfl) rfl (by show 2 * 0 + _ ≤ _; exact Nat.le_of_eq rfl) (hb hby at_39) (fun _ _ => ⟨rfl, rfl, Nat.le_of_ble_eq_true rfl, Nat.le_of_ble_eq_true rfl⟩)
    dsimp only [Pt.U, Pt.locs, Pt.cells, Pt.slots] at X17 l17 y17 z17 st17 hQ17
    subst l17 y17 z17
    obtain ⟨rfl, N17q, ee17⟩ := hQ17
    have N19 := Fr.app N15 N17q
    refine og_tr st17 ?_
    show OG p e below _ _ (T17.setTop (mkF m 42 #[.val (.int p0), .val (.int p1), .val (.ref b3)] [(.int (0 : Int32))]))
    refine o_ifN (pc' := 45) X17 hx rfl (hb hby at_42) ((if0 _ _).trans (teq (by decide : ((0 : Int32) = (0 : Int32)))).2) ?_
    refine o_aloadN X17 hx rfl (hb hby at_45) rfl rfl ?_
    refine o_iconst (z := (0 : Int32)) X17 hx rfl (hb hby at_46) (by decide) ?_
    obtain ⟨cq20, kq20, q20a, q20b, q20c⟩ := isOf hZ ee17 Fc18
    obtain ⟨_, _, ⟨T20, L20, k20, n20⟩, -, X20, ⟨Lc20, hQ20, l20, y20, z20⟩, st20⟩ := X17.virtualBack hx (y := (⟨"tidemark/record/FseTable", "symbol", "(I)I"⟩ : MethodName)) (z := (⟨"tidemark/record/FseTable", "symbol", "(I)I"⟩ : MethodName)) hown (mvT hZ (hw _ (List.mem_of_getElem? (i := 46) rfl))) (mvT hZ (hw _ (List.mem_of_getElem? (i := 47) rfl))) (notFace_of_selects (args := #[]) (mvT hZ (hw _ (List.mem_of_getElem? (i := 49) rfl)))) (mvT hZ (hw _ (List.mem_of_getElem? (i := 49) rfl))) (mvT hZ (hw _ (List.mem_of_getElem? (i := 48) rfl))) (by decide) (backOf (W := 0) (own_rm8 l Z aA hw [] b3 b5_0 k_b5_0 (nar .byte (p0.toInt8.toInt32)) (0 : Int32) (0 : Int32) (0 : Int32) (0 : Int32) (0 : Int32) (0 : Int32) (0 : Int32) T13.heap n0 (Nat.le_trans (Nat.le_trans (Nat.le_trans Z0 E3.1) K5.1) K13.1) f13_0 f13_4) hZ (hw _ (List.mem_of_getElem? (i := 50) rfl)) (hw _ (List.mem_of_getElem? (i := 3) rfl)) (by decide) (by decide)) q20a q20c (g := (mkF m 47 #[.val (.int p0), .val (.int p1), .val (.ref b3)] [(.int (0 : Int32)), (.ref b3)])) rfl (by rw [hml]; rfl) (Steps.refl _) (argsL := [(.int (0 : Int32))]) (rest := []) (lenOf own_pd0 rfl) rfl (by show 2 * 0 + _ ≤ _; exact Nat.le_of_eq rfl) (hb hby at_47) (fun _ _ => ⟨rfl, ee17, Nat.le_of_ble_eq_true rfl, Nat.le_of_ble_eq_true rfl⟩)
    dsimp only [Pt.U, Pt.locs, Pt.cells, Pt.slots] at X20 l20 y20 z20 st20 hQ20
    subst l20 y20 z20
    obtain ⟨rfl, N20q, ee20⟩ := hQ20
    have N21 := Fr.app N19 N20q
    refine og_tr st20 ?_
    show OG p e below _ _ (T20.setTop (mkF m 50 #[.val (.int p0), .val (.int p1), .val (.ref b3)] [(.int ((nar .byte (p0.toInt8.toInt32)) &&& (255 : Int32)))]))
    refine o_iloadN X20 hx rfl (hb hby at_50) rfl ?_
    refine o_sipush (z := (255 : Int32)) X20 hx rfl (hb hby at_51) (by decide) ?_
    obtain ⟨z22, hz22⟩ : ∃ z : Int32, p0 &&& (255 : Int32) = z := ⟨_, rfl⟩
    refine o_iand (z := z22) X20 hx rfl (hb hby at_54) hz22 ?_
    have hk23 : ((nar .byte (p0.toInt8.toInt32)) &&& (255 : Int32)) = z22 := by subst hz1 hz22; exact own_by p0
    refine o_icmpN (pc' := 58) X20 hx rfl (hb hby at_55) (teq hk23).2 ?_
    refine o_aloadN X20 hx rfl (hb hby at_58) rfl rfl ?_
    refine o_iconst (z := (0 : Int32)) X20 hx rfl (hb hby at_59) (by decide) ?_
    obtain ⟨cq24, kq24, q24a, q24b, q24c⟩ := isOf hZ ee20 Fc18
    obtain ⟨_, _, ⟨T24, L24, k24, n24⟩, -, X24, ⟨Lc24, hQ24, l24, y24, z24⟩, st24⟩ := X20.virtualBack hx (y := (⟨"tidemark/record/FseTable", "bits", "(I)I"⟩ : MethodName)) (z := (⟨"tidemark/record/FseTable", "bits", "(I)I"⟩ : MethodName)) hown (mvT hZ (hw _ (List.mem_of_getElem? (i := 51) rfl))) (mvT hZ (hw _ (List.mem_of_getElem? (i := 52) rfl))) (notFace_of_selects (args := #[]) (mvT hZ (hw _ (List.mem_of_getElem? (i := 54) rfl)))) (mvT hZ (hw _ (List.mem_of_getElem? (i := 54) rfl))) (mvT hZ (hw _ (List.mem_of_getElem? (i := 53) rfl))) (by decide) (backOf (W := 0) (own_rm9 l Z aA hw [] b3 b5_1 k_b5_1 (0 : Int32) (0 : Int32) (0 : Int32) (0 : Int32) (0 : Int32) (0 : Int32) (0 : Int32) (0 : Int32) T13.heap n0 (Nat.le_trans (Nat.le_trans (Nat.le_trans Z0 E3.1) K5.1) K13.1) f13_1 f13_5) hZ (hw _ (List.mem_of_getElem? (i := 55) rfl)) (hw _ (List.mem_of_getElem? (i := 3) rfl)) (by decide) (by decide)) q24a q24c (g := (mkF m 60 #[.val (.int p0), .val (.int p1), .val (.ref b3)] [(.int (0 : Int32)), (.ref b3)])) rfl (by rw [hml]; rfl) (Steps.refl _) (argsL := [(.int (0 : Int32))]) (rest := []) (lenOf own_pd0 rfl) rfl (by show 2 * 0 + _ ≤ _; exact Nat.le_of_eq rfl) (hb hby at_60) (fun _ _ => ⟨rfl, ee20, Nat.le_of_ble_eq_true rfl, Nat.le_of_ble_eq_true rfl⟩)
    dsimp only [Pt.U, Pt.locs, Pt.cells, Pt.slots] at X24 l24 y24 z24 st24 hQ24
    subst l24 y24 z24
    obtain ⟨rfl, N24q, ee24⟩ := hQ24
    have N25 := Fr.app N21 N24q
    refine og_tr st24 ?_
    show OG p e below _ _ (T24.setTop (mkF m 63 #[.val (.int p0), .val (.int p1), .val (.ref b3)] [(.int (0 : Int32))]))
    refine o_ifN (pc' := 66) X24 hx rfl (hb hby at_63) ((if0 _ _).trans (teq (by decide : ((0 : Int32) = (0 : Int32)))).2) ?_
    refine o_aloadN X24 hx rfl (hb hby at_66) rfl rfl ?_
    refine o_iconst (z := (0 : Int32)) X24 hx rfl (hb hby at_67) (by decide) ?_
    obtain ⟨cq26, kq26, q26a, q26b, q26c⟩ := isOf hZ ee24 Fc18
    obtain ⟨_, _, ⟨T26, L26, k26, n26⟩, -, X26, ⟨Lc26, hQ26, l26, y26, z26⟩, st26⟩ := X24.virtualBack hx (y := (⟨"tidemark/record/FseTable", "base", "(I)I"⟩ : MethodName)) (z := (⟨"tidemark/record/FseTable", "base", "(I)I"⟩ : MethodName)) hown (mvT hZ (hw _ (List.mem_of_getElem? (i := 56) rfl))) (mvT hZ (hw _ (List.mem_of_getElem? (i := 57) rfl))) (notFace_of_selects (args := #[]) (mvT hZ (hw _ (List.mem_of_getElem? (i := 59) rfl)))) (mvT hZ (hw _ (List.mem_of_getElem? (i := 59) rfl))) (mvT hZ (hw _ (List.mem_of_getElem? (i := 58) rfl))) (by decide) (backOf (W := 0) (own_rm10 l Z aA hw [] b3 b5_2 k_b5_2 (0 : Int32) (0 : Int32) (0 : Int32) (0 : Int32) (0 : Int32) (0 : Int32) (0 : Int32) (0 : Int32) T13.heap n0 (Nat.le_trans (Nat.le_trans (Nat.le_trans Z0 E3.1) K5.1) K13.1) f13_2 f13_6) hZ (hw _ (List.mem_of_getElem? (i := 60) rfl)) (hw _ (List.mem_of_getElem? (i := 3) rfl)) (by decide) (by decide)) q26a q26c (g := (mkF m 68 #[.val (.int p0), .val (.int p1), .val (.ref b3)] [(.int (0 : Int32)), (.ref b3)])) rfl (by rw [hml]; rfl) (Steps.refl _) (argsL := [(.int (0 : Int32))]) (rest := []) (lenOf own_pd0 rfl) rfl (by show 2 * 0 + _ ≤ _; exact Nat.le_of_eq rfl) (hb hby at_68) (fun _ _ => ⟨rfl, ee24, Nat.le_of_ble_eq_true rfl, Nat.le_of_ble_eq_true rfl⟩)
    dsimp only [Pt.U, Pt.locs, Pt.cells, Pt.slots] at X26 l26 y26 z26 st26 hQ26
    subst l26 y26 z26
    obtain ⟨rfl, N26q, ee26⟩ := hQ26
    have N27 := Fr.app N25 N26q
    refine og_tr st26 ?_
    show OG p e below _ _ (T26.setTop (mkF m 71 #[.val (.int p0), .val (.int p1), .val (.ref b3)] [(.int (0 : Int32))]))
    refine o_ifN (pc' := 74) X26 hx rfl (hb hby at_71) ((if0 _ _).trans (teq (by decide : ((0 : Int32) = (0 : Int32)))).2) ?_
    refine o_iconst (z := (1 : Int32)) X26 hx rfl (hb hby at_74) (by decide) ?_
    refine o_goto (pc' := 79) X26 hx (hb hby at_75) (by decide) (by decide) ?_
    subst hz1 hz22
    exact o_retB X26 hx Bd.returns (own_lv X26 hlk (by decide) (by decide)) (hb hby at_79) (by decide) ⟨rfl, N27⟩
  · skip
    refine o_ifN (pc' := 6) X0 hx rfl (hb hby at_3) ((if0 _ _).trans (feq hc2).1) ?_
    refine o_iconst (z := (2 : Int32)) X0 hx rfl (hb hby at_6) (by decide) ?_
    refine o_iconst (z := (2 : Int32)) X0 hx rfl (hb hby at_7) (by decide) ?_
    obtain ⟨T28, h28, k_b28, X28, e28, E28, A28, st28⟩ := newP X0 hx hZ (hw _ (List.mem_of_getElem? (i := 0) rfl)) e0 (g := (mkF m 8 #[.val (.int p0), .val (.int p1), .unset] [(.int (2 : Int32)), (.int (2 : Int32))])) rfl (hb hby at_8) rfl (by decide) (cap := 2) (by decide) (by decide) (by decide) (by decide)
    obtain ⟨b28, g28⟩ : ∃ z, z = h0.size := ⟨_, rfl⟩
    rw [← g28] at A28 st28
    have gn28 : n0 ≤ b28 := Nat.le_trans Z0 (Nat.le_of_eq g28.symm)
    have sz28 : h0.size ≤ b28 := Nat.le_trans (Keep.refl h0 []).1 (Nat.le_of_eq g28.symm)
    have Kp29 : Keep h0 h28 [] := (Keep.refl h0 []).ext E28
    have V28 : Arv Z h28 b28 k_b28 .int (2 : Int32) [(.int (0 : Int32)), (.int (0 : Int32))] (.int (0 : Int32)) := (Arv.new A28 (by decide)).pad (pad_rep [] (.int (0 : Int32)) 2)
    refine og_of st28 ?_
    show OG p e below _ _ (T28.setTop (mkF m 10 #[.val (.int p0), .val (.int p1), .unset] [(.ref b28), (.int (2 : Int32))]))
    refine o_dup X28 hx rfl (hb hby at_10) rfl ?_
    refine o_iconst (z := (0 : Int32)) X28 hx rfl (hb hby at_11) (by decide) ?_
    refine o_iconst (z := (3 : Int32)) X28 hx rfl (hb hby at_12) (by decide) ?_
    obtain ⟨clv30, Arv30, qv30, Sv30, Nv30, Hv30, Gv30⟩ := id V28
    have hin31 : ¬ ((0 : Int32) < 0 ∨ clv30.slots.size ≤ ((0 : Int32)).toNatClampNeg) := inb_of Sv30 ⟨by decide, by decide⟩
    obtain ⟨T31, h31, X31, e31, W31, st31⟩ := stI X28 hx hZ e28 Arv30 (j := (0 : Int32)) hin31 (g := (mkF m 13 #[.val (.int p0), .val (.int p1), .unset] [(.int (3 : Int32)), (.int (0 : Int32)), (.ref b28), (.ref b28), (.int (2 : Int32))])) rfl rfl (hb hby at_13)
    have V31 : Arv Z h31 b28 k_b28 .int (2 : Int32) [(.int (3 : Int32)), (.int (0 : Int32))] (.int (0 : Int32)) := Arv.set Arv30 qv30 Sv30 Nv30 Hv30 Gv30 rfl W31 0 rfl (Nat.le_of_ble_eq_true rfl)
    have N31 := Fr.snoc X31 N0 gn28
    have Kp32 : Keep h0 h31 [] := Kp29.wr W31 (Or.inr sz28)
    refine og_of st31 ?_
    show OG p e below _ _ (T31.setTop (mkF m 14 #[.val (.int p0), .val (.int p1), .unset] [(.ref b28), (.int (2 : Int32))]))
    refine o_dup X31 hx rfl (hb hby at_14) rfl ?_
    refine o_iconst (z := (1 : Int32)) X31 hx rfl (hb hby at_15) (by decide) ?_
    refine o_iconst (z := (-1 : Int32)) X31 hx rfl (hb hby at_16) (by decide) ?_
    obtain ⟨clv33, Arv33, qv33, Sv33, Nv33, Hv33, Gv33⟩ := id V31
    have hin34 : ¬ ((1 : Int32) < 0 ∨ clv33.slots.size ≤ ((1 : Int32)).toNatClampNeg) := inb_of Sv33 ⟨by decide, by decide⟩
    obtain ⟨T34, h34, X34, e34, W34, st34⟩ := stI X31 hx hZ e31 Arv33 (j := (1 : Int32)) hin34 (g := (mkF m 17 #[.val (.int p0), .val (.int p1), .unset] [(.int (-1 : Int32)), (.int (1 : Int32)), (.ref b28), (.ref b28), (.int (2 : Int32))])) rfl rfl (hb hby at_17)
    have V34 : Arv Z h34 b28 k_b28 .int (2 : Int32) [(.int (3 : Int32)), (.int (-1 : Int32))] (.int (0 : Int32)) := Arv.set Arv33 qv33 Sv33 Nv33 Hv33 Gv33 rfl W34 1 rfl (Nat.le_of_ble_eq_true rfl)
    have N34 := Fr.snoc X34 N31 gn28
    have Kp35 : Keep h0 h34 [] := Kp32.wr W34 (Or.inr sz28)
    refine og_of st34 ?_
    show OG p e below _ _ (T34.setTop (mkF m 18 #[.val (.int p0), .val (.int p1), .unset] [(.ref b28), (.int (2 : Int32))]))
    obtain ⟨_, _, ⟨T36, L36, k36, n36⟩, -, X36, ⟨Lc36, hQ36, l36, y36, z36⟩, st36⟩ := callSH X34 hx (y := (⟨"tidemark/record/FseTable", "predefined", "(I[I)Ltidemark/record/FseTable;"⟩ : MethodName)) hown (mvT hZ (hw _ (List.mem_of_getElem? (i := 1) rfl))) (mvT hZ (hw _ (List.mem_of_getElem? (i := 2) rfl))) (mvT hZ (hw _ (List.mem_of_getElem? (i := 3) rfl))) (mvT hZ (hw _ (List.mem_of_getElem? (i := 4) rfl))) (by decide) (backOfWith (W := 0) (own_rm1 l Z aA hw [] b28 k_b28 h34 n0 (Nat.le_trans (Nat.le_trans (Nat.le_trans Z0 E28.1) (Keep.of_wr W31).1) (Keep.of_wr W34).1) V34) hZ (hw _ (List.mem_of_getElem? (i := 4) rfl)) (hw _ (List.mem_of_getElem? (i := 3) rfl)) (by decide) (by decide)) (g := (mkF m 18 #[.val (.int p0), .val (.int p1), .unset] [(.ref b28), (.int (2 : Int32))])) rfl (by rw [hml]; rfl) (argsL := [(.int (2 : Int32)), (.ref b28)]) (rest := []) (lenOf own_pd5 rfl) rfl (by show 2 * 0 + _ ≤ _; exact Nat.le_of_eq rfl) (hb hby at_18) (fun _ _ => ⟨rfl, e34, Nat.le_of_ble_eq_true rfl, Nat.le_of_ble_eq_true rfl⟩)
    dsimp only [Pt.U, Pt.locs, Pt.cells, Pt.slots] at X36 l36 y36 z36 st36 hQ36
    subst l36 y36 z36
    obtain ⟨b36_0, b36_1, b36_2, b36_3, k_b36_1, k_b36_2, k_b36_3, rfl, N36q, K36, sq36_0, sq36_1, sq36_2, sq36_3, nn36_0_1, nn36_0_2, nn36_0_3, nn36_1_2, nn36_1_3, nn36_2_3, f36_0, f36_1, f36_2, f36_3, f36_4, f36_5, f36_6, f36_7⟩ := hQ36
    have ne37 : b28 ≠ b36_0 := Nat.ne_of_lt (Nat.lt_of_lt_of_le V34.lt sq36_0)
    have ne38 : b28 ≠ b36_1 := Nat.ne_of_lt (Nat.lt_of_lt_of_le V34.lt sq36_1)
    have ne39 : b28 ≠ b36_2 := Nat.ne_of_lt (Nat.lt_of_lt_of_le V34.lt sq36_2)
    have ne40 : b28 ≠ b36_3 := Nat.ne_of_lt (Nat.lt_of_lt_of_le V34.lt sq36_3)
    have gnb36_0 : n0 ≤ b36_0 := Nat.le_trans (Nat.le_trans (Nat.le_trans (Nat.le_trans Z0 E28.1) (Keep.of_wr W31).1) (Keep.of_wr W34).1) sq36_0
    have szb36_0 : h0.size ≤ b36_0 := Nat.le_trans Kp35.1 sq36_0
    have gnb36_1 : n0 ≤ b36_1 := Nat.le_trans (Nat.le_trans (Nat.le_trans (Nat.le_trans Z0 E28.1) (Keep.of_wr W31).1) (Keep.of_wr W34).1) sq36_1
    have szb36_1 : h0.size ≤ b36_1 := Nat.le_trans Kp35.1 sq36_1
    have gnb36_2 : n0 ≤ b36_2 := Nat.le_trans (Nat.le_trans (Nat.le_trans (Nat.le_trans Z0 E28.1) (Keep.of_wr W31).1) (Keep.of_wr W34).1) sq36_2
    have szb36_2 : h0.size ≤ b36_2 := Nat.le_trans Kp35.1 sq36_2
    have gnb36_3 : n0 ≤ b36_3 := Nat.le_trans (Nat.le_trans (Nat.le_trans (Nat.le_trans Z0 E28.1) (Keep.of_wr W31).1) (Keep.of_wr W34).1) sq36_3
    have szb36_3 : h0.size ≤ b36_3 := Nat.le_trans Kp35.1 sq36_3
    have N41 := Fr.app N34 N36q
    have Kp42 : Keep h0 T36.heap [] := Kp35.trans K36 all0
    refine og_of st36 ?_
    show OG p e below _ _ (T36.setTop (mkF m 21 #[.val (.int p0), .val (.int p1), .unset] [(.ref b36_0)]))
    refine o_astoreN X36 hx rfl (hb hby at_21) rfl (L' := #[.val (.int p0), .val (.int p1), .val (.ref b36_0)]) rfl ?_
    refine o_goto (pc' := 33) X36 hx (hb hby at_22) (by decide) (by decide) ?_
    refine o_aloadN X36 hx rfl (hb hby at_33) rfl rfl ?_
    refine o_iloadN X36 hx rfl (hb hby at_34) rfl ?_
    obtain ⟨cq43, kq43, q43a, q43b, q43c⟩ := isOf hZ rfl f36_0
    obtain ⟨_, _, ⟨T43, L43, k43, n43⟩, -, X43, ⟨Lc43, hQ43, l43, y43, z43⟩, st43⟩ := X36.virtualBack hx (y := (⟨"tidemark/record/FseTable", "single", "(I)V"⟩ : MethodName)) (z := (⟨"tidemark/record/FseTable", "single", "(I)V"⟩ : MethodName)) hown (mvT hZ (hw _ (List.mem_of_getElem? (i := 36) rfl))) (mvT hZ (hw _ (List.mem_of_getElem? (i := 37) rfl))) (notFace_of_selects (args := #[]) (mvT hZ (hw _ (List.mem_of_getElem? (i := 39) rfl)))) (mvT hZ (hw _ (List.mem_of_getElem? (i := 39) rfl))) (mvT hZ (hw _ (List.mem_of_getElem? (i := 38) rfl))) (by decide) (backOf (W := 0) (own_rm6 l Z aA hw [] b36_0 p0 b36_1 b36_2 b36_3 k_b36_1 k_b36_2 k_b36_3 (0 : Int32) (0 : Int32) (0 : Int32) (1 : Int32) (0 : Int32) (0 : Int32) (0 : Int32) (0 : Int32) (1 : Int32) (0 : Int32) (0 : Int32) (2 : Int32) (0 : Int32) (0 : Int32) (0 : Int32) (0 : Int32) (2 : Int32) (0 : Int32) (1 : Int32) (0 : Int32) (0 : Int32) (0 : Int32) (0 : Int32) (0 : Int32) (2 : Int32) T36.heap n0 (Nat.le_trans (Nat.le_trans (Nat.le_trans (Nat.le_trans Z0 E28.1) (Keep.of_wr W31).1) (Keep.of_wr W34).1) K36.1) f36_0 f36_1 f36_2 f36_3 f36_4 f36_5 f36_6 f36_7 gnb36_0 gnb36_1 gnb36_2 gnb36_3 nn36_0_1 nn36_0_2 nn36_0_3 nn36_1_2 nn36_1_3 nn36_2_3) hZ (hw _ (List.mem_of_getElem? (i := 40) rfl)) (hw _ (List.mem_of_getElem? (i := 3) rfl)) (by decide) (by decide)) q43a q43c (g := (mkF m 35 #[.val (.int p0), .val (.int p1), .val (.ref b36_0)] [(.int p0), (.ref b36_0)])) rfl (by rw [hml]; rfl) (Steps.refl _) (argsL := [(.int p0)]) (rest := []) (lenOf own_pd3 rfl) rfl (by show 2 * 0 + _ ≤ _; exact Nat.le_of_eq rfl) (hb hby at_35) (fun _ _ => ⟨rfl, rfl, Nat.le_of_ble_eq_true rfl, Nat.le_of_ble_eq_true rfl⟩)
    dsimp only [Pt.U, Pt.locs, Pt.cells, Pt.slots] at X43 l43 y43 z43 st43 hQ43
    subst l43 y43 z43
    obtain ⟨rfl, N43q, K43, f43_0, f43_1, f43_2, f43_3, f43_4, f43_5, f43_6⟩ := hQ43
    have N44 := Fr.app N41 N43q
    have Kp45 : Keep h0 T43.heap [] := Kp42.trans K43 (allS (Or.inr szb36_0) (allS (Or.inr szb36_1) (allS (Or.inr szb36_2) (allS (Or.inr szb36_3) all0))))
    refine og_tr st43 ?_
    show OG p e below _ _ (T43.setTop (mkF m 38 #[.val (.int p0), .val (.int p1), .val (.ref b36_0)] []))
    refine o_aloadN X43 hx rfl (hb hby at_38) rfl rfl ?_
    have Fc47 : Exa Z T43.heap b36_0 "tidemark/record/FseTable" := (f36_0.keep K43)
    obtain ⟨cq46, kq46, q46a, q46b, q46c⟩ := isOf hZ rfl Fc47
    obtain ⟨_, _, ⟨T46, L46, k46, n46⟩, -, X46, ⟨Lc46, hQ46, l46, y46, z46⟩, st46⟩ := X43.virtualBack hx (y := (⟨"tidemark/record/FseTable", "accuracyLog", "()I"⟩ : MethodName)) (z := (⟨"tidemark/record/FseTable", "accuracyLog", "()I"⟩ : MethodName)) hown (mvT hZ (hw _ (List.mem_of_getElem? (i := 41) rfl))) (mvT hZ (hw _ (List.mem_of_getElem? (i := 42) rfl))) (notFace_of_selects (args := #[]) (mvT hZ (hw _ (List.mem_of_getElem? (i := 44) rfl)))) (mvT hZ (hw _ (List.mem_of_getElem? (i := 44) rfl))) (mvT hZ (hw _ (List.mem_of_getElem? (i := 43) rfl))) (by decide) (backOf (W := 0) (own_rm7 l Z aA hw [] b36_0 (0 : Int32) T43.heap n0 (Nat.le_trans (Nat.le_trans (Nat.le_trans (Nat.le_trans (Nat.le_trans Z0 E28.1) (Keep.of_wr W31).1) (Keep.of_wr W34).1) K36.1) K43.1) f43_3) hZ (hw _ (List.mem_of_getElem? (i := 45) rfl)) (hw _ (List.mem_of_getElem? (i := 3) rfl)) (by decide) (by decide)) q46a q46c (g := (mkF m 39 #[.val (.int p0), .val (.int p1), .val (.ref b36_0)] [(.ref b36_0)])) rfl (by rw [hml]; rfl) (Steps.refl _) (argsL := []) (rest := []) (lenOf own_pd4 rfl) rfl (by show 2 * 0 + _ ≤ _; exact Nat.le_of_eq rfl) (hb hby at_39) (fun _ _ => ⟨rfl, rfl, Nat.le_of_ble_eq_true rfl, Nat.le_of_ble_eq_true rfl⟩)
    dsimp only [Pt.U, Pt.locs, Pt.cells, Pt.slots] at X46 l46 y46 z46 st46 hQ46
    subst l46 y46 z46
    obtain ⟨rfl, N46q, ee46⟩ := hQ46
    have N48 := Fr.app N44 N46q
    refine og_tr st46 ?_
    show OG p e below _ _ (T46.setTop (mkF m 42 #[.val (.int p0), .val (.int p1), .val (.ref b36_0)] [(.int (0 : Int32))]))
    refine o_ifN (pc' := 45) X46 hx rfl (hb hby at_42) ((if0 _ _).trans (teq (by decide : ((0 : Int32) = (0 : Int32)))).2) ?_
    refine o_aloadN X46 hx rfl (hb hby at_45) rfl rfl ?_
    refine o_iconst (z := (0 : Int32)) X46 hx rfl (hb hby at_46) (by decide) ?_
    obtain ⟨cq49, kq49, q49a, q49b, q49c⟩ := isOf hZ ee46 Fc47
    obtain ⟨_, _, ⟨T49, L49, k49, n49⟩, -, X49, ⟨Lc49, hQ49, l49, y49, z49⟩, st49⟩ := X46.virtualBack hx (y := (⟨"tidemark/record/FseTable", "symbol", "(I)I"⟩ : MethodName)) (z := (⟨"tidemark/record/FseTable", "symbol", "(I)I"⟩ : MethodName)) hown (mvT hZ (hw _ (List.mem_of_getElem? (i := 46) rfl))) (mvT hZ (hw _ (List.mem_of_getElem? (i := 47) rfl))) (notFace_of_selects (args := #[]) (mvT hZ (hw _ (List.mem_of_getElem? (i := 49) rfl)))) (mvT hZ (hw _ (List.mem_of_getElem? (i := 49) rfl))) (mvT hZ (hw _ (List.mem_of_getElem? (i := 48) rfl))) (by decide) (backOf (W := 0) (own_rm8 l Z aA hw [] b36_0 b36_1 k_b36_1 (nar .byte (p0.toInt8.toInt32)) (0 : Int32) (0 : Int32) (1 : Int32) (0 : Int32) (0 : Int32) (0 : Int32) (0 : Int32) T43.heap n0 (Nat.le_trans (Nat.le_trans (Nat.le_trans (Nat.le_trans (Nat.le_trans Z0 E28.1) (Keep.of_wr W31).1) (Keep.of_wr W34).1) K36.1) K43.1) f43_0 f43_4) hZ (hw _ (List.mem_of_getElem? (i := 50) rfl)) (hw _ (List.mem_of_getElem? (i := 3) rfl)) (by decide) (by decide)) q49a q49c (g := (mkF m 47 #[.val (.int p0), .val (.int p1), .val (.ref b36_0)] [(.int (0 : Int32)), (.ref b36_0)])) rfl (by rw [hml]; rfl) (Steps.refl _) (argsL := [(.int (0 : Int32))]) (rest := []) (lenOf own_pd0 rfl) rfl (by show 2 * 0 + _ ≤ _; exact Nat.le_of_eq rfl) (hb hby at_47) (fun _ _ => ⟨rfl, ee46, Nat.le_of_ble_eq_true rfl, Nat.le_of_ble_eq_true rfl⟩)
    dsimp only [Pt.U, Pt.locs, Pt.cells, Pt.slots] at X49 l49 y49 z49 st49 hQ49
    subst l49 y49 z49
    obtain ⟨rfl, N49q, ee49⟩ := hQ49
    have N50 := Fr.app N48 N49q
    refine og_tr st49 ?_
    show OG p e below _ _ (T49.setTop (mkF m 50 #[.val (.int p0), .val (.int p1), .val (.ref b36_0)] [(.int ((nar .byte (p0.toInt8.toInt32)) &&& (255 : Int32)))]))
    refine o_iloadN X49 hx rfl (hb hby at_50) rfl ?_
    refine o_sipush (z := (255 : Int32)) X49 hx rfl (hb hby at_51) (by decide) ?_
    obtain ⟨z51, hz51⟩ : ∃ z : Int32, p0 &&& (255 : Int32) = z := ⟨_, rfl⟩
    refine o_iand (z := z51) X49 hx rfl (hb hby at_54) hz51 ?_
    have hk52 : ((nar .byte (p0.toInt8.toInt32)) &&& (255 : Int32)) = z51 := by subst hz1 hz51; exact own_by p0
    refine o_icmpN (pc' := 58) X49 hx rfl (hb hby at_55) (teq hk52).2 ?_
    refine o_aloadN X49 hx rfl (hb hby at_58) rfl rfl ?_
    refine o_iconst (z := (0 : Int32)) X49 hx rfl (hb hby at_59) (by decide) ?_
    obtain ⟨cq53, kq53, q53a, q53b, q53c⟩ := isOf hZ ee49 Fc47
    obtain ⟨_, _, ⟨T53, L53, k53, n53⟩, -, X53, ⟨Lc53, hQ53, l53, y53, z53⟩, st53⟩ := X49.virtualBack hx (y := (⟨"tidemark/record/FseTable", "bits", "(I)I"⟩ : MethodName)) (z := (⟨"tidemark/record/FseTable", "bits", "(I)I"⟩ : MethodName)) hown (mvT hZ (hw _ (List.mem_of_getElem? (i := 51) rfl))) (mvT hZ (hw _ (List.mem_of_getElem? (i := 52) rfl))) (notFace_of_selects (args := #[]) (mvT hZ (hw _ (List.mem_of_getElem? (i := 54) rfl)))) (mvT hZ (hw _ (List.mem_of_getElem? (i := 54) rfl))) (mvT hZ (hw _ (List.mem_of_getElem? (i := 53) rfl))) (by decide) (backOf (W := 0) (own_rm9 l Z aA hw [] b36_0 b36_2 k_b36_2 (0 : Int32) (0 : Int32) (0 : Int32) (2 : Int32) (0 : Int32) (0 : Int32) (0 : Int32) (0 : Int32) T43.heap n0 (Nat.le_trans (Nat.le_trans (Nat.le_trans (Nat.le_trans (Nat.le_trans Z0 E28.1) (Keep.of_wr W31).1) (Keep.of_wr W34).1) K36.1) K43.1) f43_1 f43_5) hZ (hw _ (List.mem_of_getElem? (i := 55) rfl)) (hw _ (List.mem_of_getElem? (i := 3) rfl)) (by decide) (by decide)) q53a q53c (g := (mkF m 60 #[.val (.int p0), .val (.int p1), .val (.ref b36_0)] [(.int (0 : Int32)), (.ref b36_0)])) rfl (by rw [hml]; rfl) (Steps.refl _) (argsL := [(.int (0 : Int32))]) (rest := []) (lenOf own_pd0 rfl) rfl (by show 2 * 0 + _ ≤ _; exact Nat.le_of_eq rfl) (hb hby at_60) (fun _ _ => ⟨rfl, ee49, Nat.le_of_ble_eq_true rfl, Nat.le_of_ble_eq_true rfl⟩)
    dsimp only [Pt.U, Pt.locs, Pt.cells, Pt.slots] at X53 l53 y53 z53 st53 hQ53
    subst l53 y53 z53
    obtain ⟨rfl, N53q, ee53⟩ := hQ53
    have N54 := Fr.app N50 N53q
    refine og_tr st53 ?_
    show OG p e below _ _ (T53.setTop (mkF m 63 #[.val (.int p0), .val (.int p1), .val (.ref b36_0)] [(.int (0 : Int32))]))
    refine o_ifN (pc' := 66) X53 hx rfl (hb hby at_63) ((if0 _ _).trans (teq (by decide : ((0 : Int32) = (0 : Int32)))).2) ?_
    refine o_aloadN X53 hx rfl (hb hby at_66) rfl rfl ?_
    refine o_iconst (z := (0 : Int32)) X53 hx rfl (hb hby at_67) (by decide) ?_
    obtain ⟨cq55, kq55, q55a, q55b, q55c⟩ := isOf hZ ee53 Fc47
    obtain ⟨_, _, ⟨T55, L55, k55, n55⟩, -, X55, ⟨Lc55, hQ55, l55, y55, z55⟩, st55⟩ := X53.virtualBack hx (y := (⟨"tidemark/record/FseTable", "base", "(I)I"⟩ : MethodName)) (z := (⟨"tidemark/record/FseTable", "base", "(I)I"⟩ : MethodName)) hown (mvT hZ (hw _ (List.mem_of_getElem? (i := 56) rfl))) (mvT hZ (hw _ (List.mem_of_getElem? (i := 57) rfl))) (notFace_of_selects (args := #[]) (mvT hZ (hw _ (List.mem_of_getElem? (i := 59) rfl)))) (mvT hZ (hw _ (List.mem_of_getElem? (i := 59) rfl))) (mvT hZ (hw _ (List.mem_of_getElem? (i := 58) rfl))) (by decide) (backOf (W := 0) (own_rm10 l Z aA hw [] b36_0 b36_3 k_b36_3 (0 : Int32) (0 : Int32) (1 : Int32) (0 : Int32) (0 : Int32) (0 : Int32) (0 : Int32) (0 : Int32) T43.heap n0 (Nat.le_trans (Nat.le_trans (Nat.le_trans (Nat.le_trans (Nat.le_trans Z0 E28.1) (Keep.of_wr W31).1) (Keep.of_wr W34).1) K36.1) K43.1) f43_2 f43_6) hZ (hw _ (List.mem_of_getElem? (i := 60) rfl)) (hw _ (List.mem_of_getElem? (i := 3) rfl)) (by decide) (by decide)) q55a q55c (g := (mkF m 68 #[.val (.int p0), .val (.int p1), .val (.ref b36_0)] [(.int (0 : Int32)), (.ref b36_0)])) rfl (by rw [hml]; rfl) (Steps.refl _) (argsL := [(.int (0 : Int32))]) (rest := []) (lenOf own_pd0 rfl) rfl (by show 2 * 0 + _ ≤ _; exact Nat.le_of_eq rfl) (hb hby at_68) (fun _ _ => ⟨rfl, ee53, Nat.le_of_ble_eq_true rfl, Nat.le_of_ble_eq_true rfl⟩)
    dsimp only [Pt.U, Pt.locs, Pt.cells, Pt.slots] at X55 l55 y55 z55 st55 hQ55
    subst l55 y55 z55
    obtain ⟨rfl, N55q, ee55⟩ := hQ55
    have N56 := Fr.app N54 N55q
    refine og_tr st55 ?_
    show OG p e below _ _ (T55.setTop (mkF m 71 #[.val (.int p0), .val (.int p1), .val (.ref b36_0)] [(.int (0 : Int32))]))
    refine o_ifN (pc' := 74) X55 hx rfl (hb hby at_71) ((if0 _ _).trans (teq (by decide : ((0 : Int32) = (0 : Int32)))).2) ?_
    refine o_iconst (z := (1 : Int32)) X55 hx rfl (hb hby at_74) (by decide) ?_
    refine o_goto (pc' := 79) X55 hx (hb hby at_75) (by decide) (by decide) ?_
    subst hz1 hz51
    exact o_retB X55 hx Bd.returns (own_lv X55 hlk (by decide) (by decide)) (hb hby at_79) (by decide) ⟨rfl, N56⟩
set_option maxRecDepth 65536 in
set_option maxHeartbeats 40000000 in
theorem own_comes {Post : Tables → Env → Array Value → State → Outcome → State → Prop} (hpost : ∀ tb e args s v u, (limb_1_1.after args s (.returned v) u = true ∧ limb_1_2.after args s (.returned v) u = true ∧ True) → FrameEnd s (.returned v) u (Jvm.fieldLocs frame_1_writes args s ++ Jvm.arrayLocs frame_1_arrays args s ++ Jvm.staticLocs frame_1_statics s) 24 4224 → Post tb e args s (.returned v) u) :
    ArmFor flags0 classFile x code maxLocals ret World_1 tables_1 room_1 Calls_1 rest_1 Pre_1 Post := by
  intro l hfl _ _ p e ha hc hk s m args below hf hA hF happ hP
  obtain ⟨hcalls, hrest, hpre⟩ := hP
  obtain ⟨-, -, -, hnamed, -, -, -, hat⟩ := (Spec.applies_iff hf).mp happ
  obtain ⟨hg, hn⟩ := and_e (Cond.before_iff.mp (show (Jvm.Cond.and given_1 narrow_1).before args s = true from hpre))
  obtain ⟨g0, gr0⟩ := and_e hg
  obtain ⟨gi0, gr1⟩ := and_e gr0
  have gi1 := gr1
  obtain ⟨w0, w1, rfl⟩ : ∃ w0 w1 : Value, args = #[w0, w1] := by
    have hs : args.size = 2 := by simpa [Cond.value, given_1] using g0
    obtain ⟨L⟩ := args
    match L, hs with
    | [w0, w1], _ => exact ⟨w0, w1, rfl⟩
  have hw := fun d (hd : d ∈ tables_1) => atoms_spec (ws := Jvm.Cond.code x code maxLocals ret :: tables_1) hat d (List.mem_cons_of_mem _ hd)
  have hfit : Fit s := fun {y c} hc i hi => by
    obtain ⟨ha, rfl⟩ := Array.getElem?_eq_some_iff.mp hc
    have q := List.all_eq_true.mp ((Array.all_eq_true_iff_forall_mem.mp hF) _ (Array.getElem_mem ha)) i (List.mem_range.mpr hi)
    simpa [Array.getElem?_eq_getElem hi] using q
  obtain ⟨i0, ei0⟩ := is_v gi0
  obtain rfl : w0 = (.int i0) := Option.some.inj ei0
  obtain ⟨i1, ei1⟩ := is_v gi1
  obtain rfl : w1 = (.int i1) := Option.some.inj ei1
  obtain ⟨n, o, h1, h2, h3, _, L, rfl, ⟨rfl, N⟩, hq⟩ := own_rm0 l s _ hw tables_1 i0 i1  s.heap s.heap.size (Nat.le_refl _)  p e ha hc hk s m _ below hf ((Spec.applies_iff_loose hf).mp happ).1 ⟨rfl, State.Warmed39.refl s, rfl⟩ trivial
  refine ⟨n, _, h1, h2, h3, hpost _ _ _ _ _ _ ⟨Cond.after_iff.mpr rfl, Cond.after_iff.mpr (eq_i res_at (Term.int_eval (1)) rfl), trivial⟩ ⟨hq.1, hq.2.1, (hq.2.2.sift fun y hy => Or.inr (N y hy)).mono (by decide) (by decide)⟩⟩
theorem main_1_1 : Claimed_1_1 := own_comes fun _ _ _ _ _ _ h hF => ⟨h.1, hF⟩
theorem main_1_2 : Claimed_1_2 := own_comes fun _ _ _ _ _ _ h hF => ⟨h.2.1, hF⟩
end Jvm.Pilot.@@N@@
namespace Jvm.Pilot.@@N@@
open Jvm Jvm.ClassFile Sem Op Lib Jvm.Free Jvm.Stand Jvm.Pilot.@@N@@.Jvm.D
/-! MADE BY PROGRAM (witnessworld.py) out of the Statement's table words and the real class files: 16 classes; the members and pool entries that the words name. The judged class is class 1, her method 1. -/
namespace start1
open Jvm.ClassFile
def u (s : String) : CpInfo := .utf8 (stringToUtf16 s)
/-- a pool by its gaps: so many unusable entries, then the entry; so many at the end -/
def gap : Nat → List CpInfo → List CpInfo
  | 0, r => r
  | n + 1, r => .unusable :: gap n r
def poolList (es : List (Nat × CpInfo)) (last : Nat) : List CpInfo := es.foldr (fun e r => gap e.1 (e.2 :: r)) (gap last [])
def pool (es : List (Nat × CpInfo)) (last : Nat) : Array CpInfo := ⟨poolList es last⟩
def fileOf (pool : Array CpInfo) (this : Nat) (attrs : Array Attribute := #[]) (ms : Array MethodInfo := #[]) (fl : Nat := 33) (sup : Nat := 0) (ifs : Array Nat := #[]) (fds : Array FieldInfo := #[]) : ClassFile where
  minorVersion := 0
  majorVersion := 65
  constantPool := pool
  accessFlags := fl
  thisClass := this
  superClass := sup
  interfaces := ifs
  fields := fds
  methods := ms
  attributes := attrs
def plain (name : String) (sup : Option ClassId) : Class where
  name := name
  kind := .ordinary
  loader := none
  accessFlags := 33
  super := sup
  interfaces := #[]
  cf := none
  fields := #[]
  methods := #[]
  instanceTypes := #[]
  staticTypes := #[]
  resolved := #[]
  callSites := []
  init := .initialized
  statics := none
  mirror := none

def pool0 : Array CpInfo := pool [(5, u "<init>"), (0, u "()V"), (1, .class_ 10), (1, u "java/lang/Object")] 113

def k0c0 : Code := { maxStack := 0, maxLocals := 1, code := object_method_1_code, exceptionTable := #[], attributes := #[] }
def k0m0 : Method := { name := "<init>", desc := "()V", sig := { parameters := [], returnType := none }, accessFlags := 1, code := some k0c0 }
/-- java/lang/Object -/
def k0 : Class := { plain "java/lang/Object" none with
  accessFlags := 33
  interfaces := #[]
  cf := some (fileOf pool0 8 #[] #[{ accessFlags := 1, nameIndex := 5, descriptorIndex := 6, attributes := #[] }] 33 0 #[] #[])
  fields := #[]
  methods := #[k0m0]
  instanceTypes := #[]
  staticTypes := #[]
  resolved := Array.replicate 124 none
  statics := none }

def pool1 : Array CpInfo := pool [(2, .class_ 4), (0, .nameAndType 5 6), (0, u "java/lang/Object"), (0, u "<init>"), (0, u "()V"), (0, .methodref 8 9), (0, .class_ 10), (0, .nameAndType 11 12), (0, u "tidemark/record/FseTable"), (0, u "predefined"), (0, u "(I[I)Ltidemark/record/FseTable;"), (0, .methodref 8 3), (0, .methodref 8 15), (0, .nameAndType 16 17), (0, u "single"), (0, u "(I)V"), (0, .methodref 8 19), (0, .nameAndType 20 21), (0, u "accuracyLog"), (0, u "()I"), (0, .methodref 8 23), (0, .nameAndType 24 25), (0, u "symbol"), (0, u "(I)I"), (0, .methodref 8 27), (0, .nameAndType 28 25), (0, u "bits"), (0, .methodref 8 30), (0, .nameAndType 31 25), (0, u "base"), (0, .class_ 33), (0, u "tidemark/record/FseTableSinglePinLaw"), (2, u "law"), (0, u "(II)Z")] 3

def k1m0 : Method := { name := "<init>", desc := "()V", sig := { parameters := [], returnType := none }, accessFlags := 2, code := none }
def k1c1 : Code := { maxStack := 5, maxLocals := 3, code := code, exceptionTable := #[], attributes := #[] }
def k1m1 : Method := { name := "law", desc := "(II)Z", sig := { parameters := [.int, .int], returnType := some .boolean }, accessFlags := 9, code := some k1c1 }
/-- tidemark/record/FseTableSinglePinLaw -/
def k1 : Class := { plain "tidemark/record/FseTableSinglePinLaw" (some 0) with
  accessFlags := 49
  interfaces := #[]
  cf := some (fileOf pool1 32 #[] #[{ accessFlags := 2, nameIndex := 5, descriptorIndex := 6, attributes := #[] }, { accessFlags := 9, nameIndex := 36, descriptorIndex := 37, attributes := #[] }] 49 2 #[] #[])
  fields := #[]
  methods := #[k1m0, k1m1]
  instanceTypes := #[]
  staticTypes := #[]
  resolved := Array.replicate 41 none
  statics := none }

def pool2 : Array CpInfo := pool [(1, .methodref 2 3), (0, .class_ 4), (0, .nameAndType 5 6), (0, u "java/lang/Object"), (0, u "<init>"), (0, u "()V"), (0, .class_ 8), (0, u "tidemark/record/FseTable"), (0, .fieldref 7 10), (0, .nameAndType 11 12), (0, u "symbols"), (0, u "[B"), (0, .fieldref 7 14), (0, .nameAndType 15 12), (0, u "bits"), (0, .fieldref 7 17), (0, .nameAndType 18 19), (0, u "bases"), (0, u "[S"), (0, .fieldref 7 21), (0, .nameAndType 22 19), (0, u "counts"), (0, .fieldref 7 24), (0, .nameAndType 25 26), (0, u "next"), (0, u "[I"), (0, .methodref 7 3), (0, .methodref 7 29), (0, .nameAndType 30 31), (0, u "build"), (0, u "(II)V"), (9, .fieldref 7 42), (0, .nameAndType 43 44), (0, u "accuracyLog"), (0, u "I"), (0, .class_ 46), (0, u "tidemark/record/FseTable$ForwardBits"), (6, u "(I)I"), (19, u "(I)V"), (9, u "()I"), (2, .class_ 87), (0, u "java/lang/Integer"), (0, .methodref 86 89), (0, .nameAndType 90 53), (0, u "numberOfLeadingZeros"), (15, u "INTS"), (0, u "Ljava/lang/invoke/VarHandle;"), (0, u "MAX_ACCURACY_LOG"), (2, u "MAX_SYMBOL"), (3, u "predefined"), (0, u "(I[I)Ltidemark/record/FseTable;"), (1, u "symbol"), (0, u "base"), (0, u "single")] 25

def k2c0 : Code := { maxStack := 2, maxLocals := 1, code := prog_170_method_1_code, exceptionTable := #[], attributes := #[] }
def k2m0 : Method := { name := "<init>", desc := "()V", sig := { parameters := [], returnType := none }, accessFlags := 0, code := some k2c0 }
def k2c1 : Code := { maxStack := 4, maxLocals := 4, code := prog_170_method_2_code, exceptionTable := #[{ startPc := 32, endPc := 39, handlerPc := 42, catchType := 32 }], attributes := #[] }
def k2m1 : Method := { name := "predefined", desc := "(I[I)Ltidemark/record/FseTable;", sig := { parameters := [.int, (.array .int)], returnType := some (.object "tidemark/record/FseTable") }, accessFlags := 136, code := some k2c1 }
def k2c2 : Code := { maxStack := 1, maxLocals := 1, code := prog_170_method_3_code, exceptionTable := #[], attributes := #[] }
def k2m2 : Method := { name := "accuracyLog", desc := "()I", sig := { parameters := [], returnType := some .int }, accessFlags := 0, code := some k2c2 }
def k2c3 : Code := { maxStack := 2, maxLocals := 2, code := prog_170_method_4_code, exceptionTable := #[], attributes := #[] }
def k2m3 : Method := { name := "symbol", desc := "(I)I", sig := { parameters := [.int], returnType := some .int }, accessFlags := 0, code := some k2c3 }
def k2c4 : Code := { maxStack := 2, maxLocals := 2, code := prog_170_method_5_code, exceptionTable := #[], attributes := #[] }
def k2m4 : Method := { name := "bits", desc := "(I)I", sig := { parameters := [.int], returnType := some .int }, accessFlags := 0, code := some k2c4 }
def k2c5 : Code := { maxStack := 2, maxLocals := 2, code := prog_170_method_6_code, exceptionTable := #[], attributes := #[] }
def k2m5 : Method := { name := "base", desc := "(I)I", sig := { parameters := [.int], returnType := some .int }, accessFlags := 0, code := some k2c5 }
def k2c6 : Code := { maxStack := 3, maxLocals := 2, code := prog_170_method_7_code, exceptionTable := #[], attributes := #[] }
def k2m6 : Method := { name := "single", desc := "(I)V", sig := { parameters := [.int], returnType := none }, accessFlags := 0, code := some k2c6 }
def k2c7 : Code := { maxStack := 5, maxLocals := 10, code := prog_170_method_9_code, exceptionTable := #[], attributes := #[] }
def k2m7 : Method := { name := "build", desc := "(II)V", sig := { parameters := [.int, .int], returnType := none }, accessFlags := 2, code := some k2c7 }
/-- tidemark/record/FseTable -/
def k2 : Class := { plain "tidemark/record/FseTable" (some 0) with
  accessFlags := 48
  interfaces := #[]
  cf := some (fileOf pool2 7 #[.nestMembers #[45]] #[{ accessFlags := 0, nameIndex := 5, descriptorIndex := 6, attributes := #[] }, { accessFlags := 136, nameIndex := 115, descriptorIndex := 116, attributes := #[] }, { accessFlags := 0, nameIndex := 43, descriptorIndex := 83, attributes := #[] }, { accessFlags := 0, nameIndex := 118, descriptorIndex := 53, attributes := #[] }, { accessFlags := 0, nameIndex := 15, descriptorIndex := 53, attributes := #[] }, { accessFlags := 0, nameIndex := 119, descriptorIndex := 53, attributes := #[] }, { accessFlags := 0, nameIndex := 120, descriptorIndex := 73, attributes := #[] }, { accessFlags := 2, nameIndex := 30, descriptorIndex := 31, attributes := #[] }] 48 2 #[] #[{ accessFlags := 26, nameIndex := 108, descriptorIndex := 44, attributes := #[] }, { accessFlags := 26, nameIndex := 111, descriptorIndex := 44, attributes := #[] }, { accessFlags := 26, nameIndex := 106, descriptorIndex := 107, attributes := #[] }, { accessFlags := 18, nameIndex := 11, descriptorIndex := 12, attributes := #[] }, { accessFlags := 18, nameIndex := 15, descriptorIndex := 12, attributes := #[] }, { accessFlags := 18, nameIndex := 18, descriptorIndex := 19, attributes := #[] }, { accessFlags := 18, nameIndex := 22, descriptorIndex := 19, attributes := #[] }, { accessFlags := 18, nameIndex := 25, descriptorIndex := 26, attributes := #[] }, { accessFlags := 2, nameIndex := 43, descriptorIndex := 44, attributes := #[] }])
  fields := #[{ name := "MAX_ACCURACY_LOG", type := .int, accessFlags := 26, slot := 0, constantValue := 0 }, { name := "MAX_SYMBOL", type := .int, accessFlags := 26, slot := 1, constantValue := 0 }, { name := "INTS", type := (.object "java/lang/invoke/VarHandle"), accessFlags := 26, slot := 2, constantValue := 0 }, { name := "symbols", type := (.array .byte), accessFlags := 18, slot := 0, constantValue := 0 }, { name := "bits", type := (.array .byte), accessFlags := 18, slot := 1, constantValue := 0 }, { name := "bases", type := (.array .short), accessFlags := 18, slot := 2, constantValue := 0 }, { name := "counts", type := (.array .short), accessFlags := 18, slot := 3, constantValue := 0 }, { name := "next", type := (.array .int), accessFlags := 18, slot := 4, constantValue := 0 }, { name := "accuracyLog", type := .int, accessFlags := 2, slot := 5, constantValue := 0 }]
  methods := #[k2m0, k2m1, k2m2, k2m3, k2m4, k2m5, k2m6, k2m7]
  instanceTypes := #[(.array .byte), (.array .byte), (.array .short), (.array .short), (.array .int), .int]
  staticTypes := #[.int, .int, (.object "java/lang/invoke/VarHandle")]
  resolved := Array.replicate 146 none
  statics := none }

def pool3 : Array CpInfo := pool [(1, .class_ 2), (0, u "java/io/Serializable"), (0, .class_ 4), (0, u "java/lang/Object")] 2

/-- java/io/Serializable -/
def k3 : Class := { plain "java/io/Serializable" (some 0) with
  accessFlags := 1537
  interfaces := #[]
  cf := some (fileOf pool3 1 #[] #[] 1537 3 #[] #[])
  fields := #[]
  methods := #[]
  instanceTypes := #[]
  staticTypes := #[]
  resolved := Array.replicate 7 none
  statics := none }

def pool4 : Array CpInfo := pool [(2, .class_ 4), (1, u "java/lang/Object"), (0, u "<init>"), (0, u "()V"), (1, .class_ 10), (1, u "java/lang/Number"), (2, .class_ 14), (0, u "java/io/Serializable"), (0, u "serialVersionUID"), (0, u "J")] 20

def k4m0 : Method := { name := "<init>", desc := "()V", sig := { parameters := [], returnType := none }, accessFlags := 1, code := none }
/-- java/lang/Number -/
def k4 : Class := { plain "java/lang/Number" (some 0) with
  accessFlags := 1057
  interfaces := #[3]
  cf := some (fileOf pool4 8 #[] #[{ accessFlags := 1, nameIndex := 5, descriptorIndex := 6, attributes := #[] }] 1057 2 #[13] #[{ accessFlags := 26, nameIndex := 15, descriptorIndex := 16, attributes := #[] }])
  fields := #[{ name := "serialVersionUID", type := .long, accessFlags := 26, slot := 0, constantValue := 0 }]
  methods := #[k4m0]
  instanceTypes := #[]
  staticTypes := #[.long]
  resolved := Array.replicate 37 none
  statics := none }

def pool5 : Array CpInfo := pool [(1, .class_ 2), (0, u "java/lang/Comparable"), (0, .class_ 4), (0, u "java/lang/Object")] 7

/-- java/lang/Comparable -/
def k5 : Class := { plain "java/lang/Comparable" (some 0) with
  accessFlags := 1537
  interfaces := #[]
  cf := some (fileOf pool5 1 #[] #[] 1537 3 #[] #[])
  fields := #[]
  methods := #[]
  instanceTypes := #[]
  staticTypes := #[]
  resolved := Array.replicate 12 none
  statics := none }

def pool6 : Array CpInfo := pool [(1, .class_ 2), (0, u "java/lang/constant/Constable"), (0, .class_ 4), (0, u "java/lang/Object")] 6

/-- java/lang/constant/Constable -/
def k6 : Class := { plain "java/lang/constant/Constable" (some 0) with
  accessFlags := 1537
  interfaces := #[]
  cf := some (fileOf pool6 1 #[] #[] 1537 3 #[] #[])
  fields := #[]
  methods := #[]
  instanceTypes := #[]
  staticTypes := #[]
  resolved := Array.replicate 11 none
  statics := none }

def pool7 : Array CpInfo := pool [(1, .class_ 2), (0, u "java/lang/constant/ConstantDesc"), (0, .class_ 4), (0, u "java/lang/Object")] 32

/-- java/lang/constant/ConstantDesc -/
def k7 : Class := { plain "java/lang/constant/ConstantDesc" (some 0) with
  accessFlags := 1537
  interfaces := #[]
  cf := some (fileOf pool7 1 #[] #[] 1537 3 #[] #[])
  fields := #[]
  methods := #[]
  instanceTypes := #[]
  staticTypes := #[]
  resolved := Array.replicate 37 none
  statics := none }

def pool8 : Array CpInfo := pool [(1, .class_ 2), (0, u "java/lang/Integer"), (16, u "digits"), (0, u "[C"), (32, u "numberOfLeadingZeros"), (0, u "(I)I"), (30, u "DigitOnes"), (0, u "[B"), (2, u "DigitTens"), (99, .class_ 190), (0, u "java/lang/Integer$IntegerCache"), (3, u "I"), (8, .class_ 204), (0, u "java/lang/Number"), (2, u "value"), (56, .integer 65536), (37, u "TYPE"), (0, u "Ljava/lang/Class;"), (0, .class_ 305), (0, u "java/lang/Comparable"), (0, .class_ 307), (0, u "java/lang/constant/Constable"), (0, .class_ 309), (0, u "java/lang/constant/ConstantDesc"), (0, u "MIN_VALUE"), (1, u "MAX_VALUE"), (3, u "SIZE"), (1, u "BYTES"), (1, u "serialVersionUID"), (0, u "J")] 131

def k8c0 : Code := { maxStack := 3, maxLocals := 2, code := jdk_33_method_47_code, exceptionTable := #[], attributes := #[] }
def k8m0 : Method := { name := "numberOfLeadingZeros", desc := "(I)I", sig := { parameters := [.int], returnType := some .int }, accessFlags := 9, code := some k8c0 }
/-- java/lang/Integer -/
def k8 : Class := { plain "java/lang/Integer" (some 4) with
  accessFlags := 49
  interfaces := #[5, 6, 7]
  cf := some (fileOf pool8 1 #[.nestMembers #[189]] #[{ accessFlags := 9, nameIndex := 53, descriptorIndex := 54, attributes := #[] }] 49 203 #[304, 306, 308] #[{ accessFlags := 25, nameIndex := 310, descriptorIndex := 194, attributes := #[] }, { accessFlags := 25, nameIndex := 312, descriptorIndex := 194, attributes := #[] }, { accessFlags := 25, nameIndex := 302, descriptorIndex := 303, attributes := #[] }, { accessFlags := 24, nameIndex := 19, descriptorIndex := 20, attributes := #[] }, { accessFlags := 24, nameIndex := 89, descriptorIndex := 86, attributes := #[] }, { accessFlags := 24, nameIndex := 85, descriptorIndex := 86, attributes := #[] }, { accessFlags := 18, nameIndex := 207, descriptorIndex := 194, attributes := #[] }, { accessFlags := 25, nameIndex := 316, descriptorIndex := 194, attributes := #[] }, { accessFlags := 25, nameIndex := 318, descriptorIndex := 194, attributes := #[] }, { accessFlags := 26, nameIndex := 320, descriptorIndex := 321, attributes := #[] }])
  fields := #[{ name := "MIN_VALUE", type := .int, accessFlags := 25, slot := 0, constantValue := 0 }, { name := "MAX_VALUE", type := .int, accessFlags := 25, slot := 1, constantValue := 0 }, { name := "TYPE", type := (.object "java/lang/Class"), accessFlags := 25, slot := 2, constantValue := 0 }, { name := "digits", type := (.array .char), accessFlags := 24, slot := 3, constantValue := 0 }, { name := "DigitTens", type := (.array .byte), accessFlags := 24, slot := 4, constantValue := 0 }, { name := "DigitOnes", type := (.array .byte), accessFlags := 24, slot := 5, constantValue := 0 }, { name := "value", type := .int, accessFlags := 18, slot := 0, constantValue := 0 }, { name := "SIZE", type := .int, accessFlags := 25, slot := 6, constantValue := 0 }, { name := "BYTES", type := .int, accessFlags := 25, slot := 7, constantValue := 0 }, { name := "serialVersionUID", type := .long, accessFlags := 26, slot := 8, constantValue := 0 }]
  methods := #[k8m0]
  instanceTypes := #[.int]
  staticTypes := #[.int, .int, (.object "java/lang/Class"), (.array .char), (.array .byte), (.array .byte), .int, .int, .long]
  resolved := Array.replicate 453 none
  statics := none }

def pool9 : Array CpInfo := pool [(1, u "java/lang/Cloneable"), (0, .class_ 1), (0, u "java/lang/Object"), (0, .class_ 3)] 3

/-- java/lang/Cloneable -/
def k9 : Class := { plain "java/lang/Cloneable" (some 0) with
  accessFlags := 1537
  interfaces := #[]
  cf := some (fileOf pool9 2 #[] #[] 1537 4 #[] #[])
  fields := #[]
  methods := #[]
  instanceTypes := #[]
  staticTypes := #[]
  resolved := Array.replicate 8 none
  statics := none }

/-- the primitive byte -/
def k10 : Class := { plain "byte" none with kind := .primitive 'B', accessFlags := 0x411 }
/-- [B -/
def k11 : Class := { plain "[B" (some 0) with kind := .array 10 .byte, interfaces := #[9, 3], accessFlags := 1041 }

/-- the primitive int -/
def k12 : Class := { plain "int" none with kind := .primitive 'I', accessFlags := 0x411 }
/-- [I -/
def k13 : Class := { plain "[I" (some 0) with kind := .array 12 .int, interfaces := #[9, 3], accessFlags := 1041 }

/-- the primitive short -/
def k14 : Class := { plain "short" none with kind := .primitive 'S', accessFlags := 0x411 }
/-- [S -/
def k15 : Class := { plain "[S" (some 0) with kind := .array 14 .short, interfaces := #[9, 3], accessFlags := 1041 }

def heap : Heap := #[]
def classes : Array Class := #[k0, k1, k2, k3, k4, k5, k6, k7, k8, k9, k10, k11, k12, k13, k14, k15]
def interned : List (Array UInt16 × Addr) := []
def slotsUsed : Nat := 0
def theMethod : MethodId := ⟨1, 1⟩
def args0 : Array Value := #[.int 5, .int 7]
def aboutOver (below : List Frame) : State where
  vm := { classes := classes, interned := interned.toArray }
  heap := heap
  slotsUsed := slotsUsed
  threads := #[{ frames := .invoking theMethod args0 :: below }]
def below0 : List Frame := [.native { method := ⟨0, 0⟩, args := #[] }]
def about1 : State := aboutOver below0
def p0 : Program := .bare "" "" ""
def e0 : Env := launch0.env 0 0 0
theorem w_frames : about1.frames = Frame.invoking theMethod args0 :: below0 := rfl
set_option maxRecDepth 65536 in
theorem w_args : argsFit about1.vm theMethod args0 = true := by decide +kernel
set_option maxRecDepth 65536 in
theorem w_heap : heapFits about1 = true := by decide +kernel
set_option maxRecDepth 65536 in
theorem w_runnable : about1.curStatus? = some .runnable := by decide +kernel
set_option maxRecDepth 65536 in
theorem w_alone : about1.alone = true := by decide +kernel
set_option maxRecDepth 65536 in
theorem w_named : about1.methodNamed? x = some theMethod := by decide +kernel
set_option maxRecDepth 65536 in
theorem w_hears : about1.hears theMethod below0 = true := by decide +kernel
set_option maxRecDepth 65536 in
theorem w_ripe : about1.ripe theMethod args0 below0 = true := by decide +kernel
theorem w_running : about1.status = .running := rfl
set_option maxRecDepth 65536 in
theorem w_room : about1.hasRoom e0.platform room_1 = true :=
  launch0.hasRoom_least _ room_1 (by decide +kernel) (by decide +kernel) (by decide +kernel) (by decide +kernel) (by decide +kernel) (by decide +kernel)
theorem allAtoms_all (ts : List Jvm.Cond) (a : Array Jvm.Value) (st : Jvm.State) : (allAtoms ts).before a st = ts.all (fun c => c.before a st) := by
  induction ts with
  | nil => rfl
  | cons c t ih =>
    show (Jvm.Cond.and c (allAtoms t)).before a st = _
    rw [Jvm.Cond.before_and, ih, List.all_cons]
def words1 : List Jvm.Cond := Jvm.Cond.code x code maxLocals ret :: tables_1
/-- a 'code' word, met by the world's own term for the bytes: nothing is compared byte by byte -/
theorem code_word {y : MethodName} {bytes : ByteArray} {mx : Nat} {rt : Option FieldType} {a : Array Value} {s : State} {m : MethodId} {meth : Method} {c : Code} (h1 : s.methodNamed? y = some m) (h2 : s.vm.method? m = some meth) (h3 : meth.code = some c) (h4 : c.code = bytes)
    (h5 : (c.maxLocals == mx && c.exceptionTable.isEmpty && decide (c.maxStack ≤ mostOperands) && decide (meth.sig.returnType = rt) && !meth.locks && decide (parseMethodDescriptor y.desc = some meth.sig)) = true) : (Jvm.Cond.code y bytes mx rt).before a s = true := by
  simp only [Bool.and_eq_true, beq_iff_eq, Bool.not_eq_true', decide_eq_true_eq] at h5
  obtain ⟨⟨⟨⟨⟨g1, g2⟩, g3⟩, g4⟩, g5⟩, g6⟩ := h5
  simp [Cond.before, Cond.holds, Cond.value, h1, h2, h3, h4, g1, g2, g3, g4, g5, g6]
def isCode : Jvm.Cond → Bool
  | .code _ _ _ _ => true
  | _ => false
theorem all_split {L : List Jvm.Cond} {P : Jvm.Cond → Bool} (h1 : L.all (fun c => isCode c || P c) = true) (h2 : ∀ c ∈ L.filter isCode, P c = true) : L.all P = true := by
  refine List.all_eq_true.mpr fun c hc => ?_
  have h := List.all_eq_true.mp h1 c hc
  rcases Bool.eq_false_or_eq_true (isCode c) with hi | hi
  · exact h2 c (List.mem_filter.mpr ⟨hc, hi⟩)
  · simpa [hi] using h
set_option maxRecDepth 65536 in
theorem w_c0 : (Jvm.Cond.code x code maxLocals ret).before args0 about1 = true := code_word (m := ⟨1, 1⟩) (meth := k1m1) (c := k1c1) (by decide +kernel) rfl rfl rfl (by decide +kernel)
set_option maxRecDepth 65536 in
theorem w_c1 : (Jvm.Cond.code ({ cls := "tidemark/record/FseTable", name := "<init>", desc := "()V" } : Jvm.MethodName) prog_170_method_1_code (1 : Nat) (Option.none : Option Jvm.ClassFile.FieldType)).before args0 about1 = true := code_word (m := ⟨2, 0⟩) (meth := k2m0) (c := k2c0) (by decide +kernel) rfl rfl rfl (by decide +kernel)
set_option maxRecDepth 65536 in
theorem w_c2 : (Jvm.Cond.code ({ cls := "java/lang/Object", name := "<init>", desc := "()V" } : Jvm.MethodName) object_method_1_code (1 : Nat) (Option.none : Option Jvm.ClassFile.FieldType)).before args0 about1 = true := code_word (m := ⟨0, 0⟩) (meth := k0m0) (c := k0c0) (by decide +kernel) rfl rfl rfl (by decide +kernel)
set_option maxRecDepth 65536 in
theorem w_c3 : (Jvm.Cond.code ({ cls := "tidemark/record/FseTable", name := "build", desc := "(II)V" } : Jvm.MethodName) prog_170_method_9_code (10 : Nat) (Option.none : Option Jvm.ClassFile.FieldType)).before args0 about1 = true := code_word (m := ⟨2, 7⟩) (meth := k2m7) (c := k2c7) (by decide +kernel) rfl rfl rfl (by decide +kernel)
set_option maxRecDepth 65536 in
theorem w_c4 : (Jvm.Cond.code ({ cls := "java/lang/Integer", name := "numberOfLeadingZeros", desc := "(I)I" } : Jvm.MethodName) jdk_33_method_47_code (2 : Nat) (Option.some Jvm.ClassFile.FieldType.int)).before args0 about1 = true := code_word (m := ⟨8, 0⟩) (meth := k8m0) (c := k8c0) (by decide +kernel) rfl rfl rfl (by decide +kernel)
set_option maxRecDepth 65536 in
theorem w_c5 : (Jvm.Cond.code ({ cls := "tidemark/record/FseTable", name := "single", desc := "(I)V" } : Jvm.MethodName) prog_170_method_7_code (2 : Nat) (Option.none : Option Jvm.ClassFile.FieldType)).before args0 about1 = true := code_word (m := ⟨2, 6⟩) (meth := k2m6) (c := k2c6) (by decide +kernel) rfl rfl rfl (by decide +kernel)
set_option maxRecDepth 65536 in
theorem w_c6 : (Jvm.Cond.code ({ cls := "tidemark/record/FseTable", name := "accuracyLog", desc := "()I" } : Jvm.MethodName) prog_170_method_3_code (1 : Nat) (Option.some Jvm.ClassFile.FieldType.int)).before args0 about1 = true := code_word (m := ⟨2, 2⟩) (meth := k2m2) (c := k2c2) (by decide +kernel) rfl rfl rfl (by decide +kernel)
set_option maxRecDepth 65536 in
theorem w_c7 : (Jvm.Cond.code ({ cls := "tidemark/record/FseTable", name := "symbol", desc := "(I)I" } : Jvm.MethodName) prog_170_method_4_code (2 : Nat) (Option.some Jvm.ClassFile.FieldType.int)).before args0 about1 = true := code_word (m := ⟨2, 3⟩) (meth := k2m3) (c := k2c3) (by decide +kernel) rfl rfl rfl (by decide +kernel)
set_option maxRecDepth 65536 in
theorem w_c8 : (Jvm.Cond.code ({ cls := "tidemark/record/FseTable", name := "bits", desc := "(I)I" } : Jvm.MethodName) prog_170_method_5_code (2 : Nat) (Option.some Jvm.ClassFile.FieldType.int)).before args0 about1 = true := code_word (m := ⟨2, 4⟩) (meth := k2m4) (c := k2c4) (by decide +kernel) rfl rfl rfl (by decide +kernel)
set_option maxRecDepth 65536 in
theorem w_c9 : (Jvm.Cond.code ({ cls := "tidemark/record/FseTable", name := "base", desc := "(I)I" } : Jvm.MethodName) prog_170_method_6_code (2 : Nat) (Option.some Jvm.ClassFile.FieldType.int)).before args0 about1 = true := code_word (m := ⟨2, 5⟩) (meth := k2m5) (c := k2c5) (by decide +kernel) rfl rfl rfl (by decide +kernel)
def codes1 : List Jvm.Cond := [Jvm.Cond.code x code maxLocals ret, Jvm.Cond.code ({ cls := "tidemark/record/FseTable", name := "<init>", desc := "()V" } : Jvm.MethodName) prog_170_method_1_code (1 : Nat) (Option.none : Option Jvm.ClassFile.FieldType), Jvm.Cond.code ({ cls := "java/lang/Object", name := "<init>", desc := "()V" } : Jvm.MethodName) object_method_1_code (1 : Nat) (Option.none : Option Jvm.ClassFile.FieldType), Jvm.Cond.code ({ cls := "tidemark/record/FseTable", name := "build", desc := "(II)V" } : Jvm.MethodName) prog_170_method_9_code (10 : Nat) (Option.none : Option Jvm.ClassFile.FieldType), Jvm.Cond.code ({ cls := "java/lang/Integer", name := "numberOfLeadingZeros", desc := "(I)I" } : Jvm.MethodName) jdk_33_method_47_code (2 : Nat) (Option.some Jvm.ClassFile.FieldType.int), Jvm.Cond.code ({ cls := "tidemark/record/FseTable", name := "single", desc := "(I)V" } : Jvm.MethodName) prog_170_method_7_code (2 : Nat) (Option.none : Option Jvm.ClassFile.FieldType), Jvm.Cond.code ({ cls := "tidemark/record/FseTable", name := "accuracyLog", desc := "()I" } : Jvm.MethodName) prog_170_method_3_code (1 : Nat) (Option.some Jvm.ClassFile.FieldType.int), Jvm.Cond.code ({ cls := "tidemark/record/FseTable", name := "symbol", desc := "(I)I" } : Jvm.MethodName) prog_170_method_4_code (2 : Nat) (Option.some Jvm.ClassFile.FieldType.int), Jvm.Cond.code ({ cls := "tidemark/record/FseTable", name := "bits", desc := "(I)I" } : Jvm.MethodName) prog_170_method_5_code (2 : Nat) (Option.some Jvm.ClassFile.FieldType.int), Jvm.Cond.code ({ cls := "tidemark/record/FseTable", name := "base", desc := "(I)I" } : Jvm.MethodName) prog_170_method_6_code (2 : Nat) (Option.some Jvm.ClassFile.FieldType.int)]
set_option maxRecDepth 65536 in
theorem codes_eq : words1.filter isCode = codes1 := rfl
theorem w_codes : ∀ c ∈ words1.filter isCode, c.before args0 about1 = true := by
  rw [codes_eq]
  intro c hc
  simp only [codes1, List.mem_cons, List.not_mem_nil, or_false] at hc
  rcases hc with rfl | rfl | rfl | rfl | rfl | rfl | rfl | rfl | rfl | rfl
  · exact w_c0
  · exact w_c1
  · exact w_c2
  · exact w_c3
  · exact w_c4
  · exact w_c5
  · exact w_c6
  · exact w_c7
  · exact w_c8
  · exact w_c9
set_option maxRecDepth 65536 in
theorem w_t1 : (words1.take 24).all (fun c => isCode c || c.before args0 about1) = true := by decide +kernel
set_option maxRecDepth 65536 in
theorem w_t2 : ((words1.drop 24).take 24).all (fun c => isCode c || c.before args0 about1) = true := by decide +kernel
set_option maxRecDepth 65536 in
theorem w_t3 : ((words1.drop 24).drop 24).all (fun c => isCode c || c.before args0 about1) = true := by decide +kernel
theorem w_tables : (allAtoms (Jvm.Cond.code x code maxLocals ret :: tables_1)).before args0 about1 = true := by
  rw [allAtoms_all]
  show words1.all (fun c => c.before args0 about1) = true
  refine all_split ?_ w_codes
  rw [← List.take_append_drop 24 words1, List.all_append, w_t1, ← List.take_append_drop 24 (words1.drop 24), List.all_append, w_t2, w_t3]
  rfl
set_option maxRecDepth 65536 in
theorem w_case : (Jvm.Cond.and given_1 narrow_1).before args0 about1 = true := by decide +kernel
theorem w_applies : (headSpec (Jvm.Cond.code x code maxLocals ret :: tables_1) room_1).applies x e0.platform about1 = true :=
  (Spec.applies_iff w_frames).mpr ⟨w_running, w_runnable, w_alone, w_named, w_hears, w_ripe, w_room, w_tables⟩
theorem atStart : AtStart classFile x code maxLocals ret World_1 tables_1 room_1 Calls_1 rest_1 Pre_1 launch0 p0 e0 about1 theMethod args0 below0 :=
  ⟨lists_1, trivial, launch0.admits_env _ _ _, launch0.least_env, fairChoices_fair.cas, fairChoices_fair.clock, w_frames, w_args, w_heap, w_applies, trivial, trivial, w_case⟩
end start1
theorem witness_1 : WitnessClaimed_1 := ⟨start1.p0, start1.e0, start1.about1, start1.theMethod, start1.args0, start1.below0, start1.atStart⟩
end Jvm.Pilot.@@N@@

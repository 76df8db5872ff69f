import JvmDerived
import JvmDerived.Pilot.@@N@@Statement
import JvmDerived.Pilot.@@N@@Code
set_option linter.unusedVariables false
set_option linter.unusedSimpArgs false
namespace Jvm.RoadKit
open Sem ClassFile Op Lib Jvm.Stand Jvm.Free Jvm.LawKit
section Own
variable {p : Program} {l : Launch} {e : Env} {R : Room} {s : State} {m : MethodId} {args : Array Value} {below : List Frame} {meth : Method} {c : Code} {T : State} {locs : List Loc} {cells slots : Nat} {Q : Option Value → Heap → List Loc → Prop} {Φ : Outcome → State → List Loc → Prop} {k n : Nat} {pc pc' : Nat} {L L' : Array Slot} {S : List Value}
def OG (p : Program) (e : Env) (below : List Frame) (Φ : Outcome → State → List Loc → Prop) (Q : Option Value → Heap → List Loc → Prop) (t : State) : Prop :=
  ∃ s₂ o, Steps p.tables e below t s₂ ∧ s₂.status = .running ∧ Ended s₂ below o ∧ ∃ v L, o = .returned v ∧ Q v s₂.heap L ∧ Φ o s₂ L
abbrev FE (s : State) (k n : Nat) : Outcome → State → List Loc → Prop := fun o t L => FrameEnd s o t L k n
abbrev FEW (s : State) (k n : Nat) : Outcome → State → List Loc → Prop := fun o t L => ReturnedEndW s o t L k n
theorem og_of {t t' : State} (st : ∀ g, Steps p.tables e below t' g → Steps p.tables e below t g) (G : OG p e below Φ Q t') : OG p e below Φ Q t := by
  obtain ⟨s₂, o, h, r⟩ := G; exact ⟨s₂, o, st _ h, r⟩
theorem og_tr {t t' : State} (st : Steps p.tables e below t t') (G : OG p e below Φ Q t') : OG p e below Φ Q t := og_of (fun _ k => st.trans k) G
def Lv (e : Env) (below : List Frame) (Φ : Outcome → State → List Loc → Prop) (m : MethodId) (meth : Method) (T : State) (locs : List Loc) : Prop :=
  ∀ v : Option Value, (meth.sig.returnType = none → v = none) → ∃ fs, (∀ (f : JFrame) (acts : List Action), f.method = m → f.locked = none → f.entered = [] → (doReturn e (T.setTop f) acts v).1 = T.setFrames fs) ∧ (T.setFrames fs).status = .running ∧ Ended (T.setFrames fs) below (.returned v) ∧ Φ (.returned v) (T.setFrames fs) locs
theorem own_lv (X : Stand p l e R s m args below meth c T locs cells slots) (hlk : meth.locks = false) (hk : cells ≤ k) (hn : slots ≤ n) : Lv e below (FE s k n) m meth T locs := fun v hv => by
  obtain ⟨fs, hr, hrun, hended, hW, hsame⟩ := X.leave (v := v) hv hlk
  exact ⟨fs, hr, hrun, hended, ⟨_, rfl⟩, hW, hsame.mono hk hn⟩
theorem own_lvW {vm₁ : Vm} {q : Nat} (X : Stand p l e R (s.setVm vm₁) m args below meth c T locs cells slots) (hlk : meth.locks = false) (hS : s.Since vm₁ q) (hq : q ≤ T.heap.size) (hk : cells ≤ k) (hn : slots ≤ n) : Lv e below (FEW s k n) m meth T locs := fun v hv => by
  obtain ⟨fs, hr, hrun, hended, h1, h2, h3, h4⟩ := X.leaveW hS hq (v := v) hv hlk
  exact ⟨fs, hr, hrun, hended, h1, h2, h3, h4.mono hk hn⟩
theorem og_end (hE : Lv e below Φ m meth T locs) {v : Option Value} (hv : meth.sig.returnType = none → v = none) {g : JFrame}
    (st : ∀ fs, (∀ (f : JFrame) (acts : List Action), f.method = m → f.locked = none → f.entered = [] → (doReturn e (T.setTop f) acts v).1 = T.setFrames fs) → Steps p.tables e below (T.setTop g) (T.setFrames fs))
    (hQ : Q v T.heap locs) : OG p e below Φ Q (T.setTop g) := by
  obtain ⟨fs, hr, hrun, hended, hF⟩ := hE v hv
  exact ⟨_, _, st fs hr, hrun, hended, _, _, rfl, hQ, hF⟩
theorem own_mono (X : Stand p l e R s m args below meth c T locs cells slots) {cells' slots' : Nat} (hc : cells ≤ cells') (hs : slots ≤ slots') : Stand p l e R s m args below meth c T locs cells' slots' :=
  ⟨X.admits, X.cas, X.clock, X.frames, X.room, X.hears, X.method, X.code, X.here, X.tail, X.warmed, X.limits, X.bytes, X.same.mono hc hs⟩
theorem retI (X : Stand p l e R s m args below meth c T locs cells slots) (hx : p.tables.exec = Jvm.exec) {pc : Nat} {Ls : Array Slot} {z : Int32} {rest : List Value} (hret : meth.sig.returnType = some .int) (hd : decode c.code pc = .ok (.ireturn, 1)) {fs : List Frame}
    (hl : ∀ (f : JFrame) (acts : List Action), f.method = m → f.locked = none → f.entered = [] → (doReturn e (T.setTop f) acts (some (.int z))).1 = T.setFrames fs) : Steps p.tables e below (T.setTop (mkF m pc Ls (.int z :: rest))) (T.setFrames fs) := by
  have hm' : T.vm.method? m = some meth := X.method'
  have hn : narrow .int (.int z) = .int z := rfl
  show Steps p.tables e below (T.setTop { method := m, pc := pc, locals := Ls, stack := _ :: rest, locked := none }) _
  jvm_step X.here [X.here.top, hx, hd, hm', hret, hn]
  first | (intro acts; rw [hl _ acts rfl rfl rfl]) | rw [hl _ _ rfl rfl rfl]
  exact Steps.refl _
theorem o_retI (X : Stand p l e R s m args below meth c T locs cells slots) (hx : p.tables.exec = Jvm.exec) (hret : meth.sig.returnType = some .int) (hE : Lv e below Φ m meth T locs) (hd : decode c.code pc = .ok (.ireturn, 1)) {z : Int32} (hQ : Q (some (.int z)) T.heap locs) : OG p e below Φ Q (T.setTop (mkF m pc L (.int z :: S))) :=
  og_end hE (fun h => by rw [hret] at h; cases h) (fun fs hr => retI X hx hret hd hr) hQ
theorem o_retN (X : Stand p l e R s m args below meth c T locs cells slots) (hx : p.tables.exec = Jvm.exec) {t : FieldType} (hret : meth.sig.returnType = some t) (ht : t = .boolean ∨ t = .byte ∨ t = .char ∨ t = .short) (hE : Lv e below Φ m meth T locs) (hd : decode c.code pc = .ok (.ireturn, 1)) {z : Int32} (hQ : Q (some (.int (nar t z))) T.heap locs) : OG p e below Φ Q (T.setTop (mkF m pc L (.int z :: S))) :=
  og_end hE (fun h => by rw [hret] at h; cases h) (fun fs hr => retN X hx hret ht hd hr) hQ
theorem o_retB (X : Stand p l e R s m args below meth c T locs cells slots) (hx : p.tables.exec = Jvm.exec) (hret : meth.sig.returnType = some .boolean) (hE : Lv e below Φ m meth T locs) (hd : decode c.code pc = .ok (.ireturn, 1)) {z : Int32} (hz : z = 0 ∨ z = 1) (hQ : Q (some (.int z)) T.heap locs) : OG p e below Φ Q (T.setTop (mkF m pc L (.int z :: S))) :=
  o_retN X hx hret (Or.inl rfl) hE hd (by have q : nar .boolean z = z := by { rcases hz with rfl | rfl <;> rfl }; rw [q]; exact hQ)
theorem o_retL (X : Stand p l e R s m args below meth c T locs cells slots) (hx : p.tables.exec = Jvm.exec) (hret : meth.sig.returnType = some .long) (hE : Lv e below Φ m meth T locs) (hd : decode c.code pc = .ok (.lreturn, 1)) {z : Int64} (hQ : Q (some (.long z)) T.heap locs) : OG p e below Φ Q (T.setTop (mkF m pc L (.long z :: S))) :=
  og_end hE (fun h => by rw [hret] at h; cases h) (fun fs hr => retOut X hx hret rfl (Or.inr (Or.inl ⟨rfl, rfl, z, rfl⟩)) hd hr) hQ
theorem o_retA (X : Stand p l e R s m args below meth c T locs cells slots) (hx : p.tables.exec = Jvm.exec) {t : FieldType} (hret : meth.sig.returnType = some t) (ht : t.isReference = true) (hE : Lv e below Φ m meth T locs) (hd : decode c.code pc = .ok (.areturn, 1)) {w : Value} (hw : w.isRef = true) (hnw : narrow t w = w) (hQ : Q (some w) T.heap locs) : OG p e below Φ Q (T.setTop (mkF m pc L (w :: S))) :=
  og_end hE (fun h => by rw [hret] at h; cases h) (fun fs hr => retOut X hx hret hnw (Or.inr (Or.inr (Or.inr (Or.inr ⟨rfl, ht, hw⟩)))) hd hr) hQ
theorem o_ret0 (X : Stand p l e R s m args below meth c T locs cells slots) (hx : p.tables.exec = Jvm.exec) (hret : meth.sig.returnType = none) (hE : Lv e below Φ m meth T locs) (hd : decode c.code pc = .ok (.return_, 1)) (hQ : Q none T.heap locs) : OG p e below Φ Q (T.setTop (mkF m pc L [])) :=
  og_end hE (fun _ => rfl) (fun fs hr => X.returnOut hx hret hd hr) hQ
theorem lcY_eq {x y : Int64} (h : x = y) : ifCond.holds .eq (lcmpW x y) = true ∧ ifCond.holds .ne (lcmpW x y) = false := ⟨(if0 _ _).trans (teq ((lw_eq x y).mpr h)).1, (if0 _ _).trans (teq ((lw_eq x y).mpr h)).2⟩
theorem lcN_eq {x y : Int64} (h : ¬ x = y) : ifCond.holds .eq (lcmpW x y) = false ∧ ifCond.holds .ne (lcmpW x y) = true := ⟨(if0 _ _).trans (feq (mt (lw_eq x y).mp h)).1, (if0 _ _).trans (feq (mt (lw_eq x y).mp h)).2⟩
theorem lcY_lt {x y : Int64} (h : x < y) : ifCond.holds .lt (lcmpW x y) = true ∧ ifCond.holds .ge (lcmpW x y) = false := ⟨(if0 _ _).trans (tlt ((lw_lt x y).mpr h)).1, (if0 _ _).trans (tlt ((lw_lt x y).mpr h)).2.1⟩
theorem lcN_lt {x y : Int64} (h : ¬ x < y) : ifCond.holds .lt (lcmpW x y) = false ∧ ifCond.holds .ge (lcmpW x y) = true := ⟨(if0 _ _).trans (flt (mt (lw_lt x y).mp h)).1, (if0 _ _).trans (flt (mt (lw_lt x y).mp h)).2.1⟩
theorem lcY_gt {x y : Int64} (h : y < x) : ifCond.holds .gt (lcmpW x y) = true ∧ ifCond.holds .le (lcmpW x y) = false := ⟨(if0 _ _).trans (tlt ((lw_gt x y).mpr h)).2.2.1, (if0 _ _).trans (tlt ((lw_gt x y).mpr h)).2.2.2⟩
theorem lcN_gt {x y : Int64} (h : ¬ y < x) : ifCond.holds .gt (lcmpW x y) = false ∧ ifCond.holds .le (lcmpW x y) = true := ⟨(if0 _ _).trans (flt (mt (lw_gt x y).mp h)).2.2.1, (if0 _ _).trans (flt (mt (lw_gt x y).mp h)).2.2.2⟩
theorem o_iloadN (X : Stand p l e R s m args below meth c T locs cells slots) (hx : p.tables.exec = Jvm.exec) {i : Fin 4} {v : Int32} (hp : pc + 1 = pc') (hd : decode c.code pc = .ok (.iload_n i, 1)) (hl : L[i.val]? = some (.val (.int v))) (G : OG p e below Φ Q (T.setTop (mkF m pc' L (.int v :: S)))) : OG p e below Φ Q (T.setTop (mkF m pc L S)) := by
  subst hp; exact og_of (fun _ st => XS.iloadN X.here hx rfl hd hl st) G
theorem o_iload (X : Stand p l e R s m args below meth c T locs cells slots) (hx : p.tables.exec = Jvm.exec) {i : Nat} {v : Int32} (hp : pc + 2 = pc') (hd : decode c.code pc = .ok (.iload i, 2)) (hl : L[i]? = some (.val (.int v))) (G : OG p e below Φ Q (T.setTop (mkF m pc' L (.int v :: S)))) : OG p e below Φ Q (T.setTop (mkF m pc L S)) := by
  subst hp; exact og_of (fun _ st => XS.iload X.here hx rfl hd hl st) G
theorem o_istoreN (X : Stand p l e R s m args below meth c T locs cells slots) (hx : p.tables.exec = Jvm.exec) {i : Fin 4} {v : Int32} (hp : pc + 1 = pc') (hd : decode c.code pc = .ok (.istore_n i, 1)) (hl : storeLocals L i.val (.int v) = some L') (G : OG p e below Φ Q (T.setTop (mkF m pc' L' S))) : OG p e below Φ Q (T.setTop (mkF m pc L (.int v :: S))) := by
  subst hp; exact og_of (fun _ st => XS.istoreN X.here hx rfl hd rfl hl st) G
theorem o_istore (X : Stand p l e R s m args below meth c T locs cells slots) (hx : p.tables.exec = Jvm.exec) {i : Nat} {v : Int32} (hp : pc + 2 = pc') (hd : decode c.code pc = .ok (.istore i, 2)) (hl : storeLocals L i (.int v) = some L') (G : OG p e below Φ Q (T.setTop (mkF m pc' L' S))) : OG p e below Φ Q (T.setTop (mkF m pc L (.int v :: S))) := by
  subst hp; exact og_of (fun _ st => XS.istore X.here hx rfl hd rfl hl st) G
theorem o_lloadN (X : Stand p l e R s m args below meth c T locs cells slots) (hx : p.tables.exec = Jvm.exec) {i : Fin 4} {v : Int64} (hp : pc + 1 = pc') (hd : decode c.code pc = .ok (.lload_n i, 1)) (hl : L[i.val]? = some (.val (.long v))) (G : OG p e below Φ Q (T.setTop (mkF m pc' L (.long v :: S)))) : OG p e below Φ Q (T.setTop (mkF m pc L S)) := by
  subst hp; exact og_of (fun _ st => XS.lloadN X.here hx rfl hd hl st) G
theorem o_lload (X : Stand p l e R s m args below meth c T locs cells slots) (hx : p.tables.exec = Jvm.exec) {i : Nat} {v : Int64} (hp : pc + 2 = pc') (hd : decode c.code pc = .ok (.lload i, 2)) (hl : L[i]? = some (.val (.long v))) (G : OG p e below Φ Q (T.setTop (mkF m pc' L (.long v :: S)))) : OG p e below Φ Q (T.setTop (mkF m pc L S)) := by
  subst hp; exact og_of (fun _ st => XS.lload X.here hx rfl hd hl st) G
theorem o_lstoreN (X : Stand p l e R s m args below meth c T locs cells slots) (hx : p.tables.exec = Jvm.exec) {i : Fin 4} {v : Int64} (hp : pc + 1 = pc') (hd : decode c.code pc = .ok (.lstore_n i, 1)) (hl : storeLocals L i.val (.long v) = some L') (G : OG p e below Φ Q (T.setTop (mkF m pc' L' S))) : OG p e below Φ Q (T.setTop (mkF m pc L (.long v :: S))) := by
  subst hp; exact og_of (fun _ st => XS.lstoreN X.here hx rfl hd rfl hl st) G
theorem o_lstore (X : Stand p l e R s m args below meth c T locs cells slots) (hx : p.tables.exec = Jvm.exec) {i : Nat} {v : Int64} (hp : pc + 2 = pc') (hd : decode c.code pc = .ok (.lstore i, 2)) (hl : storeLocals L i (.long v) = some L') (G : OG p e below Φ Q (T.setTop (mkF m pc' L' S))) : OG p e below Φ Q (T.setTop (mkF m pc L (.long v :: S))) := by
  subst hp; exact og_of (fun _ st => XS.lstore X.here hx rfl hd rfl hl st) G
theorem o_aloadN (X : Stand p l e R s m args below meth c T locs cells slots) (hx : p.tables.exec = Jvm.exec) {i : Fin 4} {v : Value} (hp : pc + 1 = pc') (hd : decode c.code pc = .ok (.aload_n i, 1)) (hl : L[i.val]? = some (.val v)) (hv : v.isRef = true) (G : OG p e below Φ Q (T.setTop (mkF m pc' L (v :: S)))) : OG p e below Φ Q (T.setTop (mkF m pc L S)) := by
  subst hp; exact og_of (fun _ st => XS.aloadN X.here hx rfl hd hl hv st) G
theorem o_aload (X : Stand p l e R s m args below meth c T locs cells slots) (hx : p.tables.exec = Jvm.exec) {i : Nat} {v : Value} (hp : pc + 2 = pc') (hd : decode c.code pc = .ok (.aload i, 2)) (hl : L[i]? = some (.val v)) (hv : v.isRef = true) (G : OG p e below Φ Q (T.setTop (mkF m pc' L (v :: S)))) : OG p e below Φ Q (T.setTop (mkF m pc L S)) := by
  subst hp; exact og_of (fun _ st => XS.aload X.here hx rfl hd hl hv st) G
theorem o_astoreN (X : Stand p l e R s m args below meth c T locs cells slots) (hx : p.tables.exec = Jvm.exec) {i : Fin 4} {v : Value} (hp : pc + 1 = pc') (hd : decode c.code pc = .ok (.astore_n i, 1)) (hv : v.isRef = true) (hl : storeLocals L i.val v = some L') (G : OG p e below Φ Q (T.setTop (mkF m pc' L' S))) : OG p e below Φ Q (T.setTop (mkF m pc L (v :: S))) := by
  subst hp; exact og_of (fun _ st => XS.astoreN X.here hx rfl hd rfl hv hl st) G
theorem o_astore (X : Stand p l e R s m args below meth c T locs cells slots) (hx : p.tables.exec = Jvm.exec) {i : Nat} {v : Value} (hp : pc + 2 = pc') (hd : decode c.code pc = .ok (.astore i, 2)) (hv : v.isRef = true) (hl : storeLocals L i v = some L') (G : OG p e below Φ Q (T.setTop (mkF m pc' L' S))) : OG p e below Φ Q (T.setTop (mkF m pc L (v :: S))) := by
  subst hp; exact og_of (fun _ st => XS.astore X.here hx rfl hd rfl hv hl st) G
theorem o_iconst (X : Stand p l e R s m args below meth c T locs cells slots) (hx : p.tables.exec = Jvm.exec) {i : Int} {z : Int32} (hp : pc + 1 = pc') (hd : decode c.code pc = .ok (.iconst i, 1)) (hz : Int32.ofInt i = z) (G : OG p e below Φ Q (T.setTop (mkF m pc' L (.int z :: S)))) : OG p e below Φ Q (T.setTop (mkF m pc L S)) := by
  subst hp hz; exact og_of (fun _ st => XS.iconst X.here hx rfl hd st) G
theorem o_bipush (X : Stand p l e R s m args below meth c T locs cells slots) (hx : p.tables.exec = Jvm.exec) {i : Int} {z : Int32} (hp : pc + 2 = pc') (hd : decode c.code pc = .ok (.bipush i, 2)) (hz : (Int8.ofInt i).toInt32 = z) (G : OG p e below Φ Q (T.setTop (mkF m pc' L (.int z :: S)))) : OG p e below Φ Q (T.setTop (mkF m pc L S)) := by
  subst hp hz; exact og_of (fun _ st => XS.bipush X.here hx rfl hd st) G
theorem o_sipush (X : Stand p l e R s m args below meth c T locs cells slots) (hx : p.tables.exec = Jvm.exec) {i : Int} {z : Int32} (hp : pc + 3 = pc') (hd : decode c.code pc = .ok (.sipush i, 3)) (hz : (Int16.ofInt i).toInt32 = z) (G : OG p e below Φ Q (T.setTop (mkF m pc' L (.int z :: S)))) : OG p e below Φ Q (T.setTop (mkF m pc L S)) := by
  subst hp hz; exact og_of (fun _ st => XS.sipush X.here hx rfl hd st) G
theorem o_lconst (X : Stand p l e R s m args below meth c T locs cells slots) (hx : p.tables.exec = Jvm.exec) {i : Fin 2} {z : Int64} (hp : pc + 1 = pc') (hd : decode c.code pc = .ok (.lconst i, 1)) (hz : Int64.ofNat i = z) (G : OG p e below Φ Q (T.setTop (mkF m pc' L (.long z :: S)))) : OG p e below Φ Q (T.setTop (mkF m pc L S)) := by
  subst hp hz; exact og_of (fun _ st => XS.lconst X.here hx rfl hd st) G
theorem o_aconst_null (X : Stand p l e R s m args below meth c T locs cells slots) (hx : p.tables.exec = Jvm.exec) (hp : pc + 1 = pc') (hd : decode c.code pc = .ok (.aconst_null, 1))  (G : OG p e below Φ Q (T.setTop (mkF m pc' L (.null :: S)))) : OG p e below Φ Q (T.setTop (mkF m pc L S)) := by
  subst hp; exact og_of (fun _ st => XS.aconstNull X.here hx rfl hd st) G
theorem o_iadd (X : Stand p l e R s m args below meth c T locs cells slots) (hx : p.tables.exec = Jvm.exec) {x : Int32} {y : Int32} {z : Int32} (hp : pc + 1 = pc') (hd : decode c.code pc = .ok (.iadd, 1)) (hz : x + y = z) (G : OG p e below Φ Q (T.setTop (mkF m pc' L (.int z :: S)))) : OG p e below Φ Q (T.setTop (mkF m pc L (.int y :: .int x :: S))) := by
  subst hp hz; exact og_of (fun _ st => XS.iadd X.here hx rfl hd rfl st) G
theorem o_ladd (X : Stand p l e R s m args below meth c T locs cells slots) (hx : p.tables.exec = Jvm.exec) {x : Int64} {y : Int64} {z : Int64} (hp : pc + 1 = pc') (hd : decode c.code pc = .ok (.ladd, 1)) (hz : x + y = z) (G : OG p e below Φ Q (T.setTop (mkF m pc' L (.long z :: S)))) : OG p e below Φ Q (T.setTop (mkF m pc L (.long y :: .long x :: S))) := by
  subst hp hz; exact og_of (fun _ st => XS.ladd X.here hx rfl hd rfl st) G
theorem o_isub (X : Stand p l e R s m args below meth c T locs cells slots) (hx : p.tables.exec = Jvm.exec) {x : Int32} {y : Int32} {z : Int32} (hp : pc + 1 = pc') (hd : decode c.code pc = .ok (.isub, 1)) (hz : x - y = z) (G : OG p e below Φ Q (T.setTop (mkF m pc' L (.int z :: S)))) : OG p e below Φ Q (T.setTop (mkF m pc L (.int y :: .int x :: S))) := by
  subst hp hz; exact og_of (fun _ st => XS.isub X.here hx rfl hd rfl st) G
theorem o_lsub (X : Stand p l e R s m args below meth c T locs cells slots) (hx : p.tables.exec = Jvm.exec) {x : Int64} {y : Int64} {z : Int64} (hp : pc + 1 = pc') (hd : decode c.code pc = .ok (.lsub, 1)) (hz : x - y = z) (G : OG p e below Φ Q (T.setTop (mkF m pc' L (.long z :: S)))) : OG p e below Φ Q (T.setTop (mkF m pc L (.long y :: .long x :: S))) := by
  subst hp hz; exact og_of (fun _ st => XS.lsub X.here hx rfl hd rfl st) G
theorem o_imul (X : Stand p l e R s m args below meth c T locs cells slots) (hx : p.tables.exec = Jvm.exec) {x : Int32} {y : Int32} {z : Int32} (hp : pc + 1 = pc') (hd : decode c.code pc = .ok (.imul, 1)) (hz : x * y = z) (G : OG p e below Φ Q (T.setTop (mkF m pc' L (.int z :: S)))) : OG p e below Φ Q (T.setTop (mkF m pc L (.int y :: .int x :: S))) := by
  subst hp hz; exact og_of (fun _ st => XS.imul X.here hx rfl hd rfl st) G
theorem o_lmul (X : Stand p l e R s m args below meth c T locs cells slots) (hx : p.tables.exec = Jvm.exec) {x : Int64} {y : Int64} {z : Int64} (hp : pc + 1 = pc') (hd : decode c.code pc = .ok (.lmul, 1)) (hz : x * y = z) (G : OG p e below Φ Q (T.setTop (mkF m pc' L (.long z :: S)))) : OG p e below Φ Q (T.setTop (mkF m pc L (.long y :: .long x :: S))) := by
  subst hp hz; exact og_of (fun _ st => XS.lmul X.here hx rfl hd rfl st) G
theorem o_iand (X : Stand p l e R s m args below meth c T locs cells slots) (hx : p.tables.exec = Jvm.exec) {x : Int32} {y : Int32} {z : Int32} (hp : pc + 1 = pc') (hd : decode c.code pc = .ok (.iand, 1)) (hz : x &&& y = z) (G : OG p e below Φ Q (T.setTop (mkF m pc' L (.int z :: S)))) : OG p e below Φ Q (T.setTop (mkF m pc L (.int y :: .int x :: S))) := by
  subst hp hz; exact og_of (fun _ st => XS.iand X.here hx rfl hd rfl st) G
theorem o_land (X : Stand p l e R s m args below meth c T locs cells slots) (hx : p.tables.exec = Jvm.exec) {x : Int64} {y : Int64} {z : Int64} (hp : pc + 1 = pc') (hd : decode c.code pc = .ok (.land, 1)) (hz : x &&& y = z) (G : OG p e below Φ Q (T.setTop (mkF m pc' L (.long z :: S)))) : OG p e below Φ Q (T.setTop (mkF m pc L (.long y :: .long x :: S))) := by
  subst hp hz; exact og_of (fun _ st => XS.land X.here hx rfl hd rfl st) G
theorem o_ior (X : Stand p l e R s m args below meth c T locs cells slots) (hx : p.tables.exec = Jvm.exec) {x : Int32} {y : Int32} {z : Int32} (hp : pc + 1 = pc') (hd : decode c.code pc = .ok (.ior, 1)) (hz : x ||| y = z) (G : OG p e below Φ Q (T.setTop (mkF m pc' L (.int z :: S)))) : OG p e below Φ Q (T.setTop (mkF m pc L (.int y :: .int x :: S))) := by
  subst hp hz; exact og_of (fun _ st => XS.ior X.here hx rfl hd rfl st) G
theorem o_lor (X : Stand p l e R s m args below meth c T locs cells slots) (hx : p.tables.exec = Jvm.exec) {x : Int64} {y : Int64} {z : Int64} (hp : pc + 1 = pc') (hd : decode c.code pc = .ok (.lor, 1)) (hz : x ||| y = z) (G : OG p e below Φ Q (T.setTop (mkF m pc' L (.long z :: S)))) : OG p e below Φ Q (T.setTop (mkF m pc L (.long y :: .long x :: S))) := by
  subst hp hz; exact og_of (fun _ st => XS.lor X.here hx rfl hd rfl st) G
theorem o_ixor (X : Stand p l e R s m args below meth c T locs cells slots) (hx : p.tables.exec = Jvm.exec) {x : Int32} {y : Int32} {z : Int32} (hp : pc + 1 = pc') (hd : decode c.code pc = .ok (.ixor, 1)) (hz : x ^^^ y = z) (G : OG p e below Φ Q (T.setTop (mkF m pc' L (.int z :: S)))) : OG p e below Φ Q (T.setTop (mkF m pc L (.int y :: .int x :: S))) := by
  subst hp hz; exact og_of (fun _ st => XS.ixor X.here hx rfl hd rfl st) G
theorem o_lxor (X : Stand p l e R s m args below meth c T locs cells slots) (hx : p.tables.exec = Jvm.exec) {x : Int64} {y : Int64} {z : Int64} (hp : pc + 1 = pc') (hd : decode c.code pc = .ok (.lxor, 1)) (hz : x ^^^ y = z) (G : OG p e below Φ Q (T.setTop (mkF m pc' L (.long z :: S)))) : OG p e below Φ Q (T.setTop (mkF m pc L (.long y :: .long x :: S))) := by
  subst hp hz; exact og_of (fun _ st => XS.lxor X.here hx rfl hd rfl st) G
theorem o_ishl (X : Stand p l e R s m args below meth c T locs cells slots) (hx : p.tables.exec = Jvm.exec) {x : Int32} {y : Int32} {z : Int32} (hp : pc + 1 = pc') (hd : decode c.code pc = .ok (.ishl, 1)) (hz : x <<< (y &&& 31) = z) (G : OG p e below Φ Q (T.setTop (mkF m pc' L (.int z :: S)))) : OG p e below Φ Q (T.setTop (mkF m pc L (.int y :: .int x :: S))) := by
  subst hp hz; exact og_of (fun _ st => XS.ishl X.here hx rfl hd rfl st) G
theorem o_ishr (X : Stand p l e R s m args below meth c T locs cells slots) (hx : p.tables.exec = Jvm.exec) {x : Int32} {y : Int32} {z : Int32} (hp : pc + 1 = pc') (hd : decode c.code pc = .ok (.ishr, 1)) (hz : x >>> (y &&& 31) = z) (G : OG p e below Φ Q (T.setTop (mkF m pc' L (.int z :: S)))) : OG p e below Φ Q (T.setTop (mkF m pc L (.int y :: .int x :: S))) := by
  subst hp hz; exact og_of (fun _ st => XS.ishr X.here hx rfl hd rfl st) G
theorem o_iushr (X : Stand p l e R s m args below meth c T locs cells slots) (hx : p.tables.exec = Jvm.exec) {x : Int32} {y : Int32} {z : Int32} (hp : pc + 1 = pc') (hd : decode c.code pc = .ok (.iushr, 1)) (hz : (x.toUInt32 >>> (y &&& 31).toUInt32).toInt32 = z) (G : OG p e below Φ Q (T.setTop (mkF m pc' L (.int z :: S)))) : OG p e below Φ Q (T.setTop (mkF m pc L (.int y :: .int x :: S))) := by
  subst hp hz; exact og_of (fun _ st => XS.iushr X.here hx rfl hd rfl st) G
theorem o_lshl (X : Stand p l e R s m args below meth c T locs cells slots) (hx : p.tables.exec = Jvm.exec) {x : Int64} {y : Int32} {z : Int64} (hp : pc + 1 = pc') (hd : decode c.code pc = .ok (.lshl, 1)) (hz : x <<< (y &&& 0x3f).toInt64 = z) (G : OG p e below Φ Q (T.setTop (mkF m pc' L (.long z :: S)))) : OG p e below Φ Q (T.setTop (mkF m pc L (.int y :: .long x :: S))) := by
  subst hp hz; exact og_of (fun _ st => XS.lshl X.here hx rfl hd rfl st) G
theorem o_lshr (X : Stand p l e R s m args below meth c T locs cells slots) (hx : p.tables.exec = Jvm.exec) {x : Int64} {y : Int32} {z : Int64} (hp : pc + 1 = pc') (hd : decode c.code pc = .ok (.lshr, 1)) (hz : x >>> (y &&& 0x3f).toInt64 = z) (G : OG p e below Φ Q (T.setTop (mkF m pc' L (.long z :: S)))) : OG p e below Φ Q (T.setTop (mkF m pc L (.int y :: .long x :: S))) := by
  subst hp hz; exact og_of (fun _ st => XS.lshr X.here hx rfl hd rfl st) G
theorem o_lushr (X : Stand p l e R s m args below meth c T locs cells slots) (hx : p.tables.exec = Jvm.exec) {x : Int64} {y : Int32} {z : Int64} (hp : pc + 1 = pc') (hd : decode c.code pc = .ok (.lushr, 1)) (hz : (x.toUInt64 >>> (y &&& 0x3f).toInt64.toUInt64).toInt64 = z) (G : OG p e below Φ Q (T.setTop (mkF m pc' L (.long z :: S)))) : OG p e below Φ Q (T.setTop (mkF m pc L (.int y :: .long x :: S))) := by
  subst hp hz; exact og_of (fun _ st => XS.lushr X.here hx rfl hd rfl st) G
theorem o_idiv (X : Stand p l e R s m args below meth c T locs cells slots) (hx : p.tables.exec = Jvm.exec) {x : Int32} {y : Int32} {z : Int32} (hp : pc + 1 = pc') (hd : decode c.code pc = .ok (.idiv, 1)) (hz : x / y = z) (hy : y ≠ 0) (G : OG p e below Φ Q (T.setTop (mkF m pc' L (.int z :: S)))) : OG p e below Φ Q (T.setTop (mkF m pc L (.int y :: .int x :: S))) := by
  subst hp hz; exact og_of (fun _ st => XS.idiv X.here hx rfl hd rfl hy st) G
theorem o_ldiv (X : Stand p l e R s m args below meth c T locs cells slots) (hx : p.tables.exec = Jvm.exec) {x : Int64} {y : Int64} {z : Int64} (hp : pc + 1 = pc') (hd : decode c.code pc = .ok (.ldiv, 1)) (hz : x / y = z) (hy : y ≠ 0) (G : OG p e below Φ Q (T.setTop (mkF m pc' L (.long z :: S)))) : OG p e below Φ Q (T.setTop (mkF m pc L (.long y :: .long x :: S))) := by
  subst hp hz; exact og_of (fun _ st => XS.ldiv X.here hx rfl hd rfl hy st) G
theorem o_irem (X : Stand p l e R s m args below meth c T locs cells slots) (hx : p.tables.exec = Jvm.exec) {x y z : Int32} (hp : pc + 1 = pc') (hd : decode c.code pc = .ok (.irem, 1)) (hz : x % y = z) (hy : y ≠ 0) (G : OG p e below Φ Q (T.setTop (mkF m pc' L (.int z :: S)))) : OG p e below Φ Q (T.setTop (mkF m pc L (.int y :: .int x :: S))) := by
  subst hp hz; exact og_of (fun _ st => XS.irem X.here hx rfl hd rfl hy (by rw [irem_eq_mod x y]; exact st)) G
theorem o_lrem (X : Stand p l e R s m args below meth c T locs cells slots) (hx : p.tables.exec = Jvm.exec) {x y z : Int64} (hp : pc + 1 = pc') (hd : decode c.code pc = .ok (.lrem, 1)) (hz : x % y = z) (hy : y ≠ 0) (G : OG p e below Φ Q (T.setTop (mkF m pc' L (.long z :: S)))) : OG p e below Φ Q (T.setTop (mkF m pc L (.long y :: .long x :: S))) := by
  subst hp hz; exact og_of (fun _ st => XS.lrem X.here hx rfl hd rfl hy (by rw [lrem_mod x y]; exact st)) G
theorem o_ineg (X : Stand p l e R s m args below meth c T locs cells slots) (hx : p.tables.exec = Jvm.exec) {x : Int32} {z : Int32} (hp : pc + 1 = pc') (hd : decode c.code pc = .ok (.ineg, 1)) (hz : -x = z) (G : OG p e below Φ Q (T.setTop (mkF m pc' L (.int z :: S)))) : OG p e below Φ Q (T.setTop (mkF m pc L (.int x :: S))) := by
  subst hp hz; exact og_of (fun _ st => XS.ineg X.here hx rfl hd rfl st) G
theorem o_lneg (X : Stand p l e R s m args below meth c T locs cells slots) (hx : p.tables.exec = Jvm.exec) {x : Int64} {z : Int64} (hp : pc + 1 = pc') (hd : decode c.code pc = .ok (.lneg, 1)) (hz : -x = z) (G : OG p e below Φ Q (T.setTop (mkF m pc' L (.long z :: S)))) : OG p e below Φ Q (T.setTop (mkF m pc L (.long x :: S))) := by
  subst hp hz; exact og_of (fun _ st => XS.lneg X.here hx rfl hd rfl st) G
theorem o_i2l (X : Stand p l e R s m args below meth c T locs cells slots) (hx : p.tables.exec = Jvm.exec) {x : Int32} {z : Int64} (hp : pc + 1 = pc') (hd : decode c.code pc = .ok (.i2l, 1)) (hz : x.toInt64 = z) (G : OG p e below Φ Q (T.setTop (mkF m pc' L (.long z :: S)))) : OG p e below Φ Q (T.setTop (mkF m pc L (.int x :: S))) := by
  subst hp hz; exact og_of (fun _ st => XS.i2l X.here hx rfl hd rfl st) G
theorem o_l2i (X : Stand p l e R s m args below meth c T locs cells slots) (hx : p.tables.exec = Jvm.exec) {x : Int64} {z : Int32} (hp : pc + 1 = pc') (hd : decode c.code pc = .ok (.l2i, 1)) (hz : x.toInt32 = z) (G : OG p e below Φ Q (T.setTop (mkF m pc' L (.int z :: S)))) : OG p e below Φ Q (T.setTop (mkF m pc L (.long x :: S))) := by
  subst hp hz; exact og_of (fun _ st => XS.l2i X.here hx rfl hd rfl st) G
theorem o_i2b (X : Stand p l e R s m args below meth c T locs cells slots) (hx : p.tables.exec = Jvm.exec) {x : Int32} {z : Int32} (hp : pc + 1 = pc') (hd : decode c.code pc = .ok (.i2b, 1)) (hz : x.toInt8.toInt32 = z) (G : OG p e below Φ Q (T.setTop (mkF m pc' L (.int z :: S)))) : OG p e below Φ Q (T.setTop (mkF m pc L (.int x :: S))) := by
  subst hp hz; exact og_of (fun _ st => XS.i2b X.here hx rfl hd rfl st) G
theorem o_i2s (X : Stand p l e R s m args below meth c T locs cells slots) (hx : p.tables.exec = Jvm.exec) {x : Int32} {z : Int32} (hp : pc + 1 = pc') (hd : decode c.code pc = .ok (.i2s, 1)) (hz : x.toInt16.toInt32 = z) (G : OG p e below Φ Q (T.setTop (mkF m pc' L (.int z :: S)))) : OG p e below Φ Q (T.setTop (mkF m pc L (.int x :: S))) := by
  subst hp hz; exact og_of (fun _ st => XS.i2s X.here hx rfl hd rfl st) G
theorem o_i2c (X : Stand p l e R s m args below meth c T locs cells slots) (hx : p.tables.exec = Jvm.exec) {x : Int32} {z : Int32} (hp : pc + 1 = pc') (hd : decode c.code pc = .ok (.i2c, 1)) (hz : x.toUInt32.toUInt16.toUInt32.toInt32 = z) (G : OG p e below Φ Q (T.setTop (mkF m pc' L (.int z :: S)))) : OG p e below Φ Q (T.setTop (mkF m pc L (.int x :: S))) := by
  subst hp hz; exact og_of (fun _ st => XS.i2c X.here hx rfl hd rfl st) G
theorem o_lcmp (X : Stand p l e R s m args below meth c T locs cells slots) (hx : p.tables.exec = Jvm.exec) {x y : Int64} (hp : pc + 1 = pc') (hd : decode c.code pc = .ok (.lcmp, 1))  (G : OG p e below Φ Q (T.setTop (mkF m pc' L (.int (lcmpW x y) :: S)))) : OG p e below Φ Q (T.setTop (mkF m pc L (.long y :: .long x :: S))) := by
  subst hp; exact og_of (fun _ st => XS.lcmp X.here hx rfl hd rfl st) G
theorem o_dup (X : Stand p l e R s m args below meth c T locs cells slots) (hx : p.tables.exec = Jvm.exec) {v : Value} (hp : pc + 1 = pc') (hd : decode c.code pc = .ok (.dup, 1)) (hc : v.category = 1) (G : OG p e below Φ Q (T.setTop (mkF m pc' L (v :: v :: S)))) : OG p e below Φ Q (T.setTop (mkF m pc L (v :: S))) := by
  subst hp; exact og_of (fun _ st => XS.dup X.here hx rfl hd rfl hc st) G
theorem o_pop (X : Stand p l e R s m args below meth c T locs cells slots) (hx : p.tables.exec = Jvm.exec) {v : Value} (hp : pc + 1 = pc') (hd : decode c.code pc = .ok (.pop, 1)) (hc : v.category = 1) (G : OG p e below Φ Q (T.setTop (mkF m pc' L S))) : OG p e below Φ Q (T.setTop (mkF m pc L (v :: S))) := by
  subst hp; exact og_of (fun _ st => XS.pop X.here hx rfl hd rfl hc st) G
theorem o_dup_x1 (X : Stand p l e R s m args below meth c T locs cells slots) (hx : p.tables.exec = Jvm.exec) {v w : Value} (hp : pc + 1 = pc') (hd : decode c.code pc = .ok (.dup_x1, 1)) (hc : v.category = 1) (hc2 : w.category = 1) (G : OG p e below Φ Q (T.setTop (mkF m pc' L (v :: w :: v :: S)))) : OG p e below Φ Q (T.setTop (mkF m pc L (v :: w :: S))) := by
  subst hp; exact og_of (fun _ st => XS.dupX1 X.here hx rfl hd rfl hc hc2 st) G
theorem o_dup2 (X : Stand p l e R s m args below meth c T locs cells slots) (hx : p.tables.exec = Jvm.exec) {v w : Value} (hp : pc + 1 = pc') (hd : decode c.code pc = .ok (.dup2, 1)) (hc : v.category = 1) (hc2 : w.category = 1) (G : OG p e below Φ Q (T.setTop (mkF m pc' L (v :: w :: v :: w :: S)))) : OG p e below Φ Q (T.setTop (mkF m pc L (v :: w :: S))) := by
  subst hp; exact og_of (fun _ st => XT.dup2 X.here hx rfl hd rfl hc hc2 st) G
theorem o_dup2L (X : Stand p l e R s m args below meth c T locs cells slots) (hx : p.tables.exec = Jvm.exec) {v : Int64} (hp : pc + 1 = pc') (hd : decode c.code pc = .ok (.dup2, 1))  (G : OG p e below Φ Q (T.setTop (mkF m pc' L (.long v :: .long v :: S)))) : OG p e below Φ Q (T.setTop (mkF m pc L (.long v :: S))) := by
  subst hp; exact og_of (fun _ st => XT.dup2L X.here hx rfl hd rfl st) G
theorem o_dup_x2 (X : Stand p l e R s m args below meth c T locs cells slots) (hx : p.tables.exec = Jvm.exec) {u v w : Value} (hp : pc + 1 = pc') (hd : decode c.code pc = .ok (.dup_x2, 1)) (hu : u.category = 1) (hv : v.category = 1) (hw : w.category = 1) (G : OG p e below Φ Q (T.setTop (mkF m pc' L (u :: v :: w :: u :: S)))) : OG p e below Φ Q (T.setTop (mkF m pc L (u :: v :: w :: S))) := by
  subst hp; refine og_of (fun _ st => ?_) G
  jvm_step X.here [X.here.top, hx, hd, hu, hv, hw]
  exact st
theorem o_iinc (X : Stand p l e R s m args below meth c T locs cells slots) (hx : p.tables.exec = Jvm.exec) {i : Nat} {cst : Int} {x z : Int32} (hp : pc + 3 = pc') (hd : decode c.code pc = .ok (.iinc i cst, 3)) (hl : L[i]? = some (.val (.int x))) (hz : x + Int32.ofInt cst = z) (hl' : storeLocals L i (.int z) = some L') (G : OG p e below Φ Q (T.setTop (mkF m pc' L' S))) : OG p e below Φ Q (T.setTop (mkF m pc L S)) := by
  subst hp hz; exact og_of (fun _ st => XS.iinc X.here hx rfl hd hl hl' st) G
theorem o_goto (X : Stand p l e R s m args below meth c T locs cells slots) (hx : p.tables.exec = Jvm.exec) {o : Int} (hd : decode c.code pc = .ok (.goto o, 3)) (ho : 0 ≤ (pc : Int) + o) (hp : ((pc : Int) + o).toNat = pc') (G : OG p e below Φ Q (T.setTop (mkF m pc' L S))) : OG p e below Φ Q (T.setTop (mkF m pc L S)) := og_of (fun _ st => XS.goto X.here hx rfl rfl hd ho hp st) G
theorem o_ifY (X : Stand p l e R s m args below meth c T locs cells slots) (hx : p.tables.exec = Jvm.exec) {cd : ClassFile.Cond} {x : Int32} {o : Int} (hd : decode c.code pc = .ok (.ifCond cd o, 3)) (hc : ifCond.holds cd x = true) (ho : 0 ≤ (pc : Int) + o) (hp : ((pc : Int) + o).toNat = pc') (G : OG p e below Φ Q (T.setTop (mkF m pc' L S))) : OG p e below Φ Q (T.setTop (mkF m pc L (.int x :: S))) := og_of (fun _ st => XS.ifYes X.here hx rfl rfl hd rfl hc ho hp st) G
theorem o_ifN (X : Stand p l e R s m args below meth c T locs cells slots) (hx : p.tables.exec = Jvm.exec) {cd : ClassFile.Cond} {x : Int32} {o : Int} (hp : pc + 3 = pc') (hd : decode c.code pc = .ok (.ifCond cd o, 3)) (hc : ifCond.holds cd x = false) (G : OG p e below Φ Q (T.setTop (mkF m pc' L S))) : OG p e below Φ Q (T.setTop (mkF m pc L (.int x :: S))) := by
  subst hp; exact og_of (fun _ st => XS.ifNo X.here hx rfl hd rfl hc st) G
theorem o_icmpY (X : Stand p l e R s m args below meth c T locs cells slots) (hx : p.tables.exec = Jvm.exec) {cd : ClassFile.Cond} {x y : Int32} {o : Int} (hd : decode c.code pc = .ok (.if_icmp cd o, 3)) (hc : if_icmp.holds cd x y = true) (ho : 0 ≤ (pc : Int) + o) (hp : ((pc : Int) + o).toNat = pc') (G : OG p e below Φ Q (T.setTop (mkF m pc' L S))) : OG p e below Φ Q (T.setTop (mkF m pc L (.int y :: .int x :: S))) := og_of (fun _ st => XS.icmpYes X.here hx rfl rfl hd rfl hc ho hp st) G
theorem o_icmpN (X : Stand p l e R s m args below meth c T locs cells slots) (hx : p.tables.exec = Jvm.exec) {cd : ClassFile.Cond} {x y : Int32} {o : Int} (hp : pc + 3 = pc') (hd : decode c.code pc = .ok (.if_icmp cd o, 3)) (hc : if_icmp.holds cd x y = false) (G : OG p e below Φ Q (T.setTop (mkF m pc' L S))) : OG p e below Φ Q (T.setTop (mkF m pc L (.int y :: .int x :: S))) := by
  subst hp; exact og_of (fun _ st => XS.icmpNo X.here hx rfl hd rfl hc st) G
theorem o_ifnullY (X : Stand p l e R s m args below meth c T locs cells slots) (hx : p.tables.exec = Jvm.exec) {o : Int} (hd : decode c.code pc = .ok (.ifnull o, 3)) (ho : 0 ≤ (pc : Int) + o) (hp : ((pc : Int) + o).toNat = pc') (G : OG p e below Φ Q (T.setTop (mkF m pc' L S))) : OG p e below Φ Q (T.setTop (mkF m pc L (.null :: S))) := og_of (fun _ st => XS.ifnullYes X.here hx rfl rfl hd rfl ho hp st) G
theorem o_ifnullN (X : Stand p l e R s m args below meth c T locs cells slots) (hx : p.tables.exec = Jvm.exec) {o : Int} {a : Addr} (hp : pc + 3 = pc') (hd : decode c.code pc = .ok (.ifnull o, 3)) (G : OG p e below Φ Q (T.setTop (mkF m pc' L S))) : OG p e below Φ Q (T.setTop (mkF m pc L (.ref a :: S))) := by
  subst hp; exact og_of (fun _ st => XS.ifnullNo X.here hx rfl hd rfl st) G
theorem o_ifnonnullY (X : Stand p l e R s m args below meth c T locs cells slots) (hx : p.tables.exec = Jvm.exec) {o : Int} {a : Addr} (hd : decode c.code pc = .ok (.ifnonnull o, 3)) (ho : 0 ≤ (pc : Int) + o) (hp : ((pc : Int) + o).toNat = pc') (G : OG p e below Φ Q (T.setTop (mkF m pc' L S))) : OG p e below Φ Q (T.setTop (mkF m pc L (.ref a :: S))) := og_of (fun _ st => XS.ifnonnullYes X.here hx rfl rfl hd rfl ho hp st) G
theorem o_ifnonnullN (X : Stand p l e R s m args below meth c T locs cells slots) (hx : p.tables.exec = Jvm.exec) {o : Int} (hp : pc + 3 = pc') (hd : decode c.code pc = .ok (.ifnonnull o, 3)) (G : OG p e below Φ Q (T.setTop (mkF m pc' L S))) : OG p e below Φ Q (T.setTop (mkF m pc L (.null :: S))) := by
  subst hp; exact og_of (fun _ st => XS.ifnonnullNo X.here hx rfl hd rfl st) G
theorem o_acmpY (X : Stand p l e R s m args below meth c T locs cells slots) (hx : p.tables.exec = Jvm.exec) {cd : ClassFile.ACond} {a b : Addr} {o : Int} (hd : decode c.code pc = .ok (.if_acmp cd o, 3)) (hc : if_acmp.holds cd (some a) (some b) = true) (ho : 0 ≤ (pc : Int) + o) (hp : ((pc : Int) + o).toNat = pc') (G : OG p e below Φ Q (T.setTop (mkF m pc' L S))) : OG p e below Φ Q (T.setTop (mkF m pc L (.ref b :: .ref a :: S))) := og_of (fun _ st => XS.acmpYes X.here hx rfl rfl hd rfl hc ho hp st) G
theorem o_acmpN (X : Stand p l e R s m args below meth c T locs cells slots) (hx : p.tables.exec = Jvm.exec) {cd : ClassFile.ACond} {a b : Addr} {o : Int} (hp : pc + 3 = pc') (hd : decode c.code pc = .ok (.if_acmp cd o, 3)) (hc : if_acmp.holds cd (some a) (some b) = false) (G : OG p e below Φ Q (T.setTop (mkF m pc' L S))) : OG p e below Φ Q (T.setTop (mkF m pc L (.ref b :: .ref a :: S))) := by
  subst hp; exact og_of (fun _ st => XS.acmpNo X.here hx rfl hd rfl hc st) G
theorem o_ldcI (X : Stand p l e R s m args below meth c T locs cells slots) (hx : p.tables.exec = Jvm.exec) {Z : State} {a0 : Array Value} {own : String} {i : Nat} {v : Int32} (hp : pc + 2 = pc') (hd : decode c.code pc = .ok (.ldc i, 2)) (hZ : Z.Warmed39 s.vm) (hown : s.vm.findClass own = some m.cls) (w : (Cond.constant own i v).before a0 Z = true) (G : OG p e below Φ Q (T.setTop (mkF m pc' L (.int v :: S)))) : OG p e below Φ Q (T.setTop (mkF m pc L S)) := by
  subst hp; exact og_of (X.ldcInt hx hown (mvT hZ w) (g := mkF m pc L S) rfl hd) G
theorem o_ldcwI (X : Stand p l e R s m args below meth c T locs cells slots) (hx : p.tables.exec = Jvm.exec) {Z : State} {a0 : Array Value} {own : String} {i : Nat} {v : Int32} (hp : pc + 3 = pc') (hd : decode c.code pc = .ok (.ldc_w i, 3)) (hZ : Z.Warmed39 s.vm) (hown : s.vm.findClass own = some m.cls) (w : (Cond.constant own i v).before a0 Z = true) (G : OG p e below Φ Q (T.setTop (mkF m pc' L (.int v :: S)))) : OG p e below Φ Q (T.setTop (mkF m pc L S)) := by
  subst hp; exact og_of (X.ldcwInt hx hown (mvT hZ w) (g := mkF m pc L S) rfl hd) G
theorem o_ldc2L (X : Stand p l e R s m args below meth c T locs cells slots) (hx : p.tables.exec = Jvm.exec) {Z : State} {a0 : Array Value} {own : String} {i : Nat} {v : Int64} (hp : pc + 3 = pc') (hd : decode c.code pc = .ok (.ldc2_w i, 3)) (hZ : Z.Warmed39 s.vm) (hown : s.vm.findClass own = some m.cls) (w : (Cond.constantLong own i v).before a0 Z = true) (G : OG p e below Φ Q (T.setTop (mkF m pc' L (.long v :: S)))) : OG p e below Φ Q (T.setTop (mkF m pc L S)) := by
  subst hp; exact og_of (X.ldc2Long hx hown (mvT hZ w) (g := mkF m pc L S) rfl hd) G
theorem own_cat {x : Value} (h : x.isRef = true) : x.category = 1 := by cases x <;> simp_all [Value.isRef, Value.category]
theorem own_narR {x : Value} (h : x.isRef = true) (t : FieldType) : narrow t x = x := by rcases ref_cases h with rfl | ⟨a, rfl⟩ <;> cases t <;> rfl
theorem own_fitR {x : Value} {C : String} (h : x.isRef = true) : fits (.object C) x = true := by rcases ref_cases h with rfl | ⟨a, rfl⟩ <;> rfl
theorem own_selp {Z : State} {a0 : Array Value} {y : MethodName} {q : Nat} (hZ : Z.Warmed39 s.vm) (wi : (Cond.instantiable y.cls q).before a0 Z = true) (hp : (Cond.privateMethod y).before a0 Z = true) (hi : (Cond.instanceMethod y).before a0 Z = true) (hy : y.cls ≠ "java/lang/invoke/MethodHandle" ∧ y.cls ≠ "java/lang/invoke/VarHandle") : (Cond.selects y.cls y y).before args s = true := by
  have wi' : (Cond.instantiable y.cls q).before args s = true := mv hZ wi
  obtain ⟨cc, kk, h1, h2, -, h4, -⟩ := Cond.instantiable_spec wi'
  have hni : kk.isInterface = false := by simp only [Bool.or_eq_false_iff] at h4; exact h4.1
  exact selects_self_of_private h1 h2 hni (Cond.privateMethod_at (mvP hZ hp (args := args))) (mv hZ hi) hy
theorem own_staK {Z : State} {h h' : Heap} {C nn d : String} {v : Value} (F : Sta Z h C nn d v) (K : Keep h h' []) : Sta Z h' C nn d v := by
  obtain ⟨cf, i, k, f, st, cell, h1, h2, h3, h4, h5, r⟩ := F
  exact ⟨cf, i, k, f, st, cell, h1, h2, h3, h4, K.2.1 _ _ h5 (fun q => nomatch q), r⟩
end Own
end Jvm.RoadKit
namespace Jvm.Pilot.@@N@@
open Jvm Jvm.ClassFile Sem Op Lib Jvm.Free Jvm.Stand Jvm.LawKit Jvm.RoadKit Bundle Jvm.Pilot.@@N@@.Jvm.D
theorem own_d1_0 : decode prog_89_method_5_code 0 = .ok (.iload_n 0, 1) := by decide +kernel
theorem own_d1_1 : decode prog_89_method_5_code 1 = .ok (.bipush 97, 2) := by decide +kernel
theorem own_d1_3 : decode prog_89_method_5_code 3 = .ok (.if_icmp .lt 9, 3) := by decide +kernel
theorem own_d1_6 : decode prog_89_method_5_code 6 = .ok (.iload_n 0, 1) := by decide +kernel
theorem own_d1_7 : decode prog_89_method_5_code 7 = .ok (.bipush 122, 2) := by decide +kernel
theorem own_d1_9 : decode prog_89_method_5_code 9 = .ok (.if_icmp .le 182, 3) := by decide +kernel
theorem own_d1_12 : decode prog_89_method_5_code 12 = .ok (.iload_n 0, 1) := by decide +kernel
theorem own_d1_13 : decode prog_89_method_5_code 13 = .ok (.bipush 65, 2) := by decide +kernel
theorem own_d1_15 : decode prog_89_method_5_code 15 = .ok (.if_icmp .lt 9, 3) := by decide +kernel
theorem own_d1_18 : decode prog_89_method_5_code 18 = .ok (.iload_n 0, 1) := by decide +kernel
theorem own_d1_19 : decode prog_89_method_5_code 19 = .ok (.bipush 90, 2) := by decide +kernel
theorem own_d1_21 : decode prog_89_method_5_code 21 = .ok (.if_icmp .le 170, 3) := by decide +kernel
theorem own_d1_24 : decode prog_89_method_5_code 24 = .ok (.iload_n 0, 1) := by decide +kernel
theorem own_d1_25 : decode prog_89_method_5_code 25 = .ok (.bipush 95, 2) := by decide +kernel
theorem own_d1_27 : decode prog_89_method_5_code 27 = .ok (.if_icmp .eq 164, 3) := by decide +kernel
theorem own_d1_30 : decode prog_89_method_5_code 30 = .ok (.iload_n 0, 1) := by decide +kernel
theorem own_d1_31 : decode prog_89_method_5_code 31 = .ok (.sipush 192, 3) := by decide +kernel
theorem own_d1_34 : decode prog_89_method_5_code 34 = .ok (.if_icmp .lt 10, 3) := by decide +kernel
theorem own_d1_37 : decode prog_89_method_5_code 37 = .ok (.iload_n 0, 1) := by decide +kernel
theorem own_d1_38 : decode prog_89_method_5_code 38 = .ok (.sipush 214, 3) := by decide +kernel
theorem own_d1_41 : decode prog_89_method_5_code 41 = .ok (.if_icmp .le 150, 3) := by decide +kernel
theorem own_d1_44 : decode prog_89_method_5_code 44 = .ok (.iload_n 0, 1) := by decide +kernel
theorem own_d1_45 : decode prog_89_method_5_code 45 = .ok (.sipush 216, 3) := by decide +kernel
theorem own_d1_48 : decode prog_89_method_5_code 48 = .ok (.if_icmp .lt 10, 3) := by decide +kernel
theorem own_d1_51 : decode prog_89_method_5_code 51 = .ok (.iload_n 0, 1) := by decide +kernel
theorem own_d1_52 : decode prog_89_method_5_code 52 = .ok (.sipush 246, 3) := by decide +kernel
theorem own_d1_55 : decode prog_89_method_5_code 55 = .ok (.if_icmp .le 136, 3) := by decide +kernel
theorem own_d1_58 : decode prog_89_method_5_code 58 = .ok (.iload_n 0, 1) := by decide +kernel
theorem own_d1_59 : decode prog_89_method_5_code 59 = .ok (.sipush 248, 3) := by decide +kernel
theorem own_d1_62 : decode prog_89_method_5_code 62 = .ok (.if_icmp .lt 10, 3) := by decide +kernel
theorem own_d1_65 : decode prog_89_method_5_code 65 = .ok (.iload_n 0, 1) := by decide +kernel
theorem own_d1_66 : decode prog_89_method_5_code 66 = .ok (.sipush 767, 3) := by decide +kernel
theorem own_d1_69 : decode prog_89_method_5_code 69 = .ok (.if_icmp .le 122, 3) := by decide +kernel
theorem own_d1_72 : decode prog_89_method_5_code 72 = .ok (.iload_n 0, 1) := by decide +kernel
theorem own_d1_73 : decode prog_89_method_5_code 73 = .ok (.sipush 880, 3) := by decide +kernel
theorem own_d1_76 : decode prog_89_method_5_code 76 = .ok (.if_icmp .lt 10, 3) := by decide +kernel
theorem own_d1_79 : decode prog_89_method_5_code 79 = .ok (.iload_n 0, 1) := by decide +kernel
theorem own_d1_80 : decode prog_89_method_5_code 80 = .ok (.sipush 893, 3) := by decide +kernel
theorem own_d1_83 : decode prog_89_method_5_code 83 = .ok (.if_icmp .le 108, 3) := by decide +kernel
theorem own_d1_86 : decode prog_89_method_5_code 86 = .ok (.iload_n 0, 1) := by decide +kernel
theorem own_d1_87 : decode prog_89_method_5_code 87 = .ok (.sipush 895, 3) := by decide +kernel
theorem own_d1_90 : decode prog_89_method_5_code 90 = .ok (.if_icmp .lt 10, 3) := by decide +kernel
theorem own_d1_93 : decode prog_89_method_5_code 93 = .ok (.iload_n 0, 1) := by decide +kernel
theorem own_d1_94 : decode prog_89_method_5_code 94 = .ok (.sipush 8191, 3) := by decide +kernel
theorem own_d1_97 : decode prog_89_method_5_code 97 = .ok (.if_icmp .le 94, 3) := by decide +kernel
theorem own_d1_100 : decode prog_89_method_5_code 100 = .ok (.iload_n 0, 1) := by decide +kernel
theorem own_d1_101 : decode prog_89_method_5_code 101 = .ok (.sipush 8204, 3) := by decide +kernel
theorem own_d1_104 : decode prog_89_method_5_code 104 = .ok (.if_icmp .lt 10, 3) := by decide +kernel
theorem own_d1_107 : decode prog_89_method_5_code 107 = .ok (.iload_n 0, 1) := by decide +kernel
theorem own_d1_108 : decode prog_89_method_5_code 108 = .ok (.sipush 8205, 3) := by decide +kernel
theorem own_d1_111 : decode prog_89_method_5_code 111 = .ok (.if_icmp .le 80, 3) := by decide +kernel
theorem own_d1_114 : decode prog_89_method_5_code 114 = .ok (.iload_n 0, 1) := by decide +kernel
theorem own_d1_115 : decode prog_89_method_5_code 115 = .ok (.sipush 8304, 3) := by decide +kernel
theorem own_d1_118 : decode prog_89_method_5_code 118 = .ok (.if_icmp .lt 10, 3) := by decide +kernel
theorem own_d1_121 : decode prog_89_method_5_code 121 = .ok (.iload_n 0, 1) := by decide +kernel
theorem own_d1_122 : decode prog_89_method_5_code 122 = .ok (.sipush 8591, 3) := by decide +kernel
theorem own_d1_125 : decode prog_89_method_5_code 125 = .ok (.if_icmp .le 66, 3) := by decide +kernel
theorem own_d1_128 : decode prog_89_method_5_code 128 = .ok (.iload_n 0, 1) := by decide +kernel
theorem own_d1_129 : decode prog_89_method_5_code 129 = .ok (.sipush 11264, 3) := by decide +kernel
theorem own_d1_132 : decode prog_89_method_5_code 132 = .ok (.if_icmp .lt 10, 3) := by decide +kernel
theorem own_d1_135 : decode prog_89_method_5_code 135 = .ok (.iload_n 0, 1) := by decide +kernel
theorem own_d1_136 : decode prog_89_method_5_code 136 = .ok (.sipush 12271, 3) := by decide +kernel
theorem own_d1_139 : decode prog_89_method_5_code 139 = .ok (.if_icmp .le 52, 3) := by decide +kernel
theorem own_d1_142 : decode prog_89_method_5_code 142 = .ok (.iload_n 0, 1) := by decide +kernel
theorem own_d1_143 : decode prog_89_method_5_code 143 = .ok (.sipush 12289, 3) := by decide +kernel
theorem own_d1_146 : decode prog_89_method_5_code 146 = .ok (.if_icmp .lt 9, 3) := by decide +kernel
theorem own_d1_149 : decode prog_89_method_5_code 149 = .ok (.iload_n 0, 1) := by decide +kernel
theorem own_d1_150 : decode prog_89_method_5_code 150 = .ok (.ldc 27, 2) := by decide +kernel
theorem own_d1_152 : decode prog_89_method_5_code 152 = .ok (.if_icmp .le 39, 3) := by decide +kernel
theorem own_d1_155 : decode prog_89_method_5_code 155 = .ok (.iload_n 0, 1) := by decide +kernel
theorem own_d1_156 : decode prog_89_method_5_code 156 = .ok (.ldc 28, 2) := by decide +kernel
theorem own_d1_158 : decode prog_89_method_5_code 158 = .ok (.if_icmp .lt 9, 3) := by decide +kernel
theorem own_d1_161 : decode prog_89_method_5_code 161 = .ok (.iload_n 0, 1) := by decide +kernel
theorem own_d1_162 : decode prog_89_method_5_code 162 = .ok (.ldc 29, 2) := by decide +kernel
theorem own_d1_164 : decode prog_89_method_5_code 164 = .ok (.if_icmp .le 27, 3) := by decide +kernel
theorem own_d1_167 : decode prog_89_method_5_code 167 = .ok (.iload_n 0, 1) := by decide +kernel
theorem own_d1_168 : decode prog_89_method_5_code 168 = .ok (.ldc 30, 2) := by decide +kernel
theorem own_d1_170 : decode prog_89_method_5_code 170 = .ok (.if_icmp .lt 9, 3) := by decide +kernel
theorem own_d1_173 : decode prog_89_method_5_code 173 = .ok (.iload_n 0, 1) := by decide +kernel
theorem own_d1_174 : decode prog_89_method_5_code 174 = .ok (.ldc 31, 2) := by decide +kernel
theorem own_d1_176 : decode prog_89_method_5_code 176 = .ok (.if_icmp .le 15, 3) := by decide +kernel
theorem own_d1_179 : decode prog_89_method_5_code 179 = .ok (.iload_n 0, 1) := by decide +kernel
theorem own_d1_180 : decode prog_89_method_5_code 180 = .ok (.ldc 32, 2) := by decide +kernel
theorem own_d1_182 : decode prog_89_method_5_code 182 = .ok (.if_icmp .lt 13, 3) := by decide +kernel
theorem own_d1_185 : decode prog_89_method_5_code 185 = .ok (.iload_n 0, 1) := by decide +kernel
theorem own_d1_186 : decode prog_89_method_5_code 186 = .ok (.ldc 33, 2) := by decide +kernel
theorem own_d1_188 : decode prog_89_method_5_code 188 = .ok (.if_icmp .gt 7, 3) := by decide +kernel
theorem own_d1_191 : decode prog_89_method_5_code 191 = .ok (.iconst 1, 1) := by decide +kernel
theorem own_d1_192 : decode prog_89_method_5_code 192 = .ok (.goto 4, 3) := by decide +kernel
theorem own_d1_195 : decode prog_89_method_5_code 195 = .ok (.iconst 0, 1) := by decide +kernel
theorem own_d1_196 : decode prog_89_method_5_code 196 = .ok (.ireturn, 1) := by decide +kernel
def own_f1_179 (p0 : Int32) : Int32 := (if p0 < (65536 : Int32) then (0 : Int32) else (if (983039 : Int32) < p0 then (0 : Int32) else (1 : Int32)))
def own_f1_167 (p0 : Int32) : Int32 := (if p0 < (65008 : Int32) then own_f1_179 p0 else (if (65533 : Int32) < p0 then own_f1_179 p0 else (1 : Int32)))
def own_f1_155 (p0 : Int32) : Int32 := (if p0 < (63744 : Int32) then own_f1_167 p0 else (if (64975 : Int32) < p0 then own_f1_167 p0 else (1 : Int32)))
def own_f1_142 (p0 : Int32) : Int32 := (if p0 < (12289 : Int32) then own_f1_155 p0 else (if (55295 : Int32) < p0 then own_f1_155 p0 else (1 : Int32)))
def own_f1_128 (p0 : Int32) : Int32 := (if p0 < (11264 : Int32) then own_f1_142 p0 else (if (12271 : Int32) < p0 then own_f1_142 p0 else (1 : Int32)))
def own_f1_114 (p0 : Int32) : Int32 := (if p0 < (8304 : Int32) then own_f1_128 p0 else (if (8591 : Int32) < p0 then own_f1_128 p0 else (1 : Int32)))
def own_f1_100 (p0 : Int32) : Int32 := (if p0 < (8204 : Int32) then own_f1_114 p0 else (if (8205 : Int32) < p0 then own_f1_114 p0 else (1 : Int32)))
def own_f1_86 (p0 : Int32) : Int32 := (if p0 < (895 : Int32) then own_f1_100 p0 else (if (8191 : Int32) < p0 then own_f1_100 p0 else (1 : Int32)))
def own_f1_72 (p0 : Int32) : Int32 := (if p0 < (880 : Int32) then own_f1_86 p0 else (if (893 : Int32) < p0 then own_f1_86 p0 else (1 : Int32)))
def own_f1_58 (p0 : Int32) : Int32 := (if p0 < (248 : Int32) then own_f1_72 p0 else (if (767 : Int32) < p0 then own_f1_72 p0 else (1 : Int32)))
def own_f1_44 (p0 : Int32) : Int32 := (if p0 < (216 : Int32) then own_f1_58 p0 else (if (246 : Int32) < p0 then own_f1_58 p0 else (1 : Int32)))
def own_f1_30 (p0 : Int32) : Int32 := (if p0 < (192 : Int32) then own_f1_44 p0 else (if (214 : Int32) < p0 then own_f1_44 p0 else (1 : Int32)))
def own_f1_24 (p0 : Int32) : Int32 := (if p0 = (95 : Int32) then (1 : Int32) else own_f1_30 p0)
def own_f1_12 (p0 : Int32) : Int32 := (if p0 < (65 : Int32) then own_f1_24 p0 else (if (90 : Int32) < p0 then own_f1_24 p0 else (1 : Int32)))
def own_f1 (p0 : Int32) : Int32 := (if p0 < (97 : Int32) then own_f1_12 p0 else (if (122 : Int32) < p0 then own_f1_12 p0 else (1 : Int32)))
theorem own_ef1 (m : MethodId) (p0 : Int32) : entryFrame m #[(.int p0)] 1 = mkF m 0 #[.val (.int p0)] [] := by first | (simp [entryFrame, mkF, argsToLocals, Value.category]; done) | rfl
def own_Q1 (Z : State) (p0 : Int32) (h0 : Heap) (n0 : Nat) (v : Option Value) (h : Heap) (L : List Loc) : Prop := v = some (.int (own_f1 p0)) ∧ Fr n0 L ∧ h = h0
theorem own_pn91 : plainName "com/example/nodeset/nodeset/XmlNames" = true := by first | (simp [plainName, overriddenIn]; done) | decide +kernel
set_option maxRecDepth 65536 in
set_option maxHeartbeats 40000000 in
theorem own_rm1 (l : Launch) (Z : State) (aA : Array Value) (hw : ∀ d ∈ tables_1, d.before aA Z = true) (ws : List Jvm.Cond) (p0 : Int32) (h0 : Heap) (n0 : Nat) (Z0 : n0 ≤ h0.size) :
    MetFree l (⟨"com/example/nodeset/nodeset/XmlNames", "isNameStart", "(I)Z"⟩ : MethodName) (head1 (Jvm.Cond.code (⟨"com/example/nodeset/nodeset/XmlNames", "isNameStart", "(I)Z"⟩ : MethodName) prog_89_method_5_code 1 (some .boolean) :: ws) ({ frames := 0, cells := 0, slots := 0, locals := 0 } : Room)) (fun a U => a = #[(.int p0)] ∧ Z.Warmed39 U.vm ∧ U.heap = h0) (fun _ _ _ _ _ => True) (fun _ U o U' => ∃ v L, o = .returned v ∧ own_Q1 Z p0 h0 n0 v U'.heap L ∧ FrameEnd U o U' L ({ frames := 0, cells := 0, slots := 0, locals := 0 } : Room).cells ({ frames := 0, cells := 0, slots := 0, locals := 0 } : Room).slots) := by
  refine MetFree.of_bodySF (plainFor_of_name own_pn91) hisR ?_
  intro p e s m args below meth c s₁ Bd hml0 hP hK
  obtain ⟨rfl, hZ, hh⟩ := hP
  have hx := Bd.exec
  have hby := Bd.bytes
  have hlk : meth.locks = false := Bd.notSynchronized
  have hml : c.maxLocals = 1 := hml0
  have hown : s.vm.findClass "com/example/nodeset/nodeset/XmlNames" = some m.cls := findClass_of_methodNamed Bd.named
  have hnm := (name_of_methodNamed Bd.named Bd.method).1
  have X0 : Stand p l e ({ frames := 0, cells := 0, slots := 0, locals := 0 } : Room) s m #[(.int p0)] below meth c s₁ [] 0 0 := Stand.of_body Bd
  have e0 : s₁.heap = h0 := by rw [← hh, Bd.state]; rfl
  have N0 := Fr.nil n0
  show OG p e below (FE s ({ frames := 0, cells := 0, slots := 0, locals := 0 } : Room).cells ({ frames := 0, cells := 0, slots := 0, locals := 0 } : Room).slots) (own_Q1 Z p0 h0 n0) (s₁.setTop (entryFrame m #[(.int p0)] 1))
  refine og_of (fun _ k => castTop (own_ef1 m p0) k) ?_
  have own_k179 : own_f1 p0 = own_f1_179 p0 → OG p e below (FE s ({ frames := 0, cells := 0, slots := 0, locals := 0 } : Room).cells ({ frames := 0, cells := 0, slots := 0, locals := 0 } : Room).slots) (own_Q1 Z p0 h0 n0) (s₁.setTop (mkF m 179 #[.val (.int p0)] [])) := by
    intro hv179
    refine o_iloadN X0 hx rfl (hb hby own_d1_179) rfl ?_
    refine o_ldcI X0 hx rfl (hb hby own_d1_180) hZ hown (hw _ (List.mem_of_getElem? (i := 8) rfl)) ?_
    by_cases hc1 : p0 < (65536 : Int32)
    · skip
      refine o_icmpY (pc' := 195) X0 hx (hb hby own_d1_182) (tlt hc1).1 (by decide) (by decide) ?_
      refine o_iconst (z := (0 : Int32)) X0 hx rfl (hb hby own_d1_195) (by decide) ?_
      exact o_retB X0 hx Bd.returns (own_lv X0 hlk (by decide) (by decide)) (hb hby own_d1_196) (by decide) ⟨(by rw [hv179, own_f1_179, if_pos hc1]), N0, e0⟩
    · skip
      refine o_icmpN (pc' := 185) X0 hx rfl (hb hby own_d1_182) (flt hc1).1 ?_
      refine o_iloadN X0 hx rfl (hb hby own_d1_185) rfl ?_
      refine o_ldcI X0 hx rfl (hb hby own_d1_186) hZ hown (hw _ (List.mem_of_getElem? (i := 18) rfl)) ?_
      by_cases hc2 : (983039 : Int32) < p0
      · skip
        refine o_icmpY (pc' := 195) X0 hx (hb hby own_d1_188) (tlt hc2).2.2.1 (by decide) (by decide) ?_
        refine o_iconst (z := (0 : Int32)) X0 hx rfl (hb hby own_d1_195) (by decide) ?_
        exact o_retB X0 hx Bd.returns (own_lv X0 hlk (by decide) (by decide)) (hb hby own_d1_196) (by decide) ⟨(by rw [hv179, own_f1_179, if_neg hc1, if_pos hc2]), N0, e0⟩
      · skip
        refine o_icmpN (pc' := 191) X0 hx rfl (hb hby own_d1_188) (flt hc2).2.2.1 ?_
        refine o_iconst (z := (1 : Int32)) X0 hx rfl (hb hby own_d1_191) (by decide) ?_
        refine o_goto (pc' := 196) X0 hx (hb hby own_d1_192) (by decide) (by decide) ?_
        exact o_retB X0 hx Bd.returns (own_lv X0 hlk (by decide) (by decide)) (hb hby own_d1_196) (by decide) ⟨(by rw [hv179, own_f1_179, if_neg hc1, if_neg hc2]), N0, e0⟩
  have own_k167 : own_f1 p0 = own_f1_167 p0 → OG p e below (FE s ({ frames := 0, cells := 0, slots := 0, locals := 0 } : Room).cells ({ frames := 0, cells := 0, slots := 0, locals := 0 } : Room).slots) (own_Q1 Z p0 h0 n0) (s₁.setTop (mkF m 167 #[.val (.int p0)] [])) := by
    intro hv167
    refine o_iloadN X0 hx rfl (hb hby own_d1_167) rfl ?_
    refine o_ldcI X0 hx rfl (hb hby own_d1_168) hZ hown (hw _ (List.mem_of_getElem? (i := 7) rfl)) ?_
    by_cases hc3 : p0 < (65008 : Int32)
    · skip
      refine o_icmpY (pc' := 179) X0 hx (hb hby own_d1_170) (tlt hc3).1 (by decide) (by decide) ?_
      exact own_k179 (by rw [hv167, own_f1_167, if_pos hc3])
    · skip
      refine o_icmpN (pc' := 173) X0 hx rfl (hb hby own_d1_170) (flt hc3).1 ?_
      refine o_iloadN X0 hx rfl (hb hby own_d1_173) rfl ?_
      refine o_ldcI X0 hx rfl (hb hby own_d1_174) hZ hown (hw _ (List.mem_of_getElem? (i := 17) rfl)) ?_
      by_cases hc4 : (65533 : Int32) < p0
      · skip
        refine o_icmpN (pc' := 179) X0 hx rfl (hb hby own_d1_176) (tlt hc4).2.2.2 ?_
        exact own_k179 (by rw [hv167, own_f1_167, if_neg hc3, if_pos hc4])
      · skip
        refine o_icmpY (pc' := 191) X0 hx (hb hby own_d1_176) (flt hc4).2.2.2 (by decide) (by decide) ?_
        refine o_iconst (z := (1 : Int32)) X0 hx rfl (hb hby own_d1_191) (by decide) ?_
        refine o_goto (pc' := 196) X0 hx (hb hby own_d1_192) (by decide) (by decide) ?_
        exact o_retB X0 hx Bd.returns (own_lv X0 hlk (by decide) (by decide)) (hb hby own_d1_196) (by decide) ⟨(by rw [hv167, own_f1_167, if_neg hc3, if_neg hc4]), N0, e0⟩
  have own_k155 : own_f1 p0 = own_f1_155 p0 → OG p e below (FE s ({ frames := 0, cells := 0, slots := 0, locals := 0 } : Room).cells ({ frames := 0, cells := 0, slots := 0, locals := 0 } : Room).slots) (own_Q1 Z p0 h0 n0) (s₁.setTop (mkF m 155 #[.val (.int p0)] [])) := by
    intro hv155
    refine o_iloadN X0 hx rfl (hb hby own_d1_155) rfl ?_
    refine o_ldcI X0 hx rfl (hb hby own_d1_156) hZ hown (hw _ (List.mem_of_getElem? (i := 6) rfl)) ?_
    by_cases hc5 : p0 < (63744 : Int32)
    · skip
      refine o_icmpY (pc' := 167) X0 hx (hb hby own_d1_158) (tlt hc5).1 (by decide) (by decide) ?_
      exact own_k167 (by rw [hv155, own_f1_155, if_pos hc5])
    · skip
      refine o_icmpN (pc' := 161) X0 hx rfl (hb hby own_d1_158) (flt hc5).1 ?_
      refine o_iloadN X0 hx rfl (hb hby own_d1_161) rfl ?_
      refine o_ldcI X0 hx rfl (hb hby own_d1_162) hZ hown (hw _ (List.mem_of_getElem? (i := 16) rfl)) ?_
      by_cases hc6 : (64975 : Int32) < p0
      · skip
        refine o_icmpN (pc' := 167) X0 hx rfl (hb hby own_d1_164) (tlt hc6).2.2.2 ?_
        exact own_k167 (by rw [hv155, own_f1_155, if_neg hc5, if_pos hc6])
      · skip
        refine o_icmpY (pc' := 191) X0 hx (hb hby own_d1_164) (flt hc6).2.2.2 (by decide) (by decide) ?_
        refine o_iconst (z := (1 : Int32)) X0 hx rfl (hb hby own_d1_191) (by decide) ?_
        refine o_goto (pc' := 196) X0 hx (hb hby own_d1_192) (by decide) (by decide) ?_
        exact o_retB X0 hx Bd.returns (own_lv X0 hlk (by decide) (by decide)) (hb hby own_d1_196) (by decide) ⟨(by rw [hv155, own_f1_155, if_neg hc5, if_neg hc6]), N0, e0⟩
  have own_k142 : own_f1 p0 = own_f1_142 p0 → OG p e below (FE s ({ frames := 0, cells := 0, slots := 0, locals := 0 } : Room).cells ({ frames := 0, cells := 0, slots := 0, locals := 0 } : Room).slots) (own_Q1 Z p0 h0 n0) (s₁.setTop (mkF m 142 #[.val (.int p0)] [])) := by
    intro hv142
    refine o_iloadN X0 hx rfl (hb hby own_d1_142) rfl ?_
    refine o_sipush (z := (12289 : Int32)) X0 hx rfl (hb hby own_d1_143) (by decide) ?_
    by_cases hc7 : p0 < (12289 : Int32)
    · skip
      refine o_icmpY (pc' := 155) X0 hx (hb hby own_d1_146) (tlt hc7).1 (by decide) (by decide) ?_
      exact own_k155 (by rw [hv142, own_f1_142, if_pos hc7])
    · skip
      refine o_icmpN (pc' := 149) X0 hx rfl (hb hby own_d1_146) (flt hc7).1 ?_
      refine o_iloadN X0 hx rfl (hb hby own_d1_149) rfl ?_
      refine o_ldcI X0 hx rfl (hb hby own_d1_150) hZ hown (hw _ (List.mem_of_getElem? (i := 15) rfl)) ?_
      by_cases hc8 : (55295 : Int32) < p0
      · skip
        refine o_icmpN (pc' := 155) X0 hx rfl (hb hby own_d1_152) (tlt hc8).2.2.2 ?_
        exact own_k155 (by rw [hv142, own_f1_142, if_neg hc7, if_pos hc8])
      · skip
        refine o_icmpY (pc' := 191) X0 hx (hb hby own_d1_152) (flt hc8).2.2.2 (by decide) (by decide) ?_
        refine o_iconst (z := (1 : Int32)) X0 hx rfl (hb hby own_d1_191) (by decide) ?_
        refine o_goto (pc' := 196) X0 hx (hb hby own_d1_192) (by decide) (by decide) ?_
        exact o_retB X0 hx Bd.returns (own_lv X0 hlk (by decide) (by decide)) (hb hby own_d1_196) (by decide) ⟨(by rw [hv142, own_f1_142, if_neg hc7, if_neg hc8]), N0, e0⟩
  have own_k128 : own_f1 p0 = own_f1_128 p0 → OG p e below (FE s ({ frames := 0, cells := 0, slots := 0, locals := 0 } : Room).cells ({ frames := 0, cells := 0, slots := 0, locals := 0 } : Room).slots) (own_Q1 Z p0 h0 n0) (s₁.setTop (mkF m 128 #[.val (.int p0)] [])) := by
    intro hv128
    refine o_iloadN X0 hx rfl (hb hby own_d1_128) rfl ?_
    refine o_sipush (z := (11264 : Int32)) X0 hx rfl (hb hby own_d1_129) (by decide) ?_
    by_cases hc9 : p0 < (11264 : Int32)
    · skip
      refine o_icmpY (pc' := 142) X0 hx (hb hby own_d1_132) (tlt hc9).1 (by decide) (by decide) ?_
      exact own_k142 (by rw [hv128, own_f1_128, if_pos hc9])
    · skip
      refine o_icmpN (pc' := 135) X0 hx rfl (hb hby own_d1_132) (flt hc9).1 ?_
      refine o_iloadN X0 hx rfl (hb hby own_d1_135) rfl ?_
      refine o_sipush (z := (12271 : Int32)) X0 hx rfl (hb hby own_d1_136) (by decide) ?_
      by_cases hc10 : (12271 : Int32) < p0
      · skip
        refine o_icmpN (pc' := 142) X0 hx rfl (hb hby own_d1_139) (tlt hc10).2.2.2 ?_
        exact own_k142 (by rw [hv128, own_f1_128, if_neg hc9, if_pos hc10])
      · skip
        refine o_icmpY (pc' := 191) X0 hx (hb hby own_d1_139) (flt hc10).2.2.2 (by decide) (by decide) ?_
        refine o_iconst (z := (1 : Int32)) X0 hx rfl (hb hby own_d1_191) (by decide) ?_
        refine o_goto (pc' := 196) X0 hx (hb hby own_d1_192) (by decide) (by decide) ?_
        exact o_retB X0 hx Bd.returns (own_lv X0 hlk (by decide) (by decide)) (hb hby own_d1_196) (by decide) ⟨(by rw [hv128, own_f1_128, if_neg hc9, if_neg hc10]), N0, e0⟩
  have own_k114 : own_f1 p0 = own_f1_114 p0 → OG p e below (FE s ({ frames := 0, cells := 0, slots := 0, locals := 0 } : Room).cells ({ frames := 0, cells := 0, slots := 0, locals := 0 } : Room).slots) (own_Q1 Z p0 h0 n0) (s₁.setTop (mkF m 114 #[.val (.int p0)] [])) := by
    intro hv114
    refine o_iloadN X0 hx rfl (hb hby own_d1_114) rfl ?_
    refine o_sipush (z := (8304 : Int32)) X0 hx rfl (hb hby own_d1_115) (by decide) ?_
    by_cases hc11 : p0 < (8304 : Int32)
    · skip
      refine o_icmpY (pc' := 128) X0 hx (hb hby own_d1_118) (tlt hc11).1 (by decide) (by decide) ?_
      exact own_k128 (by rw [hv114, own_f1_114, if_pos hc11])
    · skip
      refine o_icmpN (pc' := 121) X0 hx rfl (hb hby own_d1_118) (flt hc11).1 ?_
      refine o_iloadN X0 hx rfl (hb hby own_d1_121) rfl ?_
      refine o_sipush (z := (8591 : Int32)) X0 hx rfl (hb hby own_d1_122) (by decide) ?_
      by_cases hc12 : (8591 : Int32) < p0
      · skip
        refine o_icmpN (pc' := 128) X0 hx rfl (hb hby own_d1_125) (tlt hc12).2.2.2 ?_
        exact own_k128 (by rw [hv114, own_f1_114, if_neg hc11, if_pos hc12])
      · skip
        refine o_icmpY (pc' := 191) X0 hx (hb hby own_d1_125) (flt hc12).2.2.2 (by decide) (by decide) ?_
        refine o_iconst (z := (1 : Int32)) X0 hx rfl (hb hby own_d1_191) (by decide) ?_
        refine o_goto (pc' := 196) X0 hx (hb hby own_d1_192) (by decide) (by decide) ?_
        exact o_retB X0 hx Bd.returns (own_lv X0 hlk (by decide) (by decide)) (hb hby own_d1_196) (by decide) ⟨(by rw [hv114, own_f1_114, if_neg hc11, if_neg hc12]), N0, e0⟩
  have own_k100 : own_f1 p0 = own_f1_100 p0 → OG p e below (FE s ({ frames := 0, cells := 0, slots := 0, locals := 0 } : Room).cells ({ frames := 0, cells := 0, slots := 0, locals := 0 } : Room).slots) (own_Q1 Z p0 h0 n0) (s₁.setTop (mkF m 100 #[.val (.int p0)] [])) := by
    intro hv100
    refine o_iloadN X0 hx rfl (hb hby own_d1_100) rfl ?_
    refine o_sipush (z := (8204 : Int32)) X0 hx rfl (hb hby own_d1_101) (by decide) ?_
    by_cases hc13 : p0 < (8204 : Int32)
    · skip
      refine o_icmpY (pc' := 114) X0 hx (hb hby own_d1_104) (tlt hc13).1 (by decide) (by decide) ?_
      exact own_k114 (by rw [hv100, own_f1_100, if_pos hc13])
    · skip
      refine o_icmpN (pc' := 107) X0 hx rfl (hb hby own_d1_104) (flt hc13).1 ?_
      refine o_iloadN X0 hx rfl (hb hby own_d1_107) rfl ?_
      refine o_sipush (z := (8205 : Int32)) X0 hx rfl (hb hby own_d1_108) (by decide) ?_
      by_cases hc14 : (8205 : Int32) < p0
      · skip
        refine o_icmpN (pc' := 114) X0 hx rfl (hb hby own_d1_111) (tlt hc14).2.2.2 ?_
        exact own_k114 (by rw [hv100, own_f1_100, if_neg hc13, if_pos hc14])
      · skip
        refine o_icmpY (pc' := 191) X0 hx (hb hby own_d1_111) (flt hc14).2.2.2 (by decide) (by decide) ?_
        refine o_iconst (z := (1 : Int32)) X0 hx rfl (hb hby own_d1_191) (by decide) ?_
        refine o_goto (pc' := 196) X0 hx (hb hby own_d1_192) (by decide) (by decide) ?_
        exact o_retB X0 hx Bd.returns (own_lv X0 hlk (by decide) (by decide)) (hb hby own_d1_196) (by decide) ⟨(by rw [hv100, own_f1_100, if_neg hc13, if_neg hc14]), N0, e0⟩
  have own_k86 : own_f1 p0 = own_f1_86 p0 → OG p e below (FE s ({ frames := 0, cells := 0, slots := 0, locals := 0 } : Room).cells ({ frames := 0, cells := 0, slots := 0, locals := 0 } : Room).slots) (own_Q1 Z p0 h0 n0) (s₁.setTop (mkF m 86 #[.val (.int p0)] [])) := by
    intro hv86
    refine o_iloadN X0 hx rfl (hb hby own_d1_86) rfl ?_
    refine o_sipush (z := (895 : Int32)) X0 hx rfl (hb hby own_d1_87) (by decide) ?_
    by_cases hc15 : p0 < (895 : Int32)
    · skip
      refine o_icmpY (pc' := 100) X0 hx (hb hby own_d1_90) (tlt hc15).1 (by decide) (by decide) ?_
      exact own_k100 (by rw [hv86, own_f1_86, if_pos hc15])
    · skip
      refine o_icmpN (pc' := 93) X0 hx rfl (hb hby own_d1_90) (flt hc15).1 ?_
      refine o_iloadN X0 hx rfl (hb hby own_d1_93) rfl ?_
      refine o_sipush (z := (8191 : Int32)) X0 hx rfl (hb hby own_d1_94) (by decide) ?_
      by_cases hc16 : (8191 : Int32) < p0
      · skip
        refine o_icmpN (pc' := 100) X0 hx rfl (hb hby own_d1_97) (tlt hc16).2.2.2 ?_
        exact own_k100 (by rw [hv86, own_f1_86, if_neg hc15, if_pos hc16])
      · skip
        refine o_icmpY (pc' := 191) X0 hx (hb hby own_d1_97) (flt hc16).2.2.2 (by decide) (by decide) ?_
        refine o_iconst (z := (1 : Int32)) X0 hx rfl (hb hby own_d1_191) (by decide) ?_
        refine o_goto (pc' := 196) X0 hx (hb hby own_d1_192) (by decide) (by decide) ?_
        exact o_retB X0 hx Bd.returns (own_lv X0 hlk (by decide) (by decide)) (hb hby own_d1_196) (by decide) ⟨(by rw [hv86, own_f1_86, if_neg hc15, if_neg hc16]), N0, e0⟩
  have own_k72 : own_f1 p0 = own_f1_72 p0 → OG p e below (FE s ({ frames := 0, cells := 0, slots := 0, locals := 0 } : Room).cells ({ frames := 0, cells := 0, slots := 0, locals := 0 } : Room).slots) (own_Q1 Z p0 h0 n0) (s₁.setTop (mkF m 72 #[.val (.int p0)] [])) := by
    intro hv72
    refine o_iloadN X0 hx rfl (hb hby own_d1_72) rfl ?_
    refine o_sipush (z := (880 : Int32)) X0 hx rfl (hb hby own_d1_73) (by decide) ?_
    by_cases hc17 : p0 < (880 : Int32)
    · skip
      refine o_icmpY (pc' := 86) X0 hx (hb hby own_d1_76) (tlt hc17).1 (by decide) (by decide) ?_
      exact own_k86 (by rw [hv72, own_f1_72, if_pos hc17])
    · skip
      refine o_icmpN (pc' := 79) X0 hx rfl (hb hby own_d1_76) (flt hc17).1 ?_
      refine o_iloadN X0 hx rfl (hb hby own_d1_79) rfl ?_
      refine o_sipush (z := (893 : Int32)) X0 hx rfl (hb hby own_d1_80) (by decide) ?_
      by_cases hc18 : (893 : Int32) < p0
      · skip
        refine o_icmpN (pc' := 86) X0 hx rfl (hb hby own_d1_83) (tlt hc18).2.2.2 ?_
        exact own_k86 (by rw [hv72, own_f1_72, if_neg hc17, if_pos hc18])
      · skip
        refine o_icmpY (pc' := 191) X0 hx (hb hby own_d1_83) (flt hc18).2.2.2 (by decide) (by decide) ?_
        refine o_iconst (z := (1 : Int32)) X0 hx rfl (hb hby own_d1_191) (by decide) ?_
        refine o_goto (pc' := 196) X0 hx (hb hby own_d1_192) (by decide) (by decide) ?_
        exact o_retB X0 hx Bd.returns (own_lv X0 hlk (by decide) (by decide)) (hb hby own_d1_196) (by decide) ⟨(by rw [hv72, own_f1_72, if_neg hc17, if_neg hc18]), N0, e0⟩
  have own_k58 : own_f1 p0 = own_f1_58 p0 → OG p e below (FE s ({ frames := 0, cells := 0, slots := 0, locals := 0 } : Room).cells ({ frames := 0, cells := 0, slots := 0, locals := 0 } : Room).slots) (own_Q1 Z p0 h0 n0) (s₁.setTop (mkF m 58 #[.val (.int p0)] [])) := by
    intro hv58
    refine o_iloadN X0 hx rfl (hb hby own_d1_58) rfl ?_
    refine o_sipush (z := (248 : Int32)) X0 hx rfl (hb hby own_d1_59) (by decide) ?_
    by_cases hc19 : p0 < (248 : Int32)
    · skip
      refine o_icmpY (pc' := 72) X0 hx (hb hby own_d1_62) (tlt hc19).1 (by decide) (by decide) ?_
      exact own_k72 (by rw [hv58, own_f1_58, if_pos hc19])
    · skip
      refine o_icmpN (pc' := 65) X0 hx rfl (hb hby own_d1_62) (flt hc19).1 ?_
      refine o_iloadN X0 hx rfl (hb hby own_d1_65) rfl ?_
      refine o_sipush (z := (767 : Int32)) X0 hx rfl (hb hby own_d1_66) (by decide) ?_
      by_cases hc20 : (767 : Int32) < p0
      · skip
        refine o_icmpN (pc' := 72) X0 hx rfl (hb hby own_d1_69) (tlt hc20).2.2.2 ?_
        exact own_k72 (by rw [hv58, own_f1_58, if_neg hc19, if_pos hc20])
      · skip
        refine o_icmpY (pc' := 191) X0 hx (hb hby own_d1_69) (flt hc20).2.2.2 (by decide) (by decide) ?_
        refine o_iconst (z := (1 : Int32)) X0 hx rfl (hb hby own_d1_191) (by decide) ?_
        refine o_goto (pc' := 196) X0 hx (hb hby own_d1_192) (by decide) (by decide) ?_
        exact o_retB X0 hx Bd.returns (own_lv X0 hlk (by decide) (by decide)) (hb hby own_d1_196) (by decide) ⟨(by rw [hv58, own_f1_58, if_neg hc19, if_neg hc20]), N0, e0⟩
  have own_k44 : own_f1 p0 = own_f1_44 p0 → OG p e below (FE s ({ frames := 0, cells := 0, slots := 0, locals := 0 } : Room).cells ({ frames := 0, cells := 0, slots := 0, locals := 0 } : Room).slots) (own_Q1 Z p0 h0 n0) (s₁.setTop (mkF m 44 #[.val (.int p0)] [])) := by
    intro hv44
    refine o_iloadN X0 hx rfl (hb hby own_d1_44) rfl ?_
    refine o_sipush (z := (216 : Int32)) X0 hx rfl (hb hby own_d1_45) (by decide) ?_
    by_cases hc21 : p0 < (216 : Int32)
    · skip
      refine o_icmpY (pc' := 58) X0 hx (hb hby own_d1_48) (tlt hc21).1 (by decide) (by decide) ?_
      exact own_k58 (by rw [hv44, own_f1_44, if_pos hc21])
    · skip
      refine o_icmpN (pc' := 51) X0 hx rfl (hb hby own_d1_48) (flt hc21).1 ?_
      refine o_iloadN X0 hx rfl (hb hby own_d1_51) rfl ?_
      refine o_sipush (z := (246 : Int32)) X0 hx rfl (hb hby own_d1_52) (by decide) ?_
      by_cases hc22 : (246 : Int32) < p0
      · skip
        refine o_icmpN (pc' := 58) X0 hx rfl (hb hby own_d1_55) (tlt hc22).2.2.2 ?_
        exact own_k58 (by rw [hv44, own_f1_44, if_neg hc21, if_pos hc22])
      · skip
        refine o_icmpY (pc' := 191) X0 hx (hb hby own_d1_55) (flt hc22).2.2.2 (by decide) (by decide) ?_
        refine o_iconst (z := (1 : Int32)) X0 hx rfl (hb hby own_d1_191) (by decide) ?_
        refine o_goto (pc' := 196) X0 hx (hb hby own_d1_192) (by decide) (by decide) ?_
        exact o_retB X0 hx Bd.returns (own_lv X0 hlk (by decide) (by decide)) (hb hby own_d1_196) (by decide) ⟨(by rw [hv44, own_f1_44, if_neg hc21, if_neg hc22]), N0, e0⟩
  have own_k30 : own_f1 p0 = own_f1_30 p0 → OG p e below (FE s ({ frames := 0, cells := 0, slots := 0, locals := 0 } : Room).cells ({ frames := 0, cells := 0, slots := 0, locals := 0 } : Room).slots) (own_Q1 Z p0 h0 n0) (s₁.setTop (mkF m 30 #[.val (.int p0)] [])) := by
    intro hv30
    refine o_iloadN X0 hx rfl (hb hby own_d1_30) rfl ?_
    refine o_sipush (z := (192 : Int32)) X0 hx rfl (hb hby own_d1_31) (by decide) ?_
    by_cases hc23 : p0 < (192 : Int32)
    · skip
      refine o_icmpY (pc' := 44) X0 hx (hb hby own_d1_34) (tlt hc23).1 (by decide) (by decide) ?_
      exact own_k44 (by rw [hv30, own_f1_30, if_pos hc23])
    · skip
      refine o_icmpN (pc' := 37) X0 hx rfl (hb hby own_d1_34) (flt hc23).1 ?_
      refine o_iloadN X0 hx rfl (hb hby own_d1_37) rfl ?_
      refine o_sipush (z := (214 : Int32)) X0 hx rfl (hb hby own_d1_38) (by decide) ?_
      by_cases hc24 : (214 : Int32) < p0
      · skip
        refine o_icmpN (pc' := 44) X0 hx rfl (hb hby own_d1_41) (tlt hc24).2.2.2 ?_
        exact own_k44 (by rw [hv30, own_f1_30, if_neg hc23, if_pos hc24])
      · skip
        refine o_icmpY (pc' := 191) X0 hx (hb hby own_d1_41) (flt hc24).2.2.2 (by decide) (by decide) ?_
        refine o_iconst (z := (1 : Int32)) X0 hx rfl (hb hby own_d1_191) (by decide) ?_
        refine o_goto (pc' := 196) X0 hx (hb hby own_d1_192) (by decide) (by decide) ?_
        exact o_retB X0 hx Bd.returns (own_lv X0 hlk (by decide) (by decide)) (hb hby own_d1_196) (by decide) ⟨(by rw [hv30, own_f1_30, if_neg hc23, if_neg hc24]), N0, e0⟩
  have own_k24 : own_f1 p0 = own_f1_24 p0 → OG p e below (FE s ({ frames := 0, cells := 0, slots := 0, locals := 0 } : Room).cells ({ frames := 0, cells := 0, slots := 0, locals := 0 } : Room).slots) (own_Q1 Z p0 h0 n0) (s₁.setTop (mkF m 24 #[.val (.int p0)] [])) := by
    intro hv24
    refine o_iloadN X0 hx rfl (hb hby own_d1_24) rfl ?_
    refine o_bipush (z := (95 : Int32)) X0 hx rfl (hb hby own_d1_25) (by decide) ?_
    by_cases hc25 : p0 = (95 : Int32)
    · skip
      refine o_icmpY (pc' := 191) X0 hx (hb hby own_d1_27) (teq hc25).1 (by decide) (by decide) ?_
      refine o_iconst (z := (1 : Int32)) X0 hx rfl (hb hby own_d1_191) (by decide) ?_
      refine o_goto (pc' := 196) X0 hx (hb hby own_d1_192) (by decide) (by decide) ?_
      exact o_retB X0 hx Bd.returns (own_lv X0 hlk (by decide) (by decide)) (hb hby own_d1_196) (by decide) ⟨(by rw [hv24, own_f1_24, if_pos hc25]), N0, e0⟩
    · skip
      refine o_icmpN (pc' := 30) X0 hx rfl (hb hby own_d1_27) (feq hc25).1 ?_
      exact own_k30 (by rw [hv24, own_f1_24, if_neg hc25])
  have own_k12 : own_f1 p0 = own_f1_12 p0 → OG p e below (FE s ({ frames := 0, cells := 0, slots := 0, locals := 0 } : Room).cells ({ frames := 0, cells := 0, slots := 0, locals := 0 } : Room).slots) (own_Q1 Z p0 h0 n0) (s₁.setTop (mkF m 12 #[.val (.int p0)] [])) := by
    intro hv12
    refine o_iloadN X0 hx rfl (hb hby own_d1_12) rfl ?_
    refine o_bipush (z := (65 : Int32)) X0 hx rfl (hb hby own_d1_13) (by decide) ?_
    by_cases hc26 : p0 < (65 : Int32)
    · skip
      refine o_icmpY (pc' := 24) X0 hx (hb hby own_d1_15) (tlt hc26).1 (by decide) (by decide) ?_
      exact own_k24 (by rw [hv12, own_f1_12, if_pos hc26])
    · skip
      refine o_icmpN (pc' := 18) X0 hx rfl (hb hby own_d1_15) (flt hc26).1 ?_
      refine o_iloadN X0 hx rfl (hb hby own_d1_18) rfl ?_
      refine o_bipush (z := (90 : Int32)) X0 hx rfl (hb hby own_d1_19) (by decide) ?_
      by_cases hc27 : (90 : Int32) < p0
      · skip
        refine o_icmpN (pc' := 24) X0 hx rfl (hb hby own_d1_21) (tlt hc27).2.2.2 ?_
        exact own_k24 (by rw [hv12, own_f1_12, if_neg hc26, if_pos hc27])
      · skip
        refine o_icmpY (pc' := 191) X0 hx (hb hby own_d1_21) (flt hc27).2.2.2 (by decide) (by decide) ?_
        refine o_iconst (z := (1 : Int32)) X0 hx rfl (hb hby own_d1_191) (by decide) ?_
        refine o_goto (pc' := 196) X0 hx (hb hby own_d1_192) (by decide) (by decide) ?_
        exact o_retB X0 hx Bd.returns (own_lv X0 hlk (by decide) (by decide)) (hb hby own_d1_196) (by decide) ⟨(by rw [hv12, own_f1_12, if_neg hc26, if_neg hc27]), N0, e0⟩
  refine o_iloadN X0 hx rfl (hb hby own_d1_0) rfl ?_
  refine o_bipush (z := (97 : Int32)) X0 hx rfl (hb hby own_d1_1) (by decide) ?_
  by_cases hc28 : p0 < (97 : Int32)
  · skip
    refine o_icmpY (pc' := 12) X0 hx (hb hby own_d1_3) (tlt hc28).1 (by decide) (by decide) ?_
    exact own_k12 (by rw [own_f1, if_pos hc28])
  · skip
    refine o_icmpN (pc' := 6) X0 hx rfl (hb hby own_d1_3) (flt hc28).1 ?_
    refine o_iloadN X0 hx rfl (hb hby own_d1_6) rfl ?_
    refine o_bipush (z := (122 : Int32)) X0 hx rfl (hb hby own_d1_7) (by decide) ?_
    by_cases hc29 : (122 : Int32) < p0
    · skip
      refine o_icmpN (pc' := 12) X0 hx rfl (hb hby own_d1_9) (tlt hc29).2.2.2 ?_
      exact own_k12 (by rw [own_f1, if_neg hc28, if_pos hc29])
    · skip
      refine o_icmpY (pc' := 191) X0 hx (hb hby own_d1_9) (flt hc29).2.2.2 (by decide) (by decide) ?_
      refine o_iconst (z := (1 : Int32)) X0 hx rfl (hb hby own_d1_191) (by decide) ?_
      refine o_goto (pc' := 196) X0 hx (hb hby own_d1_192) (by decide) (by decide) ?_
      exact o_retB X0 hx Bd.returns (own_lv X0 hlk (by decide) (by decide)) (hb hby own_d1_196) (by decide) ⟨(by rw [own_f1, if_neg hc28, if_neg hc29]), N0, e0⟩
theorem own_d2_0 : decode method_2_code 0 = .ok (.iload_n 0, 1) := by decide +kernel
theorem own_d2_1 : decode method_2_code 1 = .ok (.ifCond .lt 9, 3) := by decide +kernel
theorem own_d2_4 : decode method_2_code 4 = .ok (.iload_n 0, 1) := by decide +kernel
theorem own_d2_5 : decode method_2_code 5 = .ok (.ldc 7, 2) := by decide +kernel
theorem own_d2_7 : decode method_2_code 7 = .ok (.if_icmp .le 5, 3) := by decide +kernel
theorem own_d2_10 : decode method_2_code 10 = .ok (.iconst 0, 1) := by decide +kernel
theorem own_d2_11 : decode method_2_code 11 = .ok (.ireturn, 1) := by decide +kernel
theorem own_d2_12 : decode method_2_code 12 = .ok (.iload_n 0, 1) := by decide +kernel
theorem own_d2_13 : decode method_2_code 13 = .ok (.ldc 8, 2) := by decide +kernel
theorem own_d2_15 : decode method_2_code 15 = .ok (.if_icmp .lt 5, 3) := by decide +kernel
theorem own_d2_18 : decode method_2_code 18 = .ok (.iconst 1, 1) := by decide +kernel
theorem own_d2_19 : decode method_2_code 19 = .ok (.ireturn, 1) := by decide +kernel
theorem own_d2_20 : decode method_2_code 20 = .ok (.iload_n 0, 1) := by decide +kernel
theorem own_d2_21 : decode method_2_code 21 = .ok (.sipush 128, 3) := by decide +kernel
theorem own_d2_24 : decode method_2_code 24 = .ok (.if_icmp .ge 32, 3) := by decide +kernel
theorem own_d2_27 : decode method_2_code 27 = .ok (.iload_n 0, 1) := by decide +kernel
theorem own_d2_28 : decode method_2_code 28 = .ok (.bipush 32, 2) := by decide +kernel
theorem own_d2_30 : decode method_2_code 30 = .ok (.ior, 1) := by decide +kernel
theorem own_d2_31 : decode method_2_code 31 = .ok (.istore_n 1, 1) := by decide +kernel
theorem own_d2_32 : decode method_2_code 32 = .ok (.iload_n 1, 1) := by decide +kernel
theorem own_d2_33 : decode method_2_code 33 = .ok (.bipush 97, 2) := by decide +kernel
theorem own_d2_35 : decode method_2_code 35 = .ok (.if_icmp .lt 9, 3) := by decide +kernel
theorem own_d2_38 : decode method_2_code 38 = .ok (.iload_n 1, 1) := by decide +kernel
theorem own_d2_39 : decode method_2_code 39 = .ok (.bipush 122, 2) := by decide +kernel
theorem own_d2_41 : decode method_2_code 41 = .ok (.if_icmp .le 9, 3) := by decide +kernel
theorem own_d2_44 : decode method_2_code 44 = .ok (.iload_n 0, 1) := by decide +kernel
theorem own_d2_45 : decode method_2_code 45 = .ok (.bipush 95, 2) := by decide +kernel
theorem own_d2_47 : decode method_2_code 47 = .ok (.if_icmp .ne 7, 3) := by decide +kernel
theorem own_d2_50 : decode method_2_code 50 = .ok (.iconst 1, 1) := by decide +kernel
theorem own_d2_51 : decode method_2_code 51 = .ok (.goto 4, 3) := by decide +kernel
theorem own_d2_54 : decode method_2_code 54 = .ok (.iconst 0, 1) := by decide +kernel
theorem own_d2_55 : decode method_2_code 55 = .ok (.ireturn, 1) := by decide +kernel
theorem own_d2_56 : decode method_2_code 56 = .ok (.iload_n 0, 1) := by decide +kernel
theorem own_d2_57 : decode method_2_code 57 = .ok (.sipush 768, 3) := by decide +kernel
theorem own_d2_60 : decode method_2_code 60 = .ok (.if_icmp .ge 30, 3) := by decide +kernel
theorem own_d2_63 : decode method_2_code 63 = .ok (.iload_n 0, 1) := by decide +kernel
theorem own_d2_64 : decode method_2_code 64 = .ok (.sipush 192, 3) := by decide +kernel
theorem own_d2_67 : decode method_2_code 67 = .ok (.if_icmp .lt 21, 3) := by decide +kernel
theorem own_d2_70 : decode method_2_code 70 = .ok (.iload_n 0, 1) := by decide +kernel
theorem own_d2_71 : decode method_2_code 71 = .ok (.sipush 215, 3) := by decide +kernel
theorem own_d2_74 : decode method_2_code 74 = .ok (.if_icmp .eq 14, 3) := by decide +kernel
theorem own_d2_77 : decode method_2_code 77 = .ok (.iload_n 0, 1) := by decide +kernel
theorem own_d2_78 : decode method_2_code 78 = .ok (.sipush 247, 3) := by decide +kernel
theorem own_d2_81 : decode method_2_code 81 = .ok (.if_icmp .eq 7, 3) := by decide +kernel
theorem own_d2_84 : decode method_2_code 84 = .ok (.iconst 1, 1) := by decide +kernel
theorem own_d2_85 : decode method_2_code 85 = .ok (.goto 4, 3) := by decide +kernel
theorem own_d2_88 : decode method_2_code 88 = .ok (.iconst 0, 1) := by decide +kernel
theorem own_d2_89 : decode method_2_code 89 = .ok (.ireturn, 1) := by decide +kernel
theorem own_d2_90 : decode method_2_code 90 = .ok (.iload_n 0, 1) := by decide +kernel
theorem own_d2_91 : decode method_2_code 91 = .ok (.sipush 8192, 3) := by decide +kernel
theorem own_d2_94 : decode method_2_code 94 = .ok (.if_icmp .ge 23, 3) := by decide +kernel
theorem own_d2_97 : decode method_2_code 97 = .ok (.iload_n 0, 1) := by decide +kernel
theorem own_d2_98 : decode method_2_code 98 = .ok (.sipush 880, 3) := by decide +kernel
theorem own_d2_101 : decode method_2_code 101 = .ok (.if_icmp .lt 14, 3) := by decide +kernel
theorem own_d2_104 : decode method_2_code 104 = .ok (.iload_n 0, 1) := by decide +kernel
theorem own_d2_105 : decode method_2_code 105 = .ok (.sipush 894, 3) := by decide +kernel
theorem own_d2_108 : decode method_2_code 108 = .ok (.if_icmp .eq 7, 3) := by decide +kernel
theorem own_d2_111 : decode method_2_code 111 = .ok (.iconst 1, 1) := by decide +kernel
theorem own_d2_112 : decode method_2_code 112 = .ok (.goto 4, 3) := by decide +kernel
theorem own_d2_115 : decode method_2_code 115 = .ok (.iconst 0, 1) := by decide +kernel
theorem own_d2_116 : decode method_2_code 116 = .ok (.ireturn, 1) := by decide +kernel
theorem own_d2_117 : decode method_2_code 117 = .ok (.iload_n 0, 1) := by decide +kernel
theorem own_d2_118 : decode method_2_code 118 = .ok (.sipush 12288, 3) := by decide +kernel
theorem own_d2_121 : decode method_2_code 121 = .ok (.if_icmp .ge 51, 3) := by decide +kernel
theorem own_d2_124 : decode method_2_code 124 = .ok (.iload_n 0, 1) := by decide +kernel
theorem own_d2_125 : decode method_2_code 125 = .ok (.sipush 8204, 3) := by decide +kernel
theorem own_d2_128 : decode method_2_code 128 = .ok (.if_icmp .eq 38, 3) := by decide +kernel
theorem own_d2_131 : decode method_2_code 131 = .ok (.iload_n 0, 1) := by decide +kernel
theorem own_d2_132 : decode method_2_code 132 = .ok (.sipush 8205, 3) := by decide +kernel
theorem own_d2_135 : decode method_2_code 135 = .ok (.if_icmp .eq 31, 3) := by decide +kernel
theorem own_d2_138 : decode method_2_code 138 = .ok (.iload_n 0, 1) := by decide +kernel
theorem own_d2_139 : decode method_2_code 139 = .ok (.sipush 8304, 3) := by decide +kernel
theorem own_d2_142 : decode method_2_code 142 = .ok (.if_icmp .lt 10, 3) := by decide +kernel
theorem own_d2_145 : decode method_2_code 145 = .ok (.iload_n 0, 1) := by decide +kernel
theorem own_d2_146 : decode method_2_code 146 = .ok (.sipush 8591, 3) := by decide +kernel
theorem own_d2_149 : decode method_2_code 149 = .ok (.if_icmp .le 17, 3) := by decide +kernel
theorem own_d2_152 : decode method_2_code 152 = .ok (.iload_n 0, 1) := by decide +kernel
theorem own_d2_153 : decode method_2_code 153 = .ok (.sipush 11264, 3) := by decide +kernel
theorem own_d2_156 : decode method_2_code 156 = .ok (.if_icmp .lt 14, 3) := by decide +kernel
theorem own_d2_159 : decode method_2_code 159 = .ok (.iload_n 0, 1) := by decide +kernel
theorem own_d2_160 : decode method_2_code 160 = .ok (.sipush 12271, 3) := by decide +kernel
theorem own_d2_163 : decode method_2_code 163 = .ok (.if_icmp .gt 7, 3) := by decide +kernel
theorem own_d2_166 : decode method_2_code 166 = .ok (.iconst 1, 1) := by decide +kernel
theorem own_d2_167 : decode method_2_code 167 = .ok (.goto 4, 3) := by decide +kernel
theorem own_d2_170 : decode method_2_code 170 = .ok (.iconst 0, 1) := by decide +kernel
theorem own_d2_171 : decode method_2_code 171 = .ok (.ireturn, 1) := by decide +kernel
theorem own_d2_172 : decode method_2_code 172 = .ok (.iload_n 0, 1) := by decide +kernel
theorem own_d2_173 : decode method_2_code 173 = .ok (.ldc 9, 2) := by decide +kernel
theorem own_d2_175 : decode method_2_code 175 = .ok (.if_icmp .ge 22, 3) := by decide +kernel
theorem own_d2_178 : decode method_2_code 178 = .ok (.iload_n 0, 1) := by decide +kernel
theorem own_d2_179 : decode method_2_code 179 = .ok (.sipush 12289, 3) := by decide +kernel
theorem own_d2_182 : decode method_2_code 182 = .ok (.if_icmp .lt 13, 3) := by decide +kernel
theorem own_d2_185 : decode method_2_code 185 = .ok (.iload_n 0, 1) := by decide +kernel
theorem own_d2_186 : decode method_2_code 186 = .ok (.ldc 10, 2) := by decide +kernel
theorem own_d2_188 : decode method_2_code 188 = .ok (.if_icmp .gt 7, 3) := by decide +kernel
theorem own_d2_191 : decode method_2_code 191 = .ok (.iconst 1, 1) := by decide +kernel
theorem own_d2_192 : decode method_2_code 192 = .ok (.goto 4, 3) := by decide +kernel
theorem own_d2_195 : decode method_2_code 195 = .ok (.iconst 0, 1) := by decide +kernel
theorem own_d2_196 : decode method_2_code 196 = .ok (.ireturn, 1) := by decide +kernel
theorem own_d2_197 : decode method_2_code 197 = .ok (.iload_n 0, 1) := by decide +kernel
theorem own_d2_198 : decode method_2_code 198 = .ok (.ldc 11, 2) := by decide +kernel
theorem own_d2_200 : decode method_2_code 200 = .ok (.if_icmp .le 15, 3) := by decide +kernel
theorem own_d2_203 : decode method_2_code 203 = .ok (.iload_n 0, 1) := by decide +kernel
theorem own_d2_204 : decode method_2_code 204 = .ok (.ldc 12, 2) := by decide +kernel
theorem own_d2_206 : decode method_2_code 206 = .ok (.if_icmp .lt 13, 3) := by decide +kernel
theorem own_d2_209 : decode method_2_code 209 = .ok (.iload_n 0, 1) := by decide +kernel
theorem own_d2_210 : decode method_2_code 210 = .ok (.ldc 13, 2) := by decide +kernel
theorem own_d2_212 : decode method_2_code 212 = .ok (.if_icmp .gt 7, 3) := by decide +kernel
theorem own_d2_215 : decode method_2_code 215 = .ok (.iconst 1, 1) := by decide +kernel
theorem own_d2_216 : decode method_2_code 216 = .ok (.goto 4, 3) := by decide +kernel
theorem own_d2_219 : decode method_2_code 219 = .ok (.iconst 0, 1) := by decide +kernel
theorem own_d2_220 : decode method_2_code 220 = .ok (.ireturn, 1) := by decide +kernel
def own_f2 (p0 : Int32) : Int32 := (if p0 < (0 : Int32) then (0 : Int32) else (if (983039 : Int32) < p0 then (0 : Int32) else (if p0 < (65536 : Int32) then (if p0 < (128 : Int32) then (if (p0 ||| (32 : Int32)) < (97 : Int32) then (if p0 = (95 : Int32) then (1 : Int32) else (0 : Int32)) else (if (122 : Int32) < (p0 ||| (32 : Int32)) then (if p0 = (95 : Int32) then (1 : Int32) else (0 : Int32)) else (1 : Int32))) else (if p0 < (768 : Int32) then (if p0 < (192 : Int32) then (0 : Int32) else (if p0 = (215 : Int32) then (0 : Int32) else (if p0 = (247 : Int32) then (0 : Int32) else (1 : Int32)))) else (if p0 < (8192 : Int32) then (if p0 < (880 : Int32) then (0 : Int32) else (if p0 = (894 : Int32) then (0 : Int32) else (1 : Int32))) else (if p0 < (12288 : Int32) then (if p0 = (8204 : Int32) then (1 : Int32) else (if p0 = (8205 : Int32) then (1 : Int32) else (if p0 < (8304 : Int32) then (if p0 < (11264 : Int32) then (0 : Int32) else (if (12271 : Int32) < p0 then (0 : Int32) else (1 : Int32))) else (if (8591 : Int32) < p0 then (if p0 < (11264 : Int32) then (0 : Int32) else (if (12271 : Int32) < p0 then (0 : Int32) else (1 : Int32))) else (1 : Int32))))) else (if p0 < (63744 : Int32) then (if p0 < (12289 : Int32) then (0 : Int32) else (if (55295 : Int32) < p0 then (0 : Int32) else (1 : Int32))) else (if (64975 : Int32) < p0 then (if p0 < (65008 : Int32) then (0 : Int32) else (if (65533 : Int32) < p0 then (0 : Int32) else (1 : Int32))) else (1 : Int32))))))) else (1 : Int32))))
theorem own_ef2 (m : MethodId) (p0 : Int32) : entryFrame m #[(.int p0)] 2 = mkF m 0 #[.val (.int p0), .unset] [] := by first | (simp [entryFrame, mkF, argsToLocals, Value.category]; done) | rfl
def own_Q2 (Z : State) (p0 : Int32) (h0 : Heap) (n0 : Nat) (v : Option Value) (h : Heap) (L : List Loc) : Prop := v = some (.int (own_f2 p0)) ∧ Fr n0 L ∧ h = h0
theorem own_pn204 : plainName "com/example/nodeset/nodeset/XmlNamesIsNameStartPinLaw" = true := by first | (simp [plainName, overriddenIn]; done) | decide +kernel
set_option maxRecDepth 65536 in
set_option maxHeartbeats 40000000 in
theorem own_rm2 (l : Launch) (Z : State) (aA : Array Value) (hw : ∀ d ∈ tables_1, d.before aA Z = true) (ws : List Jvm.Cond) (p0 : Int32) (h0 : Heap) (n0 : Nat) (Z0 : n0 ≤ h0.size) :
    MetFree l (⟨"com/example/nodeset/nodeset/XmlNamesIsNameStartPinLaw", "ref", "(I)Z"⟩ : MethodName) (head1 (Jvm.Cond.code (⟨"com/example/nodeset/nodeset/XmlNamesIsNameStartPinLaw", "ref", "(I)Z"⟩ : MethodName) method_2_code 2 (some .boolean) :: ws) ({ frames := 0, cells := 0, slots := 0, locals := 0 } : Room)) (fun a U => a = #[(.int p0)] ∧ Z.Warmed39 U.vm ∧ U.heap = h0) (fun _ _ _ _ _ => True) (fun _ U o U' => ∃ v L, o = .returned v ∧ own_Q2 Z p0 h0 n0 v U'.heap L ∧ FrameEnd U o U' L ({ frames := 0, cells := 0, slots := 0, locals := 0 } : Room).cells ({ frames := 0, cells := 0, slots := 0, locals := 0 } : Room).slots) := by
  refine MetFree.of_bodySF (plainFor_of_name own_pn204) hisR ?_
  intro p e s m args below meth c s₁ Bd hml0 hP hK
  obtain ⟨rfl, hZ, hh⟩ := hP
  have hx := Bd.exec
  have hby := Bd.bytes
  have hlk : meth.locks = false := Bd.notSynchronized
  have hml : c.maxLocals = 2 := hml0
  have hown : s.vm.findClass "com/example/nodeset/nodeset/XmlNamesIsNameStartPinLaw" = some m.cls := findClass_of_methodNamed Bd.named
  have hnm := (name_of_methodNamed Bd.named Bd.method).1
  have X0 : Stand p l e ({ frames := 0, cells := 0, slots := 0, locals := 0 } : Room) s m #[(.int p0)] below meth c s₁ [] 0 0 := Stand.of_body Bd
  have e0 : s₁.heap = h0 := by rw [← hh, Bd.state]; rfl
  have N0 := Fr.nil n0
  show OG p e below (FE s ({ frames := 0, cells := 0, slots := 0, locals := 0 } : Room).cells ({ frames := 0, cells := 0, slots := 0, locals := 0 } : Room).slots) (own_Q2 Z p0 h0 n0) (s₁.setTop (entryFrame m #[(.int p0)] 2))
  refine og_of (fun _ k => castTop (own_ef2 m p0) k) ?_
  refine o_iloadN X0 hx rfl (hb hby own_d2_0) rfl ?_
  by_cases hc1 : p0 < (0 : Int32)
  · skip
    refine o_ifY (pc' := 10) X0 hx (hb hby own_d2_1) ((if0 _ _).trans (tlt hc1).1) (by decide) (by decide) ?_
    refine o_iconst (z := (0 : Int32)) X0 hx rfl (hb hby own_d2_10) (by decide) ?_
    exact o_retB X0 hx Bd.returns (own_lv X0 hlk (by decide) (by decide)) (hb hby own_d2_11) (by decide) ⟨(by rw [own_f2, if_pos hc1]), N0, e0⟩
  · skip
    refine o_ifN (pc' := 4) X0 hx rfl (hb hby own_d2_1) ((if0 _ _).trans (flt hc1).1) ?_
    refine o_iloadN X0 hx rfl (hb hby own_d2_4) rfl ?_
    refine o_ldcI X0 hx rfl (hb hby own_d2_5) hZ hown (hw _ (List.mem_of_getElem? (i := 13) rfl)) ?_
    by_cases hc2 : (983039 : Int32) < p0
    · skip
      refine o_icmpN (pc' := 10) X0 hx rfl (hb hby own_d2_7) (tlt hc2).2.2.2 ?_
      refine o_iconst (z := (0 : Int32)) X0 hx rfl (hb hby own_d2_10) (by decide) ?_
      exact o_retB X0 hx Bd.returns (own_lv X0 hlk (by decide) (by decide)) (hb hby own_d2_11) (by decide) ⟨(by rw [own_f2, if_neg hc1, if_pos hc2]), N0, e0⟩
    · skip
      refine o_icmpY (pc' := 12) X0 hx (hb hby own_d2_7) (flt hc2).2.2.2 (by decide) (by decide) ?_
      refine o_iloadN X0 hx rfl (hb hby own_d2_12) rfl ?_
      refine o_ldcI X0 hx rfl (hb hby own_d2_13) hZ hown (hw _ (List.mem_of_getElem? (i := 14) rfl)) ?_
      by_cases hc3 : p0 < (65536 : Int32)
      · skip
        refine o_icmpY (pc' := 20) X0 hx (hb hby own_d2_15) (tlt hc3).1 (by decide) (by decide) ?_
        refine o_iloadN X0 hx rfl (hb hby own_d2_20) rfl ?_
        refine o_sipush (z := (128 : Int32)) X0 hx rfl (hb hby own_d2_21) (by decide) ?_
        by_cases hc4 : p0 < (128 : Int32)
        · skip
          refine o_icmpN (pc' := 27) X0 hx rfl (hb hby own_d2_24) (tlt hc4).2.1 ?_
          refine o_iloadN X0 hx rfl (hb hby own_d2_27) rfl ?_
          refine o_bipush (z := (32 : Int32)) X0 hx rfl (hb hby own_d2_28) (by decide) ?_
          obtain ⟨z5, hz5⟩ : ∃ z : Int32, p0 ||| (32 : Int32) = z := ⟨_, rfl⟩
          refine o_ior (z := z5) X0 hx rfl (hb hby own_d2_30) hz5 ?_
          refine o_istoreN X0 hx rfl (hb hby own_d2_31) (L' := #[.val (.int p0), .val (.int z5)]) rfl ?_
          refine o_iloadN X0 hx rfl (hb hby own_d2_32) rfl ?_
          refine o_bipush (z := (97 : Int32)) X0 hx rfl (hb hby own_d2_33) (by decide) ?_
          by_cases hc6 : z5 < (97 : Int32)
          · skip
            refine o_icmpY (pc' := 44) X0 hx (hb hby own_d2_35) (tlt hc6).1 (by decide) (by decide) ?_
            refine o_iloadN X0 hx rfl (hb hby own_d2_44) rfl ?_
            refine o_bipush (z := (95 : Int32)) X0 hx rfl (hb hby own_d2_45) (by decide) ?_
            by_cases hc7 : p0 = (95 : Int32)
            · skip
              refine o_icmpN (pc' := 50) X0 hx rfl (hb hby own_d2_47) (teq hc7).2 ?_
              refine o_iconst (z := (1 : Int32)) X0 hx rfl (hb hby own_d2_50) (by decide) ?_
              refine o_goto (pc' := 55) X0 hx (hb hby own_d2_51) (by decide) (by decide) ?_
              subst hz5
              exact o_retB X0 hx Bd.returns (own_lv X0 hlk (by decide) (by decide)) (hb hby own_d2_55) (by decide) ⟨(by rw [own_f2, if_neg hc1, if_neg hc2, if_pos hc3, if_pos hc4, if_pos hc6, if_pos hc7]), N0, e0⟩
            · skip
              refine o_icmpY (pc' := 54) X0 hx (hb hby own_d2_47) (feq hc7).2 (by decide) (by decide) ?_
              refine o_iconst (z := (0 : Int32)) X0 hx rfl (hb hby own_d2_54) (by decide) ?_
              subst hz5
              exact o_retB X0 hx Bd.returns (own_lv X0 hlk (by decide) (by decide)) (hb hby own_d2_55) (by decide) ⟨(by rw [own_f2, if_neg hc1, if_neg hc2, if_pos hc3, if_pos hc4, if_pos hc6, if_neg hc7]), N0, e0⟩
          · skip
            refine o_icmpN (pc' := 38) X0 hx rfl (hb hby own_d2_35) (flt hc6).1 ?_
            refine o_iloadN X0 hx rfl (hb hby own_d2_38) rfl ?_
            refine o_bipush (z := (122 : Int32)) X0 hx rfl (hb hby own_d2_39) (by decide) ?_
            by_cases hc8 : (122 : Int32) < z5
            · skip
              refine o_icmpN (pc' := 44) X0 hx rfl (hb hby own_d2_41) (tlt hc8).2.2.2 ?_
              refine o_iloadN X0 hx rfl (hb hby own_d2_44) rfl ?_
              refine o_bipush (z := (95 : Int32)) X0 hx rfl (hb hby own_d2_45) (by decide) ?_
              by_cases hc9 : p0 = (95 : Int32)
              · skip
                refine o_icmpN (pc' := 50) X0 hx rfl (hb hby own_d2_47) (teq hc9).2 ?_
                refine o_iconst (z := (1 : Int32)) X0 hx rfl (hb hby own_d2_50) (by decide) ?_
                refine o_goto (pc' := 55) X0 hx (hb hby own_d2_51) (by decide) (by decide) ?_
                subst hz5
                exact o_retB X0 hx Bd.returns (own_lv X0 hlk (by decide) (by decide)) (hb hby own_d2_55) (by decide) ⟨(by rw [own_f2, if_neg hc1, if_neg hc2, if_pos hc3, if_pos hc4, if_neg hc6, if_pos hc8, if_pos hc9]), N0, e0⟩
              · skip
                refine o_icmpY (pc' := 54) X0 hx (hb hby own_d2_47) (feq hc9).2 (by decide) (by decide) ?_
                refine o_iconst (z := (0 : Int32)) X0 hx rfl (hb hby own_d2_54) (by decide) ?_
                subst hz5
                exact o_retB X0 hx Bd.returns (own_lv X0 hlk (by decide) (by decide)) (hb hby own_d2_55) (by decide) ⟨(by rw [own_f2, if_neg hc1, if_neg hc2, if_pos hc3, if_pos hc4, if_neg hc6, if_pos hc8, if_neg hc9]), N0, e0⟩
            · skip
              refine o_icmpY (pc' := 50) X0 hx (hb hby own_d2_41) (flt hc8).2.2.2 (by decide) (by decide) ?_
              refine o_iconst (z := (1 : Int32)) X0 hx rfl (hb hby own_d2_50) (by decide) ?_
              refine o_goto (pc' := 55) X0 hx (hb hby own_d2_51) (by decide) (by decide) ?_
              subst hz5
              exact o_retB X0 hx Bd.returns (own_lv X0 hlk (by decide) (by decide)) (hb hby own_d2_55) (by decide) ⟨(by rw [own_f2, if_neg hc1, if_neg hc2, if_pos hc3, if_pos hc4, if_neg hc6, if_neg hc8]), N0, e0⟩
        · skip
          refine o_icmpY (pc' := 56) X0 hx (hb hby own_d2_24) (flt hc4).2.1 (by decide) (by decide) ?_
          refine o_iloadN X0 hx rfl (hb hby own_d2_56) rfl ?_
          refine o_sipush (z := (768 : Int32)) X0 hx rfl (hb hby own_d2_57) (by decide) ?_
          by_cases hc10 : p0 < (768 : Int32)
          · skip
            refine o_icmpN (pc' := 63) X0 hx rfl (hb hby own_d2_60) (tlt hc10).2.1 ?_
            refine o_iloadN X0 hx rfl (hb hby own_d2_63) rfl ?_
            refine o_sipush (z := (192 : Int32)) X0 hx rfl (hb hby own_d2_64) (by decide) ?_
            by_cases hc11 : p0 < (192 : Int32)
            · skip
              refine o_icmpY (pc' := 88) X0 hx (hb hby own_d2_67) (tlt hc11).1 (by decide) (by decide) ?_
              refine o_iconst (z := (0 : Int32)) X0 hx rfl (hb hby own_d2_88) (by decide) ?_
              exact o_retB X0 hx Bd.returns (own_lv X0 hlk (by decide) (by decide)) (hb hby own_d2_89) (by decide) ⟨(by rw [own_f2, if_neg hc1, if_neg hc2, if_pos hc3, if_neg hc4, if_pos hc10, if_pos hc11]), N0, e0⟩
            · skip
              refine o_icmpN (pc' := 70) X0 hx rfl (hb hby own_d2_67) (flt hc11).1 ?_
              refine o_iloadN X0 hx rfl (hb hby own_d2_70) rfl ?_
              refine o_sipush (z := (215 : Int32)) X0 hx rfl (hb hby own_d2_71) (by decide) ?_
              by_cases hc12 : p0 = (215 : Int32)
              · skip
                refine o_icmpY (pc' := 88) X0 hx (hb hby own_d2_74) (teq hc12).1 (by decide) (by decide) ?_
                refine o_iconst (z := (0 : Int32)) X0 hx rfl (hb hby own_d2_88) (by decide) ?_
                exact o_retB X0 hx Bd.returns (own_lv X0 hlk (by decide) (by decide)) (hb hby own_d2_89) (by decide) ⟨(by rw [own_f2, if_neg hc1, if_neg hc2, if_pos hc3, if_neg hc4, if_pos hc10, if_neg hc11, if_pos hc12]), N0, e0⟩
              · skip
                refine o_icmpN (pc' := 77) X0 hx rfl (hb hby own_d2_74) (feq hc12).1 ?_
                refine o_iloadN X0 hx rfl (hb hby own_d2_77) rfl ?_
                refine o_sipush (z := (247 : Int32)) X0 hx rfl (hb hby own_d2_78) (by decide) ?_
                by_cases hc13 : p0 = (247 : Int32)
                · skip
                  refine o_icmpY (pc' := 88) X0 hx (hb hby own_d2_81) (teq hc13).1 (by decide) (by decide) ?_
                  refine o_iconst (z := (0 : Int32)) X0 hx rfl (hb hby own_d2_88) (by decide) ?_
                  exact o_retB X0 hx Bd.returns (own_lv X0 hlk (by decide) (by decide)) (hb hby own_d2_89) (by decide) ⟨(by rw [own_f2, if_neg hc1, if_neg hc2, if_pos hc3, if_neg hc4, if_pos hc10, if_neg hc11, if_neg hc12, if_pos hc13]), N0, e0⟩
                · skip
                  refine o_icmpN (pc' := 84) X0 hx rfl (hb hby own_d2_81) (feq hc13).1 ?_
                  refine o_iconst (z := (1 : Int32)) X0 hx rfl (hb hby own_d2_84) (by decide) ?_
                  refine o_goto (pc' := 89) X0 hx (hb hby own_d2_85) (by decide) (by decide) ?_
                  exact o_retB X0 hx Bd.returns (own_lv X0 hlk (by decide) (by decide)) (hb hby own_d2_89) (by decide) ⟨(by rw [own_f2, if_neg hc1, if_neg hc2, if_pos hc3, if_neg hc4, if_pos hc10, if_neg hc11, if_neg hc12, if_neg hc13]), N0, e0⟩
          · skip
            refine o_icmpY (pc' := 90) X0 hx (hb hby own_d2_60) (flt hc10).2.1 (by decide) (by decide) ?_
            refine o_iloadN X0 hx rfl (hb hby own_d2_90) rfl ?_
            refine o_sipush (z := (8192 : Int32)) X0 hx rfl (hb hby own_d2_91) (by decide) ?_
            by_cases hc14 : p0 < (8192 : Int32)
            · skip
              refine o_icmpN (pc' := 97) X0 hx rfl (hb hby own_d2_94) (tlt hc14).2.1 ?_
              refine o_iloadN X0 hx rfl (hb hby own_d2_97) rfl ?_
              refine o_sipush (z := (880 : Int32)) X0 hx rfl (hb hby own_d2_98) (by decide) ?_
              by_cases hc15 : p0 < (880 : Int32)
              · skip
                refine o_icmpY (pc' := 115) X0 hx (hb hby own_d2_101) (tlt hc15).1 (by decide) (by decide) ?_
                refine o_iconst (z := (0 : Int32)) X0 hx rfl (hb hby own_d2_115) (by decide) ?_
                exact o_retB X0 hx Bd.returns (own_lv X0 hlk (by decide) (by decide)) (hb hby own_d2_116) (by decide) ⟨(by rw [own_f2, if_neg hc1, if_neg hc2, if_pos hc3, if_neg hc4, if_neg hc10, if_pos hc14, if_pos hc15]), N0, e0⟩
              · skip
                refine o_icmpN (pc' := 104) X0 hx rfl (hb hby own_d2_101) (flt hc15).1 ?_
                refine o_iloadN X0 hx rfl (hb hby own_d2_104) rfl ?_
                refine o_sipush (z := (894 : Int32)) X0 hx rfl (hb hby own_d2_105) (by decide) ?_
                by_cases hc16 : p0 = (894 : Int32)
                · skip
                  refine o_icmpY (pc' := 115) X0 hx (hb hby own_d2_108) (teq hc16).1 (by decide) (by decide) ?_
                  refine o_iconst (z := (0 : Int32)) X0 hx rfl (hb hby own_d2_115) (by decide) ?_
                  exact o_retB X0 hx Bd.returns (own_lv X0 hlk (by decide) (by decide)) (hb hby own_d2_116) (by decide) ⟨(by rw [own_f2, if_neg hc1, if_neg hc2, if_pos hc3, if_neg hc4, if_neg hc10, if_pos hc14, if_neg hc15, if_pos hc16]), N0, e0⟩
                · skip
                  refine o_icmpN (pc' := 111) X0 hx rfl (hb hby own_d2_108) (feq hc16).1 ?_
                  refine o_iconst (z := (1 : Int32)) X0 hx rfl (hb hby own_d2_111) (by decide) ?_
                  refine o_goto (pc' := 116) X0 hx (hb hby own_d2_112) (by decide) (by decide) ?_
                  exact o_retB X0 hx Bd.returns (own_lv X0 hlk (by decide) (by decide)) (hb hby own_d2_116) (by decide) ⟨(by rw [own_f2, if_neg hc1, if_neg hc2, if_pos hc3, if_neg hc4, if_neg hc10, if_pos hc14, if_neg hc15, if_neg hc16]), N0, e0⟩
            · skip
              refine o_icmpY (pc' := 117) X0 hx (hb hby own_d2_94) (flt hc14).2.1 (by decide) (by decide) ?_
              refine o_iloadN X0 hx rfl (hb hby own_d2_117) rfl ?_
              refine o_sipush (z := (12288 : Int32)) X0 hx rfl (hb hby own_d2_118) (by decide) ?_
              by_cases hc17 : p0 < (12288 : Int32)
              · skip
                refine o_icmpN (pc' := 124) X0 hx rfl (hb hby own_d2_121) (tlt hc17).2.1 ?_
                refine o_iloadN X0 hx rfl (hb hby own_d2_124) rfl ?_
                refine o_sipush (z := (8204 : Int32)) X0 hx rfl (hb hby own_d2_125) (by decide) ?_
                by_cases hc18 : p0 = (8204 : Int32)
                · skip
                  refine o_icmpY (pc' := 166) X0 hx (hb hby own_d2_128) (teq hc18).1 (by decide) (by decide) ?_
                  refine o_iconst (z := (1 : Int32)) X0 hx rfl (hb hby own_d2_166) (by decide) ?_
                  refine o_goto (pc' := 171) X0 hx (hb hby own_d2_167) (by decide) (by decide) ?_
                  exact o_retB X0 hx Bd.returns (own_lv X0 hlk (by decide) (by decide)) (hb hby own_d2_171) (by decide) ⟨(by rw [own_f2, if_neg hc1, if_neg hc2, if_pos hc3, if_neg hc4, if_neg hc10, if_neg hc14, if_pos hc17, if_pos hc18]), N0, e0⟩
                · skip
                  refine o_icmpN (pc' := 131) X0 hx rfl (hb hby own_d2_128) (feq hc18).1 ?_
                  refine o_iloadN X0 hx rfl (hb hby own_d2_131) rfl ?_
                  refine o_sipush (z := (8205 : Int32)) X0 hx rfl (hb hby own_d2_132) (by decide) ?_
                  by_cases hc19 : p0 = (8205 : Int32)
                  · skip
                    refine o_icmpY (pc' := 166) X0 hx (hb hby own_d2_135) (teq hc19).1 (by decide) (by decide) ?_
                    refine o_iconst (z := (1 : Int32)) X0 hx rfl (hb hby own_d2_166) (by decide) ?_
                    refine o_goto (pc' := 171) X0 hx (hb hby own_d2_167) (by decide) (by decide) ?_
                    exact o_retB X0 hx Bd.returns (own_lv X0 hlk (by decide) (by decide)) (hb hby own_d2_171) (by decide) ⟨(by rw [own_f2, if_neg hc1, if_neg hc2, if_pos hc3, if_neg hc4, if_neg hc10, if_neg hc14, if_pos hc17, if_neg hc18, if_pos hc19]), N0, e0⟩
                  · skip
                    refine o_icmpN (pc' := 138) X0 hx rfl (hb hby own_d2_135) (feq hc19).1 ?_
                    refine o_iloadN X0 hx rfl (hb hby own_d2_138) rfl ?_
                    refine o_sipush (z := (8304 : Int32)) X0 hx rfl (hb hby own_d2_139) (by decide) ?_
                    by_cases hc20 : p0 < (8304 : Int32)
                    · skip
                      refine o_icmpY (pc' := 152) X0 hx (hb hby own_d2_142) (tlt hc20).1 (by decide) (by decide) ?_
                      refine o_iloadN X0 hx rfl (hb hby own_d2_152) rfl ?_
                      refine o_sipush (z := (11264 : Int32)) X0 hx rfl (hb hby own_d2_153) (by decide) ?_
                      by_cases hc21 : p0 < (11264 : Int32)
                      · skip
                        refine o_icmpY (pc' := 170) X0 hx (hb hby own_d2_156) (tlt hc21).1 (by decide) (by decide) ?_
                        refine o_iconst (z := (0 : Int32)) X0 hx rfl (hb hby own_d2_170) (by decide) ?_
                        exact o_retB X0 hx Bd.returns (own_lv X0 hlk (by decide) (by decide)) (hb hby own_d2_171) (by decide) ⟨(by rw [own_f2, if_neg hc1, if_neg hc2, if_pos hc3, if_neg hc4, if_neg hc10, if_neg hc14, if_pos hc17, if_neg hc18, if_neg hc19, if_pos hc20, if_pos hc21]), N0, e0⟩
                      · skip
                        refine o_icmpN (pc' := 159) X0 hx rfl (hb hby own_d2_156) (flt hc21).1 ?_
                        refine o_iloadN X0 hx rfl (hb hby own_d2_159) rfl ?_
                        refine o_sipush (z := (12271 : Int32)) X0 hx rfl (hb hby own_d2_160) (by decide) ?_
                        by_cases hc22 : (12271 : Int32) < p0
                        · skip
                          refine o_icmpY (pc' := 170) X0 hx (hb hby own_d2_163) (tlt hc22).2.2.1 (by decide) (by decide) ?_
                          refine o_iconst (z := (0 : Int32)) X0 hx rfl (hb hby own_d2_170) (by decide) ?_
                          exact o_retB X0 hx Bd.returns (own_lv X0 hlk (by decide) (by decide)) (hb hby own_d2_171) (by decide) ⟨(by rw [own_f2, if_neg hc1, if_neg hc2, if_pos hc3, if_neg hc4, if_neg hc10, if_neg hc14, if_pos hc17, if_neg hc18, if_neg hc19, if_pos hc20, if_neg hc21, if_pos hc22]), N0, e0⟩
                        · skip
                          refine o_icmpN (pc' := 166) X0 hx rfl (hb hby own_d2_163) (flt hc22).2.2.1 ?_
                          refine o_iconst (z := (1 : Int32)) X0 hx rfl (hb hby own_d2_166) (by decide) ?_
                          refine o_goto (pc' := 171) X0 hx (hb hby own_d2_167) (by decide) (by decide) ?_
                          exact o_retB X0 hx Bd.returns (own_lv X0 hlk (by decide) (by decide)) (hb hby own_d2_171) (by decide) ⟨(by rw [own_f2, if_neg hc1, if_neg hc2, if_pos hc3, if_neg hc4, if_neg hc10, if_neg hc14, if_pos hc17, if_neg hc18, if_neg hc19, if_pos hc20, if_neg hc21, if_neg hc22]), N0, e0⟩
                    · skip
                      refine o_icmpN (pc' := 145) X0 hx rfl (hb hby own_d2_142) (flt hc20).1 ?_
                      refine o_iloadN X0 hx rfl (hb hby own_d2_145) rfl ?_
                      refine o_sipush (z := (8591 : Int32)) X0 hx rfl (hb hby own_d2_146) (by decide) ?_
                      by_cases hc23 : (8591 : Int32) < p0
                      · skip
                        refine o_icmpN (pc' := 152) X0 hx rfl (hb hby own_d2_149) (tlt hc23).2.2.2 ?_
                        refine o_iloadN X0 hx rfl (hb hby own_d2_152) rfl ?_
                        refine o_sipush (z := (11264 : Int32)) X0 hx rfl (hb hby own_d2_153) (by decide) ?_
                        by_cases hc24 : p0 < (11264 : Int32)
                        · skip
                          refine o_icmpY (pc' := 170) X0 hx (hb hby own_d2_156) (tlt hc24).1 (by decide) (by decide) ?_
                          refine o_iconst (z := (0 : Int32)) X0 hx rfl (hb hby own_d2_170) (by decide) ?_
                          exact o_retB X0 hx Bd.returns (own_lv X0 hlk (by decide) (by decide)) (hb hby own_d2_171) (by decide) ⟨(by rw [own_f2, if_neg hc1, if_neg hc2, if_pos hc3, if_neg hc4, if_neg hc10, if_neg hc14, if_pos hc17, if_neg hc18, if_neg hc19, if_neg hc20, if_pos hc23, if_pos hc24]), N0, e0⟩
                        · skip
                          refine o_icmpN (pc' := 159) X0 hx rfl (hb hby own_d2_156) (flt hc24).1 ?_
                          refine o_iloadN X0 hx rfl (hb hby own_d2_159) rfl ?_
                          refine o_sipush (z := (12271 : Int32)) X0 hx rfl (hb hby own_d2_160) (by decide) ?_
                          by_cases hc25 : (12271 : Int32) < p0
                          · skip
                            refine o_icmpY (pc' := 170) X0 hx (hb hby own_d2_163) (tlt hc25).2.2.1 (by decide) (by decide) ?_
                            refine o_iconst (z := (0 : Int32)) X0 hx rfl (hb hby own_d2_170) (by decide) ?_
                            exact o_retB X0 hx Bd.returns (own_lv X0 hlk (by decide) (by decide)) (hb hby own_d2_171) (by decide) ⟨(by rw [own_f2, if_neg hc1, if_neg hc2, if_pos hc3, if_neg hc4, if_neg hc10, if_neg hc14, if_pos hc17, if_neg hc18, if_neg hc19, if_neg hc20, if_pos hc23, if_neg hc24, if_pos hc25]), N0, e0⟩
                          · skip
                            refine o_icmpN (pc' := 166) X0 hx rfl (hb hby own_d2_163) (flt hc25).2.2.1 ?_
                            refine o_iconst (z := (1 : Int32)) X0 hx rfl (hb hby own_d2_166) (by decide) ?_
                            refine o_goto (pc' := 171) X0 hx (hb hby own_d2_167) (by decide) (by decide) ?_
                            exact o_retB X0 hx Bd.returns (own_lv X0 hlk (by decide) (by decide)) (hb hby own_d2_171) (by decide) ⟨(by rw [own_f2, if_neg hc1, if_neg hc2, if_pos hc3, if_neg hc4, if_neg hc10, if_neg hc14, if_pos hc17, if_neg hc18, if_neg hc19, if_neg hc20, if_pos hc23, if_neg hc24, if_neg hc25]), N0, e0⟩
                      · skip
                        refine o_icmpY (pc' := 166) X0 hx (hb hby own_d2_149) (flt hc23).2.2.2 (by decide) (by decide) ?_
                        refine o_iconst (z := (1 : Int32)) X0 hx rfl (hb hby own_d2_166) (by decide) ?_
                        refine o_goto (pc' := 171) X0 hx (hb hby own_d2_167) (by decide) (by decide) ?_
                        exact o_retB X0 hx Bd.returns (own_lv X0 hlk (by decide) (by decide)) (hb hby own_d2_171) (by decide) ⟨(by rw [own_f2, if_neg hc1, if_neg hc2, if_pos hc3, if_neg hc4, if_neg hc10, if_neg hc14, if_pos hc17, if_neg hc18, if_neg hc19, if_neg hc20, if_neg hc23]), N0, e0⟩
              · skip
                refine o_icmpY (pc' := 172) X0 hx (hb hby own_d2_121) (flt hc17).2.1 (by decide) (by decide) ?_
                refine o_iloadN X0 hx rfl (hb hby own_d2_172) rfl ?_
                refine o_ldcI X0 hx rfl (hb hby own_d2_173) hZ hown (hw _ (List.mem_of_getElem? (i := 19) rfl)) ?_
                by_cases hc26 : p0 < (63744 : Int32)
                · skip
                  refine o_icmpN (pc' := 178) X0 hx rfl (hb hby own_d2_175) (tlt hc26).2.1 ?_
                  refine o_iloadN X0 hx rfl (hb hby own_d2_178) rfl ?_
                  refine o_sipush (z := (12289 : Int32)) X0 hx rfl (hb hby own_d2_179) (by decide) ?_
                  by_cases hc27 : p0 < (12289 : Int32)
                  · skip
                    refine o_icmpY (pc' := 195) X0 hx (hb hby own_d2_182) (tlt hc27).1 (by decide) (by decide) ?_
                    refine o_iconst (z := (0 : Int32)) X0 hx rfl (hb hby own_d2_195) (by decide) ?_
                    exact o_retB X0 hx Bd.returns (own_lv X0 hlk (by decide) (by decide)) (hb hby own_d2_196) (by decide) ⟨(by rw [own_f2, if_neg hc1, if_neg hc2, if_pos hc3, if_neg hc4, if_neg hc10, if_neg hc14, if_neg hc17, if_pos hc26, if_pos hc27]), N0, e0⟩
                  · skip
                    refine o_icmpN (pc' := 185) X0 hx rfl (hb hby own_d2_182) (flt hc27).1 ?_
                    refine o_iloadN X0 hx rfl (hb hby own_d2_185) rfl ?_
                    refine o_ldcI X0 hx rfl (hb hby own_d2_186) hZ hown (hw _ (List.mem_of_getElem? (i := 20) rfl)) ?_
                    by_cases hc28 : (55295 : Int32) < p0
                    · skip
                      refine o_icmpY (pc' := 195) X0 hx (hb hby own_d2_188) (tlt hc28).2.2.1 (by decide) (by decide) ?_
                      refine o_iconst (z := (0 : Int32)) X0 hx rfl (hb hby own_d2_195) (by decide) ?_
                      exact o_retB X0 hx Bd.returns (own_lv X0 hlk (by decide) (by decide)) (hb hby own_d2_196) (by decide) ⟨(by rw [own_f2, if_neg hc1, if_neg hc2, if_pos hc3, if_neg hc4, if_neg hc10, if_neg hc14, if_neg hc17, if_pos hc26, if_neg hc27, if_pos hc28]), N0, e0⟩
                    · skip
                      refine o_icmpN (pc' := 191) X0 hx rfl (hb hby own_d2_188) (flt hc28).2.2.1 ?_
                      refine o_iconst (z := (1 : Int32)) X0 hx rfl (hb hby own_d2_191) (by decide) ?_
                      refine o_goto (pc' := 196) X0 hx (hb hby own_d2_192) (by decide) (by decide) ?_
                      exact o_retB X0 hx Bd.returns (own_lv X0 hlk (by decide) (by decide)) (hb hby own_d2_196) (by decide) ⟨(by rw [own_f2, if_neg hc1, if_neg hc2, if_pos hc3, if_neg hc4, if_neg hc10, if_neg hc14, if_neg hc17, if_pos hc26, if_neg hc27, if_neg hc28]), N0, e0⟩
                · skip
                  refine o_icmpY (pc' := 197) X0 hx (hb hby own_d2_175) (flt hc26).2.1 (by decide) (by decide) ?_
                  refine o_iloadN X0 hx rfl (hb hby own_d2_197) rfl ?_
                  refine o_ldcI X0 hx rfl (hb hby own_d2_198) hZ hown (hw _ (List.mem_of_getElem? (i := 21) rfl)) ?_
                  by_cases hc29 : (64975 : Int32) < p0
                  · skip
                    refine o_icmpN (pc' := 203) X0 hx rfl (hb hby own_d2_200) (tlt hc29).2.2.2 ?_
                    refine o_iloadN X0 hx rfl (hb hby own_d2_203) rfl ?_
                    refine o_ldcI X0 hx rfl (hb hby own_d2_204) hZ hown (hw _ (List.mem_of_getElem? (i := 22) rfl)) ?_
                    by_cases hc30 : p0 < (65008 : Int32)
                    · skip
                      refine o_icmpY (pc' := 219) X0 hx (hb hby own_d2_206) (tlt hc30).1 (by decide) (by decide) ?_
                      refine o_iconst (z := (0 : Int32)) X0 hx rfl (hb hby own_d2_219) (by decide) ?_
                      exact o_retB X0 hx Bd.returns (own_lv X0 hlk (by decide) (by decide)) (hb hby own_d2_220) (by decide) ⟨(by rw [own_f2, if_neg hc1, if_neg hc2, if_pos hc3, if_neg hc4, if_neg hc10, if_neg hc14, if_neg hc17, if_neg hc26, if_pos hc29, if_pos hc30]), N0, e0⟩
                    · skip
                      refine o_icmpN (pc' := 209) X0 hx rfl (hb hby own_d2_206) (flt hc30).1 ?_
                      refine o_iloadN X0 hx rfl (hb hby own_d2_209) rfl ?_
                      refine o_ldcI X0 hx rfl (hb hby own_d2_210) hZ hown (hw _ (List.mem_of_getElem? (i := 23) rfl)) ?_
                      by_cases hc31 : (65533 : Int32) < p0
                      · skip
                        refine o_icmpY (pc' := 219) X0 hx (hb hby own_d2_212) (tlt hc31).2.2.1 (by decide) (by decide) ?_
                        refine o_iconst (z := (0 : Int32)) X0 hx rfl (hb hby own_d2_219) (by decide) ?_
                        exact o_retB X0 hx Bd.returns (own_lv X0 hlk (by decide) (by decide)) (hb hby own_d2_220) (by decide) ⟨(by rw [own_f2, if_neg hc1, if_neg hc2, if_pos hc3, if_neg hc4, if_neg hc10, if_neg hc14, if_neg hc17, if_neg hc26, if_pos hc29, if_neg hc30, if_pos hc31]), N0, e0⟩
                      · skip
                        refine o_icmpN (pc' := 215) X0 hx rfl (hb hby own_d2_212) (flt hc31).2.2.1 ?_
                        refine o_iconst (z := (1 : Int32)) X0 hx rfl (hb hby own_d2_215) (by decide) ?_
                        refine o_goto (pc' := 220) X0 hx (hb hby own_d2_216) (by decide) (by decide) ?_
                        exact o_retB X0 hx Bd.returns (own_lv X0 hlk (by decide) (by decide)) (hb hby own_d2_220) (by decide) ⟨(by rw [own_f2, if_neg hc1, if_neg hc2, if_pos hc3, if_neg hc4, if_neg hc10, if_neg hc14, if_neg hc17, if_neg hc26, if_pos hc29, if_neg hc30, if_neg hc31]), N0, e0⟩
                  · skip
                    refine o_icmpY (pc' := 215) X0 hx (hb hby own_d2_200) (flt hc29).2.2.2 (by decide) (by decide) ?_
                    refine o_iconst (z := (1 : Int32)) X0 hx rfl (hb hby own_d2_215) (by decide) ?_
                    refine o_goto (pc' := 220) X0 hx (hb hby own_d2_216) (by decide) (by decide) ?_
                    exact o_retB X0 hx Bd.returns (own_lv X0 hlk (by decide) (by decide)) (hb hby own_d2_220) (by decide) ⟨(by rw [own_f2, if_neg hc1, if_neg hc2, if_pos hc3, if_neg hc4, if_neg hc10, if_neg hc14, if_neg hc17, if_neg hc26, if_neg hc29]), N0, e0⟩
      · skip
        refine o_icmpN (pc' := 18) X0 hx rfl (hb hby own_d2_15) (flt hc3).1 ?_
        refine o_iconst (z := (1 : Int32)) X0 hx rfl (hb hby own_d2_18) (by decide) ?_
        exact o_retB X0 hx Bd.returns (own_lv X0 hlk (by decide) (by decide)) (hb hby own_d2_19) (by decide) ⟨(by rw [own_f2, if_neg hc1, if_neg hc2, if_neg hc3]), N0, e0⟩
theorem own_l0 : (0 : Int32).toInt = 0 := rfl
theorem own_l65 : (65 : Int32).toInt = 65 := rfl
theorem own_l90 : (90 : Int32).toInt = 90 := rfl
theorem own_l95 : (95 : Int32).toInt = 95 := rfl
theorem own_l97 : (97 : Int32).toInt = 97 := rfl
theorem own_l122 : (122 : Int32).toInt = 122 := rfl
theorem own_l128 : (128 : Int32).toInt = 128 := rfl
theorem own_l192 : (192 : Int32).toInt = 192 := rfl
theorem own_l214 : (214 : Int32).toInt = 214 := rfl
theorem own_l215 : (215 : Int32).toInt = 215 := rfl
theorem own_l216 : (216 : Int32).toInt = 216 := rfl
theorem own_l246 : (246 : Int32).toInt = 246 := rfl
theorem own_l247 : (247 : Int32).toInt = 247 := rfl
theorem own_l248 : (248 : Int32).toInt = 248 := rfl
theorem own_l767 : (767 : Int32).toInt = 767 := rfl
theorem own_l768 : (768 : Int32).toInt = 768 := rfl
theorem own_l880 : (880 : Int32).toInt = 880 := rfl
theorem own_l893 : (893 : Int32).toInt = 893 := rfl
theorem own_l894 : (894 : Int32).toInt = 894 := rfl
theorem own_l895 : (895 : Int32).toInt = 895 := rfl
theorem own_l8191 : (8191 : Int32).toInt = 8191 := rfl
theorem own_l8192 : (8192 : Int32).toInt = 8192 := rfl
theorem own_l8204 : (8204 : Int32).toInt = 8204 := rfl
theorem own_l8205 : (8205 : Int32).toInt = 8205 := rfl
theorem own_l8304 : (8304 : Int32).toInt = 8304 := rfl
theorem own_l8591 : (8591 : Int32).toInt = 8591 := rfl
theorem own_l11264 : (11264 : Int32).toInt = 11264 := rfl
theorem own_l12271 : (12271 : Int32).toInt = 12271 := rfl
theorem own_l12288 : (12288 : Int32).toInt = 12288 := rfl
theorem own_l12289 : (12289 : Int32).toInt = 12289 := rfl
theorem own_l55295 : (55295 : Int32).toInt = 55295 := rfl
theorem own_l63744 : (63744 : Int32).toInt = 63744 := rfl
theorem own_l64975 : (64975 : Int32).toInt = 64975 := rfl
theorem own_l65008 : (65008 : Int32).toInt = 65008 := rfl
theorem own_l65533 : (65533 : Int32).toInt = 65533 := rfl
theorem own_l65536 : (65536 : Int32).toInt = 65536 := rfl
theorem own_l983039 : (983039 : Int32).toInt = 983039 := rfl
theorem own_s179 (p0 : Int32) : own_f1_179 p0 = if (65536 ≤ p0.toInt ∧ p0.toInt ≤ 983039) then 1 else 0 := by
  simp only [own_f1_179, Int32.lt_iff_toInt_lt, ← Int32.toInt_inj, own_l0, own_l65, own_l90, own_l95, own_l97, own_l122, own_l128, own_l192, own_l214, own_l215, own_l216, own_l246, own_l247, own_l248, own_l767, own_l768, own_l880, own_l893, own_l894, own_l895, own_l8191, own_l8192, own_l8204, own_l8205, own_l8304, own_l8591, own_l11264, own_l12271, own_l12288, own_l12289, own_l55295, own_l63744, own_l64975, own_l65008, own_l65533, own_l65536, own_l983039]
  (repeat' split) <;> first | rfl | (exfalso; omega)
theorem own_s167 (p0 : Int32) : own_f1_167 p0 = if (65008 ≤ p0.toInt ∧ p0.toInt ≤ 65533) ∨ (65536 ≤ p0.toInt ∧ p0.toInt ≤ 983039) then 1 else 0 := by
  simp only [own_f1_167, own_s179, Int32.lt_iff_toInt_lt, ← Int32.toInt_inj, own_l0, own_l65, own_l90, own_l95, own_l97, own_l122, own_l128, own_l192, own_l214, own_l215, own_l216, own_l246, own_l247, own_l248, own_l767, own_l768, own_l880, own_l893, own_l894, own_l895, own_l8191, own_l8192, own_l8204, own_l8205, own_l8304, own_l8591, own_l11264, own_l12271, own_l12288, own_l12289, own_l55295, own_l63744, own_l64975, own_l65008, own_l65533, own_l65536, own_l983039]
  (repeat' split) <;> first | rfl | (exfalso; omega)
theorem own_s155 (p0 : Int32) : own_f1_155 p0 = if (63744 ≤ p0.toInt ∧ p0.toInt ≤ 64975) ∨ (65008 ≤ p0.toInt ∧ p0.toInt ≤ 65533) ∨ (65536 ≤ p0.toInt ∧ p0.toInt ≤ 983039) then 1 else 0 := by
  simp only [own_f1_155, own_s167, Int32.lt_iff_toInt_lt, ← Int32.toInt_inj, own_l0, own_l65, own_l90, own_l95, own_l97, own_l122, own_l128, own_l192, own_l214, own_l215, own_l216, own_l246, own_l247, own_l248, own_l767, own_l768, own_l880, own_l893, own_l894, own_l895, own_l8191, own_l8192, own_l8204, own_l8205, own_l8304, own_l8591, own_l11264, own_l12271, own_l12288, own_l12289, own_l55295, own_l63744, own_l64975, own_l65008, own_l65533, own_l65536, own_l983039]
  (repeat' split) <;> first | rfl | (exfalso; omega)
theorem own_s142 (p0 : Int32) : own_f1_142 p0 = if (12289 ≤ p0.toInt ∧ p0.toInt ≤ 55295) ∨ (63744 ≤ p0.toInt ∧ p0.toInt ≤ 64975) ∨ (65008 ≤ p0.toInt ∧ p0.toInt ≤ 65533) ∨ (65536 ≤ p0.toInt ∧ p0.toInt ≤ 983039) then 1 else 0 := by
  simp only [own_f1_142, own_s155, Int32.lt_iff_toInt_lt, ← Int32.toInt_inj, own_l0, own_l65, own_l90, own_l95, own_l97, own_l122, own_l128, own_l192, own_l214, own_l215, own_l216, own_l246, own_l247, own_l248, own_l767, own_l768, own_l880, own_l893, own_l894, own_l895, own_l8191, own_l8192, own_l8204, own_l8205, own_l8304, own_l8591, own_l11264, own_l12271, own_l12288, own_l12289, own_l55295, own_l63744, own_l64975, own_l65008, own_l65533, own_l65536, own_l983039]
  (repeat' split) <;> first | rfl | (exfalso; omega)
theorem own_s128 (p0 : Int32) : own_f1_128 p0 = if (11264 ≤ p0.toInt ∧ p0.toInt ≤ 12271) ∨ (12289 ≤ p0.toInt ∧ p0.toInt ≤ 55295) ∨ (63744 ≤ p0.toInt ∧ p0.toInt ≤ 64975) ∨ (65008 ≤ p0.toInt ∧ p0.toInt ≤ 65533) ∨ (65536 ≤ p0.toInt ∧ p0.toInt ≤ 983039) then 1 else 0 := by
  simp only [own_f1_128, own_s142, Int32.lt_iff_toInt_lt, ← Int32.toInt_inj, own_l0, own_l65, own_l90, own_l95, own_l97, own_l122, own_l128, own_l192, own_l214, own_l215, own_l216, own_l246, own_l247, own_l248, own_l767, own_l768, own_l880, own_l893, own_l894, own_l895, own_l8191, own_l8192, own_l8204, own_l8205, own_l8304, own_l8591, own_l11264, own_l12271, own_l12288, own_l12289, own_l55295, own_l63744, own_l64975, own_l65008, own_l65533, own_l65536, own_l983039]
  (repeat' split) <;> first | rfl | (exfalso; omega)
theorem own_s114 (p0 : Int32) : own_f1_114 p0 = if (8304 ≤ p0.toInt ∧ p0.toInt ≤ 8591) ∨ (11264 ≤ p0.toInt ∧ p0.toInt ≤ 12271) ∨ (12289 ≤ p0.toInt ∧ p0.toInt ≤ 55295) ∨ (63744 ≤ p0.toInt ∧ p0.toInt ≤ 64975) ∨ (65008 ≤ p0.toInt ∧ p0.toInt ≤ 65533) ∨ (65536 ≤ p0.toInt ∧ p0.toInt ≤ 983039) then 1 else 0 := by
  simp only [own_f1_114, own_s128, Int32.lt_iff_toInt_lt, ← Int32.toInt_inj, own_l0, own_l65, own_l90, own_l95, own_l97, own_l122, own_l128, own_l192, own_l214, own_l215, own_l216, own_l246, own_l247, own_l248, own_l767, own_l768, own_l880, own_l893, own_l894, own_l895, own_l8191, own_l8192, own_l8204, own_l8205, own_l8304, own_l8591, own_l11264, own_l12271, own_l12288, own_l12289, own_l55295, own_l63744, own_l64975, own_l65008, own_l65533, own_l65536, own_l983039]
  (repeat' split) <;> first | rfl | (exfalso; omega)
theorem own_s100 (p0 : Int32) : own_f1_100 p0 = if (8204 ≤ p0.toInt ∧ p0.toInt ≤ 8205) ∨ (8304 ≤ p0.toInt ∧ p0.toInt ≤ 8591) ∨ (11264 ≤ p0.toInt ∧ p0.toInt ≤ 12271) ∨ (12289 ≤ p0.toInt ∧ p0.toInt ≤ 55295) ∨ (63744 ≤ p0.toInt ∧ p0.toInt ≤ 64975) ∨ (65008 ≤ p0.toInt ∧ p0.toInt ≤ 65533) ∨ (65536 ≤ p0.toInt ∧ p0.toInt ≤ 983039) then 1 else 0 := by
  simp only [own_f1_100, own_s114, Int32.lt_iff_toInt_lt, ← Int32.toInt_inj, own_l0, own_l65, own_l90, own_l95, own_l97, own_l122, own_l128, own_l192, own_l214, own_l215, own_l216, own_l246, own_l247, own_l248, own_l767, own_l768, own_l880, own_l893, own_l894, own_l895, own_l8191, own_l8192, own_l8204, own_l8205, own_l8304, own_l8591, own_l11264, own_l12271, own_l12288, own_l12289, own_l55295, own_l63744, own_l64975, own_l65008, own_l65533, own_l65536, own_l983039]
  (repeat' split) <;> first | rfl | (exfalso; omega)
theorem own_s86 (p0 : Int32) : own_f1_86 p0 = if (895 ≤ p0.toInt ∧ p0.toInt ≤ 8191) ∨ (8204 ≤ p0.toInt ∧ p0.toInt ≤ 8205) ∨ (8304 ≤ p0.toInt ∧ p0.toInt ≤ 8591) ∨ (11264 ≤ p0.toInt ∧ p0.toInt ≤ 12271) ∨ (12289 ≤ p0.toInt ∧ p0.toInt ≤ 55295) ∨ (63744 ≤ p0.toInt ∧ p0.toInt ≤ 64975) ∨ (65008 ≤ p0.toInt ∧ p0.toInt ≤ 65533) ∨ (65536 ≤ p0.toInt ∧ p0.toInt ≤ 983039) then 1 else 0 := by
  simp only [own_f1_86, own_s100, Int32.lt_iff_toInt_lt, ← Int32.toInt_inj, own_l0, own_l65, own_l90, own_l95, own_l97, own_l122, own_l128, own_l192, own_l214, own_l215, own_l216, own_l246, own_l247, own_l248, own_l767, own_l768, own_l880, own_l893, own_l894, own_l895, own_l8191, own_l8192, own_l8204, own_l8205, own_l8304, own_l8591, own_l11264, own_l12271, own_l12288, own_l12289, own_l55295, own_l63744, own_l64975, own_l65008, own_l65533, own_l65536, own_l983039]
  (repeat' split) <;> first | rfl | (exfalso; omega)
theorem own_s72 (p0 : Int32) : own_f1_72 p0 = if (880 ≤ p0.toInt ∧ p0.toInt ≤ 893) ∨ (895 ≤ p0.toInt ∧ p0.toInt ≤ 8191) ∨ (8204 ≤ p0.toInt ∧ p0.toInt ≤ 8205) ∨ (8304 ≤ p0.toInt ∧ p0.toInt ≤ 8591) ∨ (11264 ≤ p0.toInt ∧ p0.toInt ≤ 12271) ∨ (12289 ≤ p0.toInt ∧ p0.toInt ≤ 55295) ∨ (63744 ≤ p0.toInt ∧ p0.toInt ≤ 64975) ∨ (65008 ≤ p0.toInt ∧ p0.toInt ≤ 65533) ∨ (65536 ≤ p0.toInt ∧ p0.toInt ≤ 983039) then 1 else 0 := by
  simp only [own_f1_72, own_s86, Int32.lt_iff_toInt_lt, ← Int32.toInt_inj, own_l0, own_l65, own_l90, own_l95, own_l97, own_l122, own_l128, own_l192, own_l214, own_l215, own_l216, own_l246, own_l247, own_l248, own_l767, own_l768, own_l880, own_l893, own_l894, own_l895, own_l8191, own_l8192, own_l8204, own_l8205, own_l8304, own_l8591, own_l11264, own_l12271, own_l12288, own_l12289, own_l55295, own_l63744, own_l64975, own_l65008, own_l65533, own_l65536, own_l983039]
  (repeat' split) <;> first | rfl | (exfalso; omega)
theorem own_s58 (p0 : Int32) : own_f1_58 p0 = if (248 ≤ p0.toInt ∧ p0.toInt ≤ 767) ∨ (880 ≤ p0.toInt ∧ p0.toInt ≤ 893) ∨ (895 ≤ p0.toInt ∧ p0.toInt ≤ 8191) ∨ (8204 ≤ p0.toInt ∧ p0.toInt ≤ 8205) ∨ (8304 ≤ p0.toInt ∧ p0.toInt ≤ 8591) ∨ (11264 ≤ p0.toInt ∧ p0.toInt ≤ 12271) ∨ (12289 ≤ p0.toInt ∧ p0.toInt ≤ 55295) ∨ (63744 ≤ p0.toInt ∧ p0.toInt ≤ 64975) ∨ (65008 ≤ p0.toInt ∧ p0.toInt ≤ 65533) ∨ (65536 ≤ p0.toInt ∧ p0.toInt ≤ 983039) then 1 else 0 := by
  simp only [own_f1_58, own_s72, Int32.lt_iff_toInt_lt, ← Int32.toInt_inj, own_l0, own_l65, own_l90, own_l95, own_l97, own_l122, own_l128, own_l192, own_l214, own_l215, own_l216, own_l246, own_l247, own_l248, own_l767, own_l768, own_l880, own_l893, own_l894, own_l895, own_l8191, own_l8192, own_l8204, own_l8205, own_l8304, own_l8591, own_l11264, own_l12271, own_l12288, own_l12289, own_l55295, own_l63744, own_l64975, own_l65008, own_l65533, own_l65536, own_l983039]
  (repeat' split) <;> first | rfl | (exfalso; omega)
theorem own_s44 (p0 : Int32) : own_f1_44 p0 = if (216 ≤ p0.toInt ∧ p0.toInt ≤ 246) ∨ (248 ≤ p0.toInt ∧ p0.toInt ≤ 767) ∨ (880 ≤ p0.toInt ∧ p0.toInt ≤ 893) ∨ (895 ≤ p0.toInt ∧ p0.toInt ≤ 8191) ∨ (8204 ≤ p0.toInt ∧ p0.toInt ≤ 8205) ∨ (8304 ≤ p0.toInt ∧ p0.toInt ≤ 8591) ∨ (11264 ≤ p0.toInt ∧ p0.toInt ≤ 12271) ∨ (12289 ≤ p0.toInt ∧ p0.toInt ≤ 55295) ∨ (63744 ≤ p0.toInt ∧ p0.toInt ≤ 64975) ∨ (65008 ≤ p0.toInt ∧ p0.toInt ≤ 65533) ∨ (65536 ≤ p0.toInt ∧ p0.toInt ≤ 983039) then 1 else 0 := by
  simp only [own_f1_44, own_s58, Int32.lt_iff_toInt_lt, ← Int32.toInt_inj, own_l0, own_l65, own_l90, own_l95, own_l97, own_l122, own_l128, own_l192, own_l214, own_l215, own_l216, own_l246, own_l247, own_l248, own_l767, own_l768, own_l880, own_l893, own_l894, own_l895, own_l8191, own_l8192, own_l8204, own_l8205, own_l8304, own_l8591, own_l11264, own_l12271, own_l12288, own_l12289, own_l55295, own_l63744, own_l64975, own_l65008, own_l65533, own_l65536, own_l983039]
  (repeat' split) <;> first | rfl | (exfalso; omega)
theorem own_s30 (p0 : Int32) : own_f1_30 p0 = if (192 ≤ p0.toInt ∧ p0.toInt ≤ 214) ∨ (216 ≤ p0.toInt ∧ p0.toInt ≤ 246) ∨ (248 ≤ p0.toInt ∧ p0.toInt ≤ 767) ∨ (880 ≤ p0.toInt ∧ p0.toInt ≤ 893) ∨ (895 ≤ p0.toInt ∧ p0.toInt ≤ 8191) ∨ (8204 ≤ p0.toInt ∧ p0.toInt ≤ 8205) ∨ (8304 ≤ p0.toInt ∧ p0.toInt ≤ 8591) ∨ (11264 ≤ p0.toInt ∧ p0.toInt ≤ 12271) ∨ (12289 ≤ p0.toInt ∧ p0.toInt ≤ 55295) ∨ (63744 ≤ p0.toInt ∧ p0.toInt ≤ 64975) ∨ (65008 ≤ p0.toInt ∧ p0.toInt ≤ 65533) ∨ (65536 ≤ p0.toInt ∧ p0.toInt ≤ 983039) then 1 else 0 := by
  simp only [own_f1_30, own_s44, Int32.lt_iff_toInt_lt, ← Int32.toInt_inj, own_l0, own_l65, own_l90, own_l95, own_l97, own_l122, own_l128, own_l192, own_l214, own_l215, own_l216, own_l246, own_l247, own_l248, own_l767, own_l768, own_l880, own_l893, own_l894, own_l895, own_l8191, own_l8192, own_l8204, own_l8205, own_l8304, own_l8591, own_l11264, own_l12271, own_l12288, own_l12289, own_l55295, own_l63744, own_l64975, own_l65008, own_l65533, own_l65536, own_l983039]
  (repeat' split) <;> first | rfl | (exfalso; omega)
theorem own_s24 (p0 : Int32) : own_f1_24 p0 = if (95 ≤ p0.toInt ∧ p0.toInt ≤ 95) ∨ (192 ≤ p0.toInt ∧ p0.toInt ≤ 214) ∨ (216 ≤ p0.toInt ∧ p0.toInt ≤ 246) ∨ (248 ≤ p0.toInt ∧ p0.toInt ≤ 767) ∨ (880 ≤ p0.toInt ∧ p0.toInt ≤ 893) ∨ (895 ≤ p0.toInt ∧ p0.toInt ≤ 8191) ∨ (8204 ≤ p0.toInt ∧ p0.toInt ≤ 8205) ∨ (8304 ≤ p0.toInt ∧ p0.toInt ≤ 8591) ∨ (11264 ≤ p0.toInt ∧ p0.toInt ≤ 12271) ∨ (12289 ≤ p0.toInt ∧ p0.toInt ≤ 55295) ∨ (63744 ≤ p0.toInt ∧ p0.toInt ≤ 64975) ∨ (65008 ≤ p0.toInt ∧ p0.toInt ≤ 65533) ∨ (65536 ≤ p0.toInt ∧ p0.toInt ≤ 983039) then 1 else 0 := by
  simp only [own_f1_24, own_s30, Int32.lt_iff_toInt_lt, ← Int32.toInt_inj, own_l0, own_l65, own_l90, own_l95, own_l97, own_l122, own_l128, own_l192, own_l214, own_l215, own_l216, own_l246, own_l247, own_l248, own_l767, own_l768, own_l880, own_l893, own_l894, own_l895, own_l8191, own_l8192, own_l8204, own_l8205, own_l8304, own_l8591, own_l11264, own_l12271, own_l12288, own_l12289, own_l55295, own_l63744, own_l64975, own_l65008, own_l65533, own_l65536, own_l983039]
  (repeat' split) <;> first | rfl | (exfalso; omega)
theorem own_s12 (p0 : Int32) : own_f1_12 p0 = if (65 ≤ p0.toInt ∧ p0.toInt ≤ 90) ∨ (95 ≤ p0.toInt ∧ p0.toInt ≤ 95) ∨ (192 ≤ p0.toInt ∧ p0.toInt ≤ 214) ∨ (216 ≤ p0.toInt ∧ p0.toInt ≤ 246) ∨ (248 ≤ p0.toInt ∧ p0.toInt ≤ 767) ∨ (880 ≤ p0.toInt ∧ p0.toInt ≤ 893) ∨ (895 ≤ p0.toInt ∧ p0.toInt ≤ 8191) ∨ (8204 ≤ p0.toInt ∧ p0.toInt ≤ 8205) ∨ (8304 ≤ p0.toInt ∧ p0.toInt ≤ 8591) ∨ (11264 ≤ p0.toInt ∧ p0.toInt ≤ 12271) ∨ (12289 ≤ p0.toInt ∧ p0.toInt ≤ 55295) ∨ (63744 ≤ p0.toInt ∧ p0.toInt ≤ 64975) ∨ (65008 ≤ p0.toInt ∧ p0.toInt ≤ 65533) ∨ (65536 ≤ p0.toInt ∧ p0.toInt ≤ 983039) then 1 else 0 := by
  simp only [own_f1_12, own_s24, Int32.lt_iff_toInt_lt, ← Int32.toInt_inj, own_l0, own_l65, own_l90, own_l95, own_l97, own_l122, own_l128, own_l192, own_l214, own_l215, own_l216, own_l246, own_l247, own_l248, own_l767, own_l768, own_l880, own_l893, own_l894, own_l895, own_l8191, own_l8192, own_l8204, own_l8205, own_l8304, own_l8591, own_l11264, own_l12271, own_l12288, own_l12289, own_l55295, own_l63744, own_l64975, own_l65008, own_l65533, own_l65536, own_l983039]
  (repeat' split) <;> first | rfl | (exfalso; omega)
theorem own_s0 (p0 : Int32) : own_f1 p0 = if (97 ≤ p0.toInt ∧ p0.toInt ≤ 122) ∨ (65 ≤ p0.toInt ∧ p0.toInt ≤ 90) ∨ (95 ≤ p0.toInt ∧ p0.toInt ≤ 95) ∨ (192 ≤ p0.toInt ∧ p0.toInt ≤ 214) ∨ (216 ≤ p0.toInt ∧ p0.toInt ≤ 246) ∨ (248 ≤ p0.toInt ∧ p0.toInt ≤ 767) ∨ (880 ≤ p0.toInt ∧ p0.toInt ≤ 893) ∨ (895 ≤ p0.toInt ∧ p0.toInt ≤ 8191) ∨ (8204 ≤ p0.toInt ∧ p0.toInt ≤ 8205) ∨ (8304 ≤ p0.toInt ∧ p0.toInt ≤ 8591) ∨ (11264 ≤ p0.toInt ∧ p0.toInt ≤ 12271) ∨ (12289 ≤ p0.toInt ∧ p0.toInt ≤ 55295) ∨ (63744 ≤ p0.toInt ∧ p0.toInt ≤ 64975) ∨ (65008 ≤ p0.toInt ∧ p0.toInt ≤ 65533) ∨ (65536 ≤ p0.toInt ∧ p0.toInt ≤ 983039) then 1 else 0 := by
  simp only [own_f1, own_s12, Int32.lt_iff_toInt_lt, ← Int32.toInt_inj, own_l0, own_l65, own_l90, own_l95, own_l97, own_l122, own_l128, own_l192, own_l214, own_l215, own_l216, own_l246, own_l247, own_l248, own_l767, own_l768, own_l880, own_l893, own_l894, own_l895, own_l8191, own_l8192, own_l8204, own_l8205, own_l8304, own_l8591, own_l11264, own_l12271, own_l12288, own_l12289, own_l55295, own_l63744, own_l64975, own_l65008, own_l65533, own_l65536, own_l983039]
  (repeat' split) <;> first | rfl | (exfalso; omega)
theorem own_low (x : Int32) (h0 : 0 ≤ x.toInt) (h1 : x.toInt < 128) : (97 ≤ (x ||| (32 : Int32)).toInt ∧ (x ||| (32 : Int32)).toInt ≤ 122) ↔ ((65 ≤ x.toInt ∧ x.toInt ≤ 90) ∨ (97 ≤ x.toInt ∧ x.toInt ≤ 122)) := by
  have key : ∀ k : Fin 128, (97 ≤ (Int32.ofInt (k.1 : Int) ||| (32 : Int32)).toInt ∧ (Int32.ofInt (k.1 : Int) ||| (32 : Int32)).toInt ≤ 122) ↔ ((65 ≤ (Int32.ofInt (k.1 : Int)).toInt ∧ (Int32.ofInt (k.1 : Int)).toInt ≤ 90) ∨ (97 ≤ (Int32.ofInt (k.1 : Int)).toInt ∧ (Int32.ofInt (k.1 : Int)).toInt ≤ 122)) := by decide +kernel
  have e : Int32.ofInt ((x.toInt.toNat : Nat) : Int) = x := by
    rw [Int.toNat_of_nonneg h0]; exact Int32.ofInt_toInt x
  have := key ⟨x.toInt.toNat, by omega⟩
  simp only [e] at this
  exact this
def own_R (x : Int32) (P : Prop) : Prop := (P ∧ x = 1) ∨ (¬ P ∧ x = 0)
theorem own_iteR {c : Prop} [Decidable c] {a b : Int32} {P : Prop} (h1 : c → own_R a P) (h2 : ¬ c → own_R b P) : own_R (if c then a else b) P := by
  by_cases h : c
  · rw [if_pos h]; exact h1 h
  · rw [if_neg h]; exact h2 h
theorem own_t (p0 : Int32) : own_f2 p0 = if (97 ≤ p0.toInt ∧ p0.toInt ≤ 122) ∨ (65 ≤ p0.toInt ∧ p0.toInt ≤ 90) ∨ (95 ≤ p0.toInt ∧ p0.toInt ≤ 95) ∨ (192 ≤ p0.toInt ∧ p0.toInt ≤ 214) ∨ (216 ≤ p0.toInt ∧ p0.toInt ≤ 246) ∨ (248 ≤ p0.toInt ∧ p0.toInt ≤ 767) ∨ (880 ≤ p0.toInt ∧ p0.toInt ≤ 893) ∨ (895 ≤ p0.toInt ∧ p0.toInt ≤ 8191) ∨ (8204 ≤ p0.toInt ∧ p0.toInt ≤ 8205) ∨ (8304 ≤ p0.toInt ∧ p0.toInt ≤ 8591) ∨ (11264 ≤ p0.toInt ∧ p0.toInt ≤ 12271) ∨ (12289 ≤ p0.toInt ∧ p0.toInt ≤ 55295) ∨ (63744 ≤ p0.toInt ∧ p0.toInt ≤ 64975) ∨ (65008 ≤ p0.toInt ∧ p0.toInt ≤ 65533) ∨ (65536 ≤ p0.toInt ∧ p0.toInt ≤ 983039) then 1 else 0 := by
  have k : own_R (own_f2 p0) ((97 ≤ p0.toInt ∧ p0.toInt ≤ 122) ∨ (65 ≤ p0.toInt ∧ p0.toInt ≤ 90) ∨ (95 ≤ p0.toInt ∧ p0.toInt ≤ 95) ∨ (192 ≤ p0.toInt ∧ p0.toInt ≤ 214) ∨ (216 ≤ p0.toInt ∧ p0.toInt ≤ 246) ∨ (248 ≤ p0.toInt ∧ p0.toInt ≤ 767) ∨ (880 ≤ p0.toInt ∧ p0.toInt ≤ 893) ∨ (895 ≤ p0.toInt ∧ p0.toInt ≤ 8191) ∨ (8204 ≤ p0.toInt ∧ p0.toInt ≤ 8205) ∨ (8304 ≤ p0.toInt ∧ p0.toInt ≤ 8591) ∨ (11264 ≤ p0.toInt ∧ p0.toInt ≤ 12271) ∨ (12289 ≤ p0.toInt ∧ p0.toInt ≤ 55295) ∨ (63744 ≤ p0.toInt ∧ p0.toInt ≤ 64975) ∨ (65008 ≤ p0.toInt ∧ p0.toInt ≤ 65533) ∨ (65536 ≤ p0.toInt ∧ p0.toInt ≤ 983039)) := by
    have hl := own_low p0
    simp only [own_f2, Int32.lt_iff_toInt_lt, ← Int32.toInt_inj, own_l0, own_l65, own_l90, own_l95, own_l97, own_l122, own_l128, own_l192, own_l214, own_l215, own_l216, own_l246, own_l247, own_l248, own_l767, own_l768, own_l880, own_l893, own_l894, own_l895, own_l8191, own_l8192, own_l8204, own_l8205, own_l8304, own_l8591, own_l11264, own_l12271, own_l12288, own_l12289, own_l55295, own_l63744, own_l64975, own_l65008, own_l65533, own_l65536, own_l983039]
    generalize (p0 ||| (32 : Int32)).toInt = lo at hl ⊢
    repeat' (refine own_iteR (fun h => ?_) (fun h => ?_))
    all_goals first | exact Or.inl ⟨by omega, rfl⟩ | exact Or.inr ⟨by omega, rfl⟩
  rcases k with ⟨a, b⟩ | ⟨a, b⟩
  · rw [if_pos a]; exact b
  · rw [if_neg a]; exact b
theorem own_law (p0 : Int32) : own_f1 p0 = own_f2 p0 := by rw [own_s0, own_t]
theorem own_pd0 : parseMethodDescriptor "(I)Z" = some ⟨[.int], some .boolean⟩ := by decide +kernel
theorem own_ef0 (m : MethodId) (p0 : Int32) (p1 : Int32) (p2 : Int32) : entryFrame m #[(.int p0), (.int p1), (.int p2)] maxLocals = mkF m 0 #[.val (.int p0), .val (.int p1), .val (.int p2), .unset, .unset, .unset, .unset, .unset] [] := by first | (simp [entryFrame, mkF, argsToLocals, Value.category, maxLocals]; done) | rfl
def own_Q0 (Z : State) (p0 : Int32) (p1 : Int32) (p2 : Int32) (h0 : Heap) (n0 : Nat) (v : Option Value) (h : Heap) (L : List Loc) : Prop := v = some (.int (1 : Int32)) ∧ Fr n0 L
set_option maxRecDepth 65536 in
set_option maxHeartbeats 40000000 in
theorem own_rm0 (l : Launch) (Z : State) (aA : Array Value) (hw : ∀ d ∈ tables_1, d.before aA Z = true) (ws : List Jvm.Cond) (p0 : Int32) (p1 : Int32) (p2 : Int32) (h0 : Heap) (n0 : Nat) (Z0 : n0 ≤ h0.size) :
    MetFree l x (head1 (Jvm.Cond.code x code maxLocals ret :: ws) room_1) (fun a U => a = #[(.int p0), (.int p1), (.int p2)] ∧ Z.Warmed39 U.vm ∧ U.heap = h0) (fun _ _ _ _ _ => True) (fun _ U o U' => ∃ v L, o = .returned v ∧ own_Q0 Z p0 p1 p2 h0 n0 v U'.heap L ∧ FrameEnd U o U' L room_1.cells room_1.slots) := by
  refine MetFree.of_bodySF (plainFor_of_name own_pn204) hisR ?_
  intro p e s m args below meth c s₁ Bd hml0 hP hK
  obtain ⟨rfl, hZ, hh⟩ := hP
  have hx := Bd.exec
  have hby := Bd.bytes
  have hlk : meth.locks = false := Bd.notSynchronized
  have hml : c.maxLocals = 8 := hml0
  have hown : s.vm.findClass "com/example/nodeset/nodeset/XmlNamesIsNameStartPinLaw" = some m.cls := findClass_of_methodNamed Bd.named
  have hnm := (name_of_methodNamed Bd.named Bd.method).1
  have X0 : Stand p l e room_1 s m #[(.int p0), (.int p1), (.int p2)] below meth c s₁ [] 0 0 := Stand.of_body Bd
  have e0 : s₁.heap = h0 := by rw [← hh, Bd.state]; rfl
  have N0 := Fr.nil n0
  show OG p e below (FE s room_1.cells room_1.slots) (own_Q0 Z p0 p1 p2 h0 n0) (s₁.setTop (entryFrame m #[(.int p0), (.int p1), (.int p2)] maxLocals))
  refine og_of (fun _ k => castTop (own_ef0 m p0 p1 p2) k) ?_
  refine o_iloadN X0 hx rfl (hb hby at_0) rfl ?_
  refine o_ldcI X0 hx rfl (hb hby at_1) hZ hown (hw _ (List.mem_of_getElem? (i := 0) rfl)) ?_
  obtain ⟨z1, hz1⟩ : ∃ z : Int32, p1 &&& (65535 : Int32) = z := ⟨_, rfl⟩
  refine o_iand (z := z1) X0 hx rfl (hb hby at_3) hz1 ?_
  refine o_istoreN X0 hx rfl (hb hby at_4) (L' := #[.val (.int p0), .val (.int p1), .val (.int p2), .val (.int z1), .unset, .unset, .unset, .unset]) rfl ?_
  refine o_iloadN X0 hx rfl (hb hby at_5) rfl ?_
  refine o_ldcI X0 hx rfl (hb hby at_6) hZ hown (hw _ (List.mem_of_getElem? (i := 1) rfl)) ?_
  obtain ⟨z2, hz2⟩ : ∃ z : Int32, p2 &&& (1048575 : Int32) = z := ⟨_, rfl⟩
  refine o_iand (z := z2) X0 hx rfl (hb hby at_8) hz2 ?_
  refine o_istore X0 hx rfl (hb hby at_9) (L' := #[.val (.int p0), .val (.int p1), .val (.int p2), .val (.int z1), .val (.int z2), .unset, .unset, .unset]) rfl ?_
  refine o_iloadN X0 hx rfl (hb hby at_11) rfl ?_
  obtain ⟨_, _, ⟨T3, L3, k3, n3⟩, -, X3, ⟨Lc3, hQ3, l3, y3, z3⟩, st3⟩ := Jvm.LawKit.callS X0 hx (y := (⟨"com/example/nodeset/nodeset/XmlNames", "isNameStart", "(I)Z"⟩ : MethodName)) hown (mvT hZ (hw _ (List.mem_of_getElem? (i := 2) rfl))) (mvT hZ (hw _ (List.mem_of_getElem? (i := 3) rfl))) (mvT hZ (hw _ (List.mem_of_getElem? (i := 4) rfl))) (mvT hZ (hw _ (List.mem_of_getElem? (i := 5) rfl))) (by decide) (backOf (W := 0) (own_rm1 l Z aA hw [] p0 h0 n0 Z0) hZ (hw _ (List.mem_of_getElem? (i := 5) rfl)) (hw _ (List.mem_of_getElem? (i := 4) rfl)) (by decide) (by decide)) (g := (mkF m 12 #[.val (.int p0), .val (.int p1), .val (.int p2), .val (.int z1), .val (.int z2), .unset, .unset, .unset] [(.int p0)])) rfl (by rw [hml]; rfl) (argsL := [(.int p0)]) (rest := []) (lenOf own_pd0 rfl) rfl (by show 2 * 0 + _ ≤ _; exact Nat.le_of_eq rfl) (hb hby at_12) (fun _ _ => ⟨rfl, e0, Nat.le_of_ble_eq_true rfl, Nat.le_of_ble_eq_true rfl⟩)
  dsimp only [Pt.U, Pt.locs, Pt.cells, Pt.slots] at X3 l3 y3 z3 st3 hQ3
  subst l3 y3 z3
  obtain ⟨rfl, N3q, ee3⟩ := hQ3
  have N4 := Fr.app N0 N3q
  refine og_of st3 ?_
  show OG p e below _ _ (T3.setTop (mkF m 15 #[.val (.int p0), .val (.int p1), .val (.int p2), .val (.int z1), .val (.int z2), .unset, .unset, .unset] [(.int (own_f1 p0))]))
  refine o_iloadN X3 hx rfl (hb hby at_15) rfl ?_
  obtain ⟨_, _, ⟨T5, L5, k5, n5⟩, -, X5, ⟨Lc5, hQ5, l5, y5, z5⟩, st5⟩ := Jvm.LawKit.callS X3 hx (y := (⟨"com/example/nodeset/nodeset/XmlNamesIsNameStartPinLaw", "ref", "(I)Z"⟩ : MethodName)) hown (mvT hZ (hw _ (List.mem_of_getElem? (i := 9) rfl))) (mvT hZ (hw _ (List.mem_of_getElem? (i := 10) rfl))) (mvT hZ (hw _ (List.mem_of_getElem? (i := 11) rfl))) (mvT hZ (hw _ (List.mem_of_getElem? (i := 12) rfl))) (by decide) (backOf (W := 1) (own_rm2 l Z aA hw [] p0 h0 n0 Z0) hZ (hw _ (List.mem_of_getElem? (i := 12) rfl)) (hw _ (List.mem_of_getElem? (i := 11) rfl)) (by decide) (by decide)) (g := (mkF m 16 #[.val (.int p0), .val (.int p1), .val (.int p2), .val (.int z1), .val (.int z2), .unset, .unset, .unset] [(.int p0), (.int (own_f1 p0))])) rfl (by rw [hml]; rfl) (argsL := [(.int p0)]) (rest := [(.int (own_f1 p0))]) (lenOf own_pd0 rfl) rfl (by show 2 * 0 + _ ≤ _; exact Nat.le_of_eq rfl) (hb hby at_16) (fun _ _ => ⟨rfl, ee3, Nat.le_of_ble_eq_true rfl, Nat.le_of_ble_eq_true rfl⟩)
  dsimp only [Pt.U, Pt.locs, Pt.cells, Pt.slots] at X5 l5 y5 z5 st5 hQ5
  subst l5 y5 z5
  obtain ⟨rfl, N5q, ee5⟩ := hQ5
  have N6 := Fr.app N4 N5q
  refine og_of st5 ?_
  show OG p e below _ _ (T5.setTop (mkF m 19 #[.val (.int p0), .val (.int p1), .val (.int p2), .val (.int z1), .val (.int z2), .unset, .unset, .unset] [(.int (own_f2 p0)), (.int (own_f1 p0))]))
  have hk7 : (own_f1 p0) = (own_f2 p0) := own_law _
  refine o_icmpN (pc' := 22) X5 hx rfl (hb hby at_19) (teq hk7).2 ?_
  refine o_iconst (z := (1 : Int32)) X5 hx rfl (hb hby at_22) (by decide) ?_
  refine o_goto (pc' := 27) X5 hx (hb hby at_23) (by decide) (by decide) ?_
  refine o_istore X5 hx rfl (hb hby at_27) (L' := #[.val (.int p0), .val (.int p1), .val (.int p2), .val (.int z1), .val (.int z2), .val (.int (1 : Int32)), .unset, .unset]) rfl ?_
  refine o_iloadN X5 hx rfl (hb hby at_29) rfl ?_
  obtain ⟨_, _, ⟨T8, L8, k8, n8⟩, -, X8, ⟨Lc8, hQ8, l8, y8, z8⟩, st8⟩ := Jvm.LawKit.callS X5 hx (y := (⟨"com/example/nodeset/nodeset/XmlNames", "isNameStart", "(I)Z"⟩ : MethodName)) hown (mvT hZ (hw _ (List.mem_of_getElem? (i := 2) rfl))) (mvT hZ (hw _ (List.mem_of_getElem? (i := 3) rfl))) (mvT hZ (hw _ (List.mem_of_getElem? (i := 4) rfl))) (mvT hZ (hw _ (List.mem_of_getElem? (i := 5) rfl))) (by decide) (backOf (W := 0) (own_rm1 l Z aA hw [] z1 h0 n0 Z0) hZ (hw _ (List.mem_of_getElem? (i := 5) rfl)) (hw _ (List.mem_of_getElem? (i := 4) rfl)) (by decide) (by decide)) (g := (mkF m 30 #[.val (.int p0), .val (.int p1), .val (.int p2), .val (.int z1), .val (.int z2), .val (.int (1 : Int32)), .unset, .unset] [(.int z1)])) rfl (by rw [hml]; rfl) (argsL := [(.int z1)]) (rest := []) (lenOf own_pd0 rfl) rfl (by show 2 * 0 + _ ≤ _; exact Nat.le_of_eq rfl) (hb hby at_30) (fun _ _ => ⟨rfl, ee5, Nat.le_of_ble_eq_true rfl, Nat.le_of_ble_eq_true rfl⟩)
  dsimp only [Pt.U, Pt.locs, Pt.cells, Pt.slots] at X8 l8 y8 z8 st8 hQ8
  subst l8 y8 z8
  obtain ⟨rfl, N8q, ee8⟩ := hQ8
  have N9 := Fr.app N6 N8q
  refine og_of st8 ?_
  show OG p e below _ _ (T8.setTop (mkF m 33 #[.val (.int p0), .val (.int p1), .val (.int p2), .val (.int z1), .val (.int z2), .val (.int (1 : Int32)), .unset, .unset] [(.int (own_f1 z1))]))
  refine o_iloadN X8 hx rfl (hb hby at_33) rfl ?_
  obtain ⟨_, _, ⟨T10, L10, k10, n10⟩, -, X10, ⟨Lc10, hQ10, l10, y10, z10⟩, st10⟩ := Jvm.LawKit.callS X8 hx (y := (⟨"com/example/nodeset/nodeset/XmlNamesIsNameStartPinLaw", "ref", "(I)Z"⟩ : MethodName)) hown (mvT hZ (hw _ (List.mem_of_getElem? (i := 9) rfl))) (mvT hZ (hw _ (List.mem_of_getElem? (i := 10) rfl))) (mvT hZ (hw _ (List.mem_of_getElem? (i := 11) rfl))) (mvT hZ (hw _ (List.mem_of_getElem? (i := 12) rfl))) (by decide) (backOf (W := 1) (own_rm2 l Z aA hw [] z1 h0 n0 Z0) hZ (hw _ (List.mem_of_getElem? (i := 12) rfl)) (hw _ (List.mem_of_getElem? (i := 11) rfl)) (by decide) (by decide)) (g := (mkF m 34 #[.val (.int p0), .val (.int p1), .val (.int p2), .val (.int z1), .val (.int z2), .val (.int (1 : Int32)), .unset, .unset] [(.int z1), (.int (own_f1 z1))])) rfl (by rw [hml]; rfl) (argsL := [(.int z1)]) (rest := [(.int (own_f1 z1))]) (lenOf own_pd0 rfl) rfl (by show 2 * 0 + _ ≤ _; exact Nat.le_of_eq rfl) (hb hby at_34) (fun _ _ => ⟨rfl, ee8, Nat.le_of_ble_eq_true rfl, Nat.le_of_ble_eq_true rfl⟩)
  dsimp only [Pt.U, Pt.locs, Pt.cells, Pt.slots] at X10 l10 y10 z10 st10 hQ10
  subst l10 y10 z10
  obtain ⟨rfl, N10q, ee10⟩ := hQ10
  have N11 := Fr.app N9 N10q
  refine og_of st10 ?_
  show OG p e below _ _ (T10.setTop (mkF m 37 #[.val (.int p0), .val (.int p1), .val (.int p2), .val (.int z1), .val (.int z2), .val (.int (1 : Int32)), .unset, .unset] [(.int (own_f2 z1)), (.int (own_f1 z1))]))
  have hk12 : (own_f1 z1) = (own_f2 z1) := own_law _
  refine o_icmpN (pc' := 40) X10 hx rfl (hb hby at_37) (teq hk12).2 ?_
  refine o_iconst (z := (1 : Int32)) X10 hx rfl (hb hby at_40) (by decide) ?_
  refine o_goto (pc' := 45) X10 hx (hb hby at_41) (by decide) (by decide) ?_
  refine o_istore X10 hx rfl (hb hby at_45) (L' := #[.val (.int p0), .val (.int p1), .val (.int p2), .val (.int z1), .val (.int z2), .val (.int (1 : Int32)), .val (.int (1 : Int32)), .unset]) rfl ?_
  refine o_iload X10 hx rfl (hb hby at_47) rfl ?_
  obtain ⟨_, _, ⟨T13, L13, k13, n13⟩, -, X13, ⟨Lc13, hQ13, l13, y13, z13⟩, st13⟩ := Jvm.LawKit.callS X10 hx (y := (⟨"com/example/nodeset/nodeset/XmlNames", "isNameStart", "(I)Z"⟩ : MethodName)) hown (mvT hZ (hw _ (List.mem_of_getElem? (i := 2) rfl))) (mvT hZ (hw _ (List.mem_of_getElem? (i := 3) rfl))) (mvT hZ (hw _ (List.mem_of_getElem? (i := 4) rfl))) (mvT hZ (hw _ (List.mem_of_getElem? (i := 5) rfl))) (by decide) (backOf (W := 0) (own_rm1 l Z aA hw [] z2 h0 n0 Z0) hZ (hw _ (List.mem_of_getElem? (i := 5) rfl)) (hw _ (List.mem_of_getElem? (i := 4) rfl)) (by decide) (by decide)) (g := (mkF m 49 #[.val (.int p0), .val (.int p1), .val (.int p2), .val (.int z1), .val (.int z2), .val (.int (1 : Int32)), .val (.int (1 : Int32)), .unset] [(.int z2)])) rfl (by rw [hml]; rfl) (argsL := [(.int z2)]) (rest := []) (lenOf own_pd0 rfl) rfl (by show 2 * 0 + _ ≤ _; exact Nat.le_of_eq rfl) (hb hby at_49) (fun _ _ => ⟨rfl, ee10, Nat.le_of_ble_eq_true rfl, Nat.le_of_ble_eq_true rfl⟩)
  dsimp only [Pt.U, Pt.locs, Pt.cells, Pt.slots] at X13 l13 y13 z13 st13 hQ13
  subst l13 y13 z13
  obtain ⟨rfl, N13q, ee13⟩ := hQ13
  have N14 := Fr.app N11 N13q
  refine og_of st13 ?_
  show OG p e below _ _ (T13.setTop (mkF m 52 #[.val (.int p0), .val (.int p1), .val (.int p2), .val (.int z1), .val (.int z2), .val (.int (1 : Int32)), .val (.int (1 : Int32)), .unset] [(.int (own_f1 z2))]))
  refine o_iload X13 hx rfl (hb hby at_52) rfl ?_
  obtain ⟨_, _, ⟨T15, L15, k15, n15⟩, -, X15, ⟨Lc15, hQ15, l15, y15, z15⟩, st15⟩ := Jvm.LawKit.callS X13 hx (y := (⟨"com/example/nodeset/nodeset/XmlNamesIsNameStartPinLaw", "ref", "(I)Z"⟩ : MethodName)) hown (mvT hZ (hw _ (List.mem_of_getElem? (i := 9) rfl))) (mvT hZ (hw _ (List.mem_of_getElem? (i := 10) rfl))) (mvT hZ (hw _ (List.mem_of_getElem? (i := 11) rfl))) (mvT hZ (hw _ (List.mem_of_getElem? (i := 12) rfl))) (by decide) (backOf (W := 1) (own_rm2 l Z aA hw [] z2 h0 n0 Z0) hZ (hw _ (List.mem_of_getElem? (i := 12) rfl)) (hw _ (List.mem_of_getElem? (i := 11) rfl)) (by decide) (by decide)) (g := (mkF m 54 #[.val (.int p0), .val (.int p1), .val (.int p2), .val (.int z1), .val (.int z2), .val (.int (1 : Int32)), .val (.int (1 : Int32)), .unset] [(.int z2), (.int (own_f1 z2))])) rfl (by rw [hml]; rfl) (argsL := [(.int z2)]) (rest := [(.int (own_f1 z2))]) (lenOf own_pd0 rfl) rfl (by show 2 * 0 + _ ≤ _; exact Nat.le_of_eq rfl) (hb hby at_54) (fun _ _ => ⟨rfl, ee13, Nat.le_of_ble_eq_true rfl, Nat.le_of_ble_eq_true rfl⟩)
  dsimp only [Pt.U, Pt.locs, Pt.cells, Pt.slots] at X15 l15 y15 z15 st15 hQ15
  subst l15 y15 z15
  obtain ⟨rfl, N15q, ee15⟩ := hQ15
  have N16 := Fr.app N14 N15q
  refine og_of st15 ?_
  show OG p e below _ _ (T15.setTop (mkF m 57 #[.val (.int p0), .val (.int p1), .val (.int p2), .val (.int z1), .val (.int z2), .val (.int (1 : Int32)), .val (.int (1 : Int32)), .unset] [(.int (own_f2 z2)), (.int (own_f1 z2))]))
  have hk17 : (own_f1 z2) = (own_f2 z2) := own_law _
  refine o_icmpN (pc' := 60) X15 hx rfl (hb hby at_57) (teq hk17).2 ?_
  refine o_iconst (z := (1 : Int32)) X15 hx rfl (hb hby at_60) (by decide) ?_
  refine o_goto (pc' := 65) X15 hx (hb hby at_61) (by decide) (by decide) ?_
  refine o_istore X15 hx rfl (hb hby at_65) (L' := #[.val (.int p0), .val (.int p1), .val (.int p2), .val (.int z1), .val (.int z2), .val (.int (1 : Int32)), .val (.int (1 : Int32)), .val (.int (1 : Int32))]) rfl ?_
  refine o_iload X15 hx rfl (hb hby at_67) rfl ?_
  refine o_ifN (pc' := 72) X15 hx rfl (hb hby at_69) ((if0 _ _).trans (feq (by decide : ¬ ((1 : Int32) = (0 : Int32)))).1) ?_
  refine o_iload X15 hx rfl (hb hby at_72) rfl ?_
  refine o_ifN (pc' := 77) X15 hx rfl (hb hby at_74) ((if0 _ _).trans (feq (by decide : ¬ ((1 : Int32) = (0 : Int32)))).1) ?_
  refine o_iload X15 hx rfl (hb hby at_77) rfl ?_
  refine o_ifN (pc' := 82) X15 hx rfl (hb hby at_79) ((if0 _ _).trans (feq (by decide : ¬ ((1 : Int32) = (0 : Int32)))).1) ?_
  refine o_iconst (z := (1 : Int32)) X15 hx rfl (hb hby at_82) (by decide) ?_
  refine o_goto (pc' := 87) X15 hx (hb hby at_83) (by decide) (by decide) ?_
  subst hz1 hz2
  exact o_retB X15 hx Bd.returns (own_lv X15 hlk (by decide) (by decide)) (hb hby at_87) (by decide) ⟨rfl, N16⟩
set_option maxRecDepth 65536 in
set_option maxHeartbeats 40000000 in
theorem own_comes {Post : Tables → Env → Array Value → State → Outcome → State → Prop} (hpost : ∀ tb e args s v u, (limb_1_1.after args s (.returned v) u = true ∧ limb_1_2.after args s (.returned v) u = true ∧ True) → FrameEnd s (.returned v) u (Jvm.fieldLocs frame_1_writes args s ++ Jvm.arrayLocs frame_1_arrays args s ++ Jvm.staticLocs frame_1_statics s) 0 0 → Post tb e args s (.returned v) u) :
    ArmFor flags0 classFile x code maxLocals ret World_1 tables_1 room_1 Calls_1 rest_1 Pre_1 Post := by
  intro l hfl _ _ p e ha hc hk s m args below hf hA hF happ hP
  obtain ⟨hcalls, hrest, hpre⟩ := hP
  obtain ⟨-, -, -, hnamed, -, -, -, hat⟩ := (Spec.applies_iff hf).mp happ
  obtain ⟨hg, hn⟩ := and_e (Cond.before_iff.mp (show (Jvm.Cond.and given_1 narrow_1).before args s = true from hpre))
  obtain ⟨g0, gr0⟩ := and_e hg
  obtain ⟨gi0, gr1⟩ := and_e gr0
  obtain ⟨gi1, gr2⟩ := and_e gr1
  have gi2 := gr2
  obtain ⟨w0, w1, w2, rfl⟩ : ∃ w0 w1 w2 : Value, args = #[w0, w1, w2] := by
    have hs : args.size = 3 := by simpa [Cond.value, given_1] using g0
    obtain ⟨L⟩ := args
    match L, hs with
    | [w0, w1, w2], _ => exact ⟨w0, w1, w2, rfl⟩
  have hw := fun d (hd : d ∈ tables_1) => atoms_spec (ws := Jvm.Cond.code x code maxLocals ret :: tables_1) hat d (List.mem_cons_of_mem _ hd)
  have hfit : Fit s := fun {y c} hc i hi => by
    obtain ⟨ha, rfl⟩ := Array.getElem?_eq_some_iff.mp hc
    have q := List.all_eq_true.mp ((Array.all_eq_true_iff_forall_mem.mp hF) _ (Array.getElem_mem ha)) i (List.mem_range.mpr hi)
    simpa [Array.getElem?_eq_getElem hi] using q
  obtain ⟨i0, ei0⟩ := is_v gi0
  obtain rfl : w0 = (.int i0) := Option.some.inj ei0
  obtain ⟨i1, ei1⟩ := is_v gi1
  obtain rfl : w1 = (.int i1) := Option.some.inj ei1
  obtain ⟨i2, ei2⟩ := is_v gi2
  obtain rfl : w2 = (.int i2) := Option.some.inj ei2
  obtain ⟨n, o, h1, h2, h3, _, L, rfl, ⟨rfl, N⟩, hq⟩ := own_rm0 l s _ hw tables_1 i0 i1 i2  s.heap s.heap.size (Nat.le_refl _)  p e ha hc hk s m _ below hf ((Spec.applies_iff_loose hf).mp happ).1 ⟨rfl, State.Warmed39.refl s, rfl⟩ trivial
  refine ⟨n, _, h1, h2, h3, hpost _ _ _ _ _ _ ⟨Cond.after_iff.mpr rfl, Cond.after_iff.mpr (eq_i res_at (Term.int_eval (1)) rfl), trivial⟩ ⟨hq.1, hq.2.1, (hq.2.2.sift fun y hy => Or.inr (N y hy)).mono (by decide) (by decide)⟩⟩
theorem main_1_1 : Claimed_1_1 := own_comes fun _ _ _ _ _ _ h hF => ⟨h.1, hF⟩
theorem main_1_2 : Claimed_1_2 := own_comes fun _ _ _ _ _ _ h hF => ⟨h.2.1, hF⟩
end Jvm.Pilot.@@N@@
namespace Jvm.Pilot.@@N@@
open Jvm Jvm.ClassFile Sem Op Lib Jvm.Free Jvm.Stand Jvm.Pilot.@@N@@.Jvm.D
/-! MADE BY PROGRAM (witnessworld.py) out of the Statement's table words and the real class files: 9 classes; the members and pool entries that the words name. The judged class is class 1, her method 2. -/
namespace start1
open Jvm.ClassFile
def u (s : String) : CpInfo := .utf8 (stringToUtf16 s)
/-- a pool by its gaps: so many unusable entries, then the entry; so many at the end -/
def gap : Nat → List CpInfo → List CpInfo
  | 0, r => r
  | n + 1, r => .unusable :: gap n r
def poolList (es : List (Nat × CpInfo)) (last : Nat) : List CpInfo := es.foldr (fun e r => gap e.1 (e.2 :: r)) (gap last [])
def pool (es : List (Nat × CpInfo)) (last : Nat) : Array CpInfo := ⟨poolList es last⟩
def fileOf (pool : Array CpInfo) (this : Nat) (attrs : Array Attribute := #[]) (ms : Array MethodInfo := #[]) (fl : Nat := 33) (sup : Nat := 0) (ifs : Array Nat := #[]) (fds : Array FieldInfo := #[]) : ClassFile where
  minorVersion := 0
  majorVersion := 65
  constantPool := pool
  accessFlags := fl
  thisClass := this
  superClass := sup
  interfaces := ifs
  fields := fds
  methods := ms
  attributes := attrs
def plain (name : String) (sup : Option ClassId) : Class where
  name := name
  kind := .ordinary
  loader := none
  accessFlags := 33
  super := sup
  interfaces := #[]
  cf := none
  fields := #[]
  methods := #[]
  instanceTypes := #[]
  staticTypes := #[]
  resolved := #[]
  callSites := []
  init := .initialized
  statics := none
  mirror := none

def pool0 : Array CpInfo := pool [(5, u "<init>"), (0, u "()V"), (1, .class_ 10), (1, u "java/lang/Object")] 113

def k0m0 : Method := { name := "<init>", desc := "()V", sig := { parameters := [], returnType := none }, accessFlags := 1, code := none }
/-- java/lang/Object -/
def k0 : Class := { plain "java/lang/Object" none with
  accessFlags := 33
  interfaces := #[]
  cf := some (fileOf pool0 8 #[] #[{ accessFlags := 1, nameIndex := 5, descriptorIndex := 6, attributes := #[] }] 33 0 #[] #[])
  fields := #[]
  methods := #[k0m0]
  instanceTypes := #[]
  staticTypes := #[]
  resolved := Array.replicate 124 none
  statics := none }

def pool1 : Array CpInfo := pool [(2, .class_ 4), (1, u "java/lang/Object"), (0, u "<init>"), (0, u "()V"), (0, .integer 983039), (0, .integer 65536), (0, .integer 63744), (0, .integer 55295), (0, .integer 64975), (0, .integer 65008), (0, .integer 65533), (0, .integer 65535), (0, .integer 1048575), (0, .methodref 17 18), (0, .class_ 19), (0, .nameAndType 20 21), (0, u "com/example/nodeset/nodeset/XmlNames"), (0, u "isNameStart"), (0, u "(I)Z"), (0, .methodref 23 24), (0, .class_ 25), (0, .nameAndType 26 21), (0, u "com/example/nodeset/nodeset/XmlNamesIsNameStartPinLaw"), (0, u "ref"), (3, u "law"), (0, u "(III)Z")] 2

def k1m0 : Method := { name := "<init>", desc := "()V", sig := { parameters := [], returnType := none }, accessFlags := 2, code := none }
def k1c1 : Code := { maxStack := 2, maxLocals := 2, code := method_2_code, exceptionTable := #[], attributes := #[] }
def k1m1 : Method := { name := "ref", desc := "(I)Z", sig := { parameters := [.int], returnType := some .boolean }, accessFlags := 10, code := some k1c1 }
def k1c2 : Code := { maxStack := 2, maxLocals := 8, code := code, exceptionTable := #[], attributes := #[] }
def k1m2 : Method := { name := "law", desc := "(III)Z", sig := { parameters := [.int, .int, .int], returnType := some .boolean }, accessFlags := 9, code := some k1c2 }
/-- com/example/nodeset/nodeset/XmlNamesIsNameStartPinLaw -/
def k1 : Class := { plain "com/example/nodeset/nodeset/XmlNamesIsNameStartPinLaw" (some 0) with
  accessFlags := 49
  interfaces := #[]
  cf := some (fileOf pool1 23 #[] #[{ accessFlags := 2, nameIndex := 5, descriptorIndex := 6, attributes := #[] }, { accessFlags := 10, nameIndex := 26, descriptorIndex := 21, attributes := #[] }, { accessFlags := 9, nameIndex := 30, descriptorIndex := 31, attributes := #[] }] 49 2 #[] #[])
  fields := #[]
  methods := #[k1m0, k1m1, k1m2]
  instanceTypes := #[]
  staticTypes := #[]
  resolved := Array.replicate 34 none
  statics := none }

def pool2 : Array CpInfo := pool [(2, .class_ 4), (1, u "java/lang/Object"), (0, u "<init>"), (0, u "()V"), (11, .class_ 20), (1, u "com/example/nodeset/nodeset/XmlNames"), (6, .integer 55295), (0, .integer 63744), (0, .integer 64975), (0, .integer 65008), (0, .integer 65533), (0, .integer 65536), (0, .integer 983039), (10, u "isNameStart"), (0, u "(I)Z"), (8, u "NEXT_LINE"), (0, u "C")] 12

def k2m0 : Method := { name := "<init>", desc := "()V", sig := { parameters := [], returnType := none }, accessFlags := 2, code := none }
def k2c1 : Code := { maxStack := 2, maxLocals := 1, code := prog_89_method_5_code, exceptionTable := #[], attributes := #[] }
def k2m1 : Method := { name := "isNameStart", desc := "(I)Z", sig := { parameters := [.int], returnType := some .boolean }, accessFlags := 8, code := some k2c1 }
/-- com/example/nodeset/nodeset/XmlNames -/
def k2 : Class := { plain "com/example/nodeset/nodeset/XmlNames" (some 0) with
  accessFlags := 32
  interfaces := #[]
  cf := some (fileOf pool2 18 #[] #[{ accessFlags := 2, nameIndex := 5, descriptorIndex := 6, attributes := #[] }, { accessFlags := 8, nameIndex := 44, descriptorIndex := 45, attributes := #[] }] 32 2 #[] #[{ accessFlags := 24, nameIndex := 54, descriptorIndex := 55, attributes := #[] }])
  fields := #[{ name := "NEXT_LINE", type := .char, accessFlags := 24, slot := 0, constantValue := 0 }]
  methods := #[k2m0, k2m1]
  instanceTypes := #[]
  staticTypes := #[.char]
  resolved := Array.replicate 68 none
  statics := none }

def pool3 : Array CpInfo := pool [(1, u "java/lang/Cloneable"), (0, .class_ 1), (0, u "java/lang/Object"), (0, .class_ 3)] 3

/-- java/lang/Cloneable -/
def k3 : Class := { plain "java/lang/Cloneable" (some 0) with
  accessFlags := 1537
  interfaces := #[]
  cf := some (fileOf pool3 2 #[] #[] 1537 4 #[] #[])
  fields := #[]
  methods := #[]
  instanceTypes := #[]
  staticTypes := #[]
  resolved := Array.replicate 8 none
  statics := none }

def pool4 : Array CpInfo := pool [(1, u "java/io/Serializable"), (0, .class_ 1), (0, u "java/lang/Object"), (0, .class_ 3)] 3

/-- java/io/Serializable -/
def k4 : Class := { plain "java/io/Serializable" (some 0) with
  accessFlags := 1537
  interfaces := #[]
  cf := some (fileOf pool4 2 #[] #[] 1537 4 #[] #[])
  fields := #[]
  methods := #[]
  instanceTypes := #[]
  staticTypes := #[]
  resolved := Array.replicate 8 none
  statics := none }

/-- the primitive byte -/
def k5 : Class := { plain "byte" none with kind := .primitive 'B', accessFlags := 0x411 }
/-- [B -/
def k6 : Class := { plain "[B" (some 0) with kind := .array 5 .byte, interfaces := #[3, 4], accessFlags := 1041 }

/-- the primitive int -/
def k7 : Class := { plain "int" none with kind := .primitive 'I', accessFlags := 0x411 }
/-- [I -/
def k8 : Class := { plain "[I" (some 0) with kind := .array 7 .int, interfaces := #[3, 4], accessFlags := 1041 }

def heap : Heap := #[]
def classes : Array Class := #[k0, k1, k2, k3, k4, k5, k6, k7, k8]
def interned : List (Array UInt16 × Addr) := []
def slotsUsed : Nat := 0
def theMethod : MethodId := ⟨1, 2⟩
def args0 : Array Value := #[.int 5, .int 7, .int 4]
def aboutOver (below : List Frame) : State where
  vm := { classes := classes, interned := interned.toArray }
  heap := heap
  slotsUsed := slotsUsed
  threads := #[{ frames := .invoking theMethod args0 :: below }]
def below0 : List Frame := [.native { method := ⟨0, 0⟩, args := #[] }]
def about1 : State := aboutOver below0
def p0 : Program := .bare "" "" ""
def e0 : Env := launch0.env 0 0 0
theorem w_frames : about1.frames = Frame.invoking theMethod args0 :: below0 := rfl
set_option maxRecDepth 65536 in
theorem w_args : argsFit about1.vm theMethod args0 = true := by decide +kernel
set_option maxRecDepth 65536 in
theorem w_heap : heapFits about1 = true := by decide +kernel
set_option maxRecDepth 65536 in
theorem w_runnable : about1.curStatus? = some .runnable := by decide +kernel
set_option maxRecDepth 65536 in
theorem w_alone : about1.alone = true := by decide +kernel
set_option maxRecDepth 65536 in
theorem w_named : about1.methodNamed? x = some theMethod := by decide +kernel
set_option maxRecDepth 65536 in
theorem w_hears : about1.hears theMethod below0 = true := by decide +kernel
set_option maxRecDepth 65536 in
theorem w_ripe : about1.ripe theMethod args0 below0 = true := by decide +kernel
theorem w_running : about1.status = .running := rfl
set_option maxRecDepth 65536 in
theorem w_room : about1.hasRoom e0.platform room_1 = true :=
  launch0.hasRoom_least _ room_1 (by decide +kernel) (by decide +kernel) (by decide +kernel) (by decide +kernel) (by decide +kernel) (by decide +kernel)
theorem allAtoms_all (ts : List Jvm.Cond) (a : Array Jvm.Value) (st : Jvm.State) : (allAtoms ts).before a st = ts.all (fun c => c.before a st) := by
  induction ts with
  | nil => rfl
  | cons c t ih =>
    show (Jvm.Cond.and c (allAtoms t)).before a st = _
    rw [Jvm.Cond.before_and, ih, List.all_cons]
def words1 : List Jvm.Cond := Jvm.Cond.code x code maxLocals ret :: tables_1
/-- a 'code' word, met by the world's own term for the bytes: nothing is compared byte by byte -/
theorem code_word {y : MethodName} {bytes : ByteArray} {mx : Nat} {rt : Option FieldType} {a : Array Value} {s : State} {m : MethodId} {meth : Method} {c : Code} (h1 : s.methodNamed? y = some m) (h2 : s.vm.method? m = some meth) (h3 : meth.code = some c) (h4 : c.code = bytes)
    (h5 : (c.maxLocals == mx && c.exceptionTable.isEmpty && decide (c.maxStack ≤ mostOperands) && decide (meth.sig.returnType = rt) && !meth.locks && decide (parseMethodDescriptor y.desc = some meth.sig)) = true) : (Jvm.Cond.code y bytes mx rt).before a s = true := by
  simp only [Bool.and_eq_true, beq_iff_eq, Bool.not_eq_true', decide_eq_true_eq] at h5
  obtain ⟨⟨⟨⟨⟨g1, g2⟩, g3⟩, g4⟩, g5⟩, g6⟩ := h5
  simp [Cond.before, Cond.holds, Cond.value, h1, h2, h3, h4, g1, g2, g3, g4, g5, g6]
def isCode : Jvm.Cond → Bool
  | .code _ _ _ _ => true
  | _ => false
theorem all_split {L : List Jvm.Cond} {P : Jvm.Cond → Bool} (h1 : L.all (fun c => isCode c || P c) = true) (h2 : ∀ c ∈ L.filter isCode, P c = true) : L.all P = true := by
  refine List.all_eq_true.mpr fun c hc => ?_
  have h := List.all_eq_true.mp h1 c hc
  rcases Bool.eq_false_or_eq_true (isCode c) with hi | hi
  · exact h2 c (List.mem_filter.mpr ⟨hc, hi⟩)
  · simpa [hi] using h
set_option maxRecDepth 65536 in
theorem w_c0 : (Jvm.Cond.code x code maxLocals ret).before args0 about1 = true := code_word (m := ⟨1, 2⟩) (meth := k1m2) (c := k1c2) (by decide +kernel) rfl rfl rfl (by decide +kernel)
set_option maxRecDepth 65536 in
theorem w_c1 : (Jvm.Cond.code ({ cls := "com/example/nodeset/nodeset/XmlNames", name := "isNameStart", desc := "(I)Z" } : Jvm.MethodName) prog_89_method_5_code (1 : Nat) (Option.some Jvm.ClassFile.FieldType.boolean)).before args0 about1 = true := code_word (m := ⟨2, 1⟩) (meth := k2m1) (c := k2c1) (by decide +kernel) rfl rfl rfl (by decide +kernel)
set_option maxRecDepth 65536 in
theorem w_c2 : (Jvm.Cond.code ({ cls := "com/example/nodeset/nodeset/XmlNamesIsNameStartPinLaw", name := "ref", desc := "(I)Z" } : Jvm.MethodName) method_2_code (2 : Nat) (Option.some Jvm.ClassFile.FieldType.boolean)).before args0 about1 = true := code_word (m := ⟨1, 1⟩) (meth := k1m1) (c := k1c1) (by decide +kernel) rfl rfl rfl (by decide +kernel)
def codes1 : List Jvm.Cond := [Jvm.Cond.code x code maxLocals ret, Jvm.Cond.code ({ cls := "com/example/nodeset/nodeset/XmlNames", name := "isNameStart", desc := "(I)Z" } : Jvm.MethodName) prog_89_method_5_code (1 : Nat) (Option.some Jvm.ClassFile.FieldType.boolean), Jvm.Cond.code ({ cls := "com/example/nodeset/nodeset/XmlNamesIsNameStartPinLaw", name := "ref", desc := "(I)Z" } : Jvm.MethodName) method_2_code (2 : Nat) (Option.some Jvm.ClassFile.FieldType.boolean)]
set_option maxRecDepth 65536 in
theorem codes_eq : words1.filter isCode = codes1 := rfl
theorem w_codes : ∀ c ∈ words1.filter isCode, c.before args0 about1 = true := by
  rw [codes_eq]
  intro c hc
  simp only [codes1, List.mem_cons, List.not_mem_nil, or_false] at hc
  rcases hc with rfl | rfl | rfl
  · exact w_c0
  · exact w_c1
  · exact w_c2
set_option maxRecDepth 65536 in
theorem w_t1 : (words1.take 24).all (fun c => isCode c || c.before args0 about1) = true := by decide +kernel
set_option maxRecDepth 65536 in
theorem w_t2 : (words1.drop 24).all (fun c => isCode c || c.before args0 about1) = true := by decide +kernel
theorem w_tables : (allAtoms (Jvm.Cond.code x code maxLocals ret :: tables_1)).before args0 about1 = true := by
  rw [allAtoms_all]
  show words1.all (fun c => c.before args0 about1) = true
  refine all_split ?_ w_codes
  rw [← List.take_append_drop 24 words1, List.all_append, w_t1, w_t2]
  rfl
set_option maxRecDepth 65536 in
theorem w_case : (Jvm.Cond.and given_1 narrow_1).before args0 about1 = true := by decide +kernel
theorem w_applies : (headSpec (Jvm.Cond.code x code maxLocals ret :: tables_1) room_1).applies x e0.platform about1 = true :=
  (Spec.applies_iff w_frames).mpr ⟨w_running, w_runnable, w_alone, w_named, w_hears, w_ripe, w_room, w_tables⟩
theorem atStart : AtStart classFile x code maxLocals ret World_1 tables_1 room_1 Calls_1 rest_1 Pre_1 launch0 p0 e0 about1 theMethod args0 below0 :=
  ⟨lists_1, trivial, launch0.admits_env _ _ _, launch0.least_env, fairChoices_fair.cas, fairChoices_fair.clock, w_frames, w_args, w_heap, w_applies, trivial, trivial, w_case⟩
end start1
theorem witness_1 : WitnessClaimed_1 := ⟨start1.p0, start1.e0, start1.about1, start1.theMethod, start1.args0, start1.below0, start1.atStart⟩
end Jvm.Pilot.@@N@@

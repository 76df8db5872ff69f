import JvmDerived
import JvmDerived.Pilot.@@N@@Statement
import JvmDerived.Pilot.@@N@@Code
set_option linter.unusedVariables false
set_option linter.unusedSimpArgs false
namespace Jvm.RoadKit
open Sem ClassFile Op Lib Jvm.Stand Jvm.Free Jvm.LawKit
section Own
variable {p : Program} {l : Launch} {e : Env} {R : Room} {s : State} {m : MethodId} {args : Array Value} {below : List Frame} {meth : Method} {c : Code} {T : State} {locs : List Loc} {cells slots : Nat} {Q : Option Value → Heap → List Loc → Prop} {Φ : Outcome → State → List Loc → Prop} {k n : Nat} {pc pc' : Nat} {L L' : Array Slot} {S : List Value}
def OG (p : Program) (e : Env) (below : List Frame) (Φ : Outcome → State → List Loc → Prop) (Q : Option Value → Heap → List Loc → Prop) (t : State) : Prop :=
  ∃ s₂ o, Steps p.tables e below t s₂ ∧ s₂.status = .running ∧ Ended s₂ below o ∧ ∃ v L, o = .returned v ∧ Q v s₂.heap L ∧ Φ o s₂ L
abbrev FE (s : State) (k n : Nat) : Outcome → State → List Loc → Prop := fun o t L => FrameEnd s o t L k n
abbrev FEW (s : State) (k n : Nat) : Outcome → State → List Loc → Prop := fun o t L => ReturnedEndW s o t L k n
theorem og_of {t t' : State} (st : ∀ g, Steps p.tables e below t' g → Steps p.tables e below t g) (G : OG p e below Φ Q t') : OG p e below Φ Q t := by
  obtain ⟨s₂, o, h, r⟩ := G; exact ⟨s₂, o, st _ h, r⟩
theorem og_tr {t t' : State} (st : Steps p.tables e below t t') (G : OG p e below Φ Q t') : OG p e below Φ Q t := og_of (fun _ k => st.trans k) G
def Lv (e : Env) (below : List Frame) (Φ : Outcome → State → List Loc → Prop) (m : MethodId) (meth : Method) (T : State) (locs : List Loc) : Prop :=
  ∀ v : Option Value, (meth.sig.returnType = none → v = none) → ∃ fs, (∀ (f : JFrame) (acts : List Action), f.method = m → f.locked = none → f.entered = [] → (doReturn e (T.setTop f) acts v).1 = T.setFrames fs) ∧ (T.setFrames fs).status = .running ∧ Ended (T.setFrames fs) below (.returned v) ∧ Φ (.returned v) (T.setFrames fs) locs
theorem own_lv (X : Stand p l e R s m args below meth c T locs cells slots) (hlk : meth.locks = false) (hk : cells ≤ k) (hn : slots ≤ n) : Lv e below (FE s k n) m meth T locs := fun v hv => by
  obtain ⟨fs, hr, hrun, hended, hW, hsame⟩ := X.leave (v := v) hv hlk
  exact ⟨fs, hr, hrun, hended, ⟨_, rfl⟩, hW, hsame.mono hk hn⟩
theorem own_lvW {vm₁ : Vm} {q : Nat} (X : Stand p l e R (s.setVm vm₁) m args below meth c T locs cells slots) (hlk : meth.locks = false) (hS : s.Since vm₁ q) (hq : q ≤ T.heap.size) (hk : cells ≤ k) (hn : slots ≤ n) : Lv e below (FEW s k n) m meth T locs := fun v hv => by
  obtain ⟨fs, hr, hrun, hended, h1, h2, h3, h4⟩ := X.leaveW hS hq (v := v) hv hlk
  exact ⟨fs, hr, hrun, hended, h1, h2, h3, h4.mono hk hn⟩
theorem og_end (hE : Lv e below Φ m meth T locs) {v : Option Value} (hv : meth.sig.returnType = none → v = none) {g : JFrame}
    (st : ∀ fs, (∀ (f : JFrame) (acts : List Action), f.method = m → f.locked = none → f.entered = [] → (doReturn e (T.setTop f) acts v).1 = T.setFrames fs) → Steps p.tables e below (T.setTop g) (T.setFrames fs))
    (hQ : Q v T.heap locs) : OG p e below Φ Q (T.setTop g) := by
  obtain ⟨fs, hr, hrun, hended, hF⟩ := hE v hv
  exact ⟨_, _, st fs hr, hrun, hended, _, _, rfl, hQ, hF⟩
theorem own_mono (X : Stand p l e R s m args below meth c T locs cells slots) {cells' slots' : Nat} (hc : cells ≤ cells') (hs : slots ≤ slots') : Stand p l e R s m args below meth c T locs cells' slots' :=
  ⟨X.admits, X.cas, X.clock, X.frames, X.room, X.hears, X.method, X.code, X.here, X.tail, X.warmed, X.limits, X.bytes, X.same.mono hc hs⟩
theorem retI (X : Stand p l e R s m args below meth c T locs cells slots) (hx : p.tables.exec = Jvm.exec) {pc : Nat} {Ls : Array Slot} {z : Int32} {rest : List Value} (hret : meth.sig.returnType = some .int) (hd : decode c.code pc = .ok (.ireturn, 1)) {fs : List Frame}
    (hl : ∀ (f : JFrame) (acts : List Action), f.method = m → f.locked = none → f.entered = [] → (doReturn e (T.setTop f) acts (some (.int z))).1 = T.setFrames fs) : Steps p.tables e below (T.setTop (mkF m pc Ls (.int z :: rest))) (T.setFrames fs) := by
  have hm' : T.vm.method? m = some meth := X.method'
  have hn : narrow .int (.int z) = .int z := rfl
  show Steps p.tables e below (T.setTop { method := m, pc := pc, locals := Ls, stack := _ :: rest, locked := none }) _
  jvm_step X.here [X.here.top, hx, hd, hm', hret, hn]
  first | (intro acts; rw [hl _ acts rfl rfl rfl]) | rw [hl _ _ rfl rfl rfl]
  exact Steps.refl _
theorem o_retI (X : Stand p l e R s m args below meth c T locs cells slots) (hx : p.tables.exec = Jvm.exec) (hret : meth.sig.returnType = some .int) (hE : Lv e below Φ m meth T locs) (hd : decode c.code pc = .ok (.ireturn, 1)) {z : Int32} (hQ : Q (some (.int z)) T.heap locs) : OG p e below Φ Q (T.setTop (mkF m pc L (.int z :: S))) :=
  og_end hE (fun h => by rw [hret] at h; cases h) (fun fs hr => retI X hx hret hd hr) hQ
theorem o_retN (X : Stand p l e R s m args below meth c T locs cells slots) (hx : p.tables.exec = Jvm.exec) {t : FieldType} (hret : meth.sig.returnType = some t) (ht : t = .boolean ∨ t = .byte ∨ t = .char ∨ t = .short) (hE : Lv e below Φ m meth T locs) (hd : decode c.code pc = .ok (.ireturn, 1)) {z : Int32} (hQ : Q (some (.int (nar t z))) T.heap locs) : OG p e below Φ Q (T.setTop (mkF m pc L (.int z :: S))) :=
  og_end hE (fun h => by rw [hret] at h; cases h) (fun fs hr => retN X hx hret ht hd hr) hQ
theorem o_retB (X : Stand p l e R s m args below meth c T locs cells slots) (hx : p.tables.exec = Jvm.exec) (hret : meth.sig.returnType = some .boolean) (hE : Lv e below Φ m meth T locs) (hd : decode c.code pc = .ok (.ireturn, 1)) {z : Int32} (hz : z = 0 ∨ z = 1) (hQ : Q (some (.int z)) T.heap locs) : OG p e below Φ Q (T.setTop (mkF m pc L (.int z :: S))) :=
  o_retN X hx hret (Or.inl rfl) hE hd (by have q : nar .boolean z = z := by { rcases hz with rfl | rfl <;> rfl }; rw [q]; exact hQ)
theorem o_retL (X : Stand p l e R s m args below meth c T locs cells slots) (hx : p.tables.exec = Jvm.exec) (hret : meth.sig.returnType = some .long) (hE : Lv e below Φ m meth T locs) (hd : decode c.code pc = .ok (.lreturn, 1)) {z : Int64} (hQ : Q (some (.long z)) T.heap locs) : OG p e below Φ Q (T.setTop (mkF m pc L (.long z :: S))) :=
  og_end hE (fun h => by rw [hret] at h; cases h) (fun fs hr => retOut X hx hret rfl (Or.inr (Or.inl ⟨rfl, rfl, z, rfl⟩)) hd hr) hQ
theorem o_retA (X : Stand p l e R s m args below meth c T locs cells slots) (hx : p.tables.exec = Jvm.exec) {t : FieldType} (hret : meth.sig.returnType = some t) (ht : t.isReference = true) (hE : Lv e below Φ m meth T locs) (hd : decode c.code pc = .ok (.areturn, 1)) {w : Value} (hw : w.isRef = true) (hnw : narrow t w = w) (hQ : Q (some w) T.heap locs) : OG p e below Φ Q (T.setTop (mkF m pc L (w :: S))) :=
  og_end hE (fun h => by rw [hret] at h; cases h) (fun fs hr => retOut X hx hret hnw (Or.inr (Or.inr (Or.inr (Or.inr ⟨rfl, ht, hw⟩)))) hd hr) hQ
theorem o_ret0 (X : Stand p l e R s m args below meth c T locs cells slots) (hx : p.tables.exec = Jvm.exec) (hret : meth.sig.returnType = none) (hE : Lv e below Φ m meth T locs) (hd : decode c.code pc = .ok (.return_, 1)) (hQ : Q none T.heap locs) : OG p e below Φ Q (T.setTop (mkF m pc L [])) :=
  og_end hE (fun _ => rfl) (fun fs hr => X.returnOut hx hret hd hr) hQ
theorem lcY_eq {x y : Int64} (h : x = y) : ifCond.holds .eq (lcmpW x y) = true ∧ ifCond.holds .ne (lcmpW x y) = false := ⟨(if0 _ _).trans (teq ((lw_eq x y).mpr h)).1, (if0 _ _).trans (teq ((lw_eq x y).mpr h)).2⟩
theorem lcN_eq {x y : Int64} (h : ¬ x = y) : ifCond.holds .eq (lcmpW x y) = false ∧ ifCond.holds .ne (lcmpW x y) = true := ⟨(if0 _ _).trans (feq (mt (lw_eq x y).mp h)).1, (if0 _ _).trans (feq (mt (lw_eq x y).mp h)).2⟩
theorem lcY_lt {x y : Int64} (h : x < y) : ifCond.holds .lt (lcmpW x y) = true ∧ ifCond.holds .ge (lcmpW x y) = false := ⟨(if0 _ _).trans (tlt ((lw_lt x y).mpr h)).1, (if0 _ _).trans (tlt ((lw_lt x y).mpr h)).2.1⟩
theorem lcN_lt {x y : Int64} (h : ¬ x < y) : ifCond.holds .lt (lcmpW x y) = false ∧ ifCond.holds .ge (lcmpW x y) = true := ⟨(if0 _ _).trans (flt (mt (lw_lt x y).mp h)).1, (if0 _ _).trans (flt (mt (lw_lt x y).mp h)).2.1⟩
theorem lcY_gt {x y : Int64} (h : y < x) : ifCond.holds .gt (lcmpW x y) = true ∧ ifCond.holds .le (lcmpW x y) = false := ⟨(if0 _ _).trans (tlt ((lw_gt x y).mpr h)).2.2.1, (if0 _ _).trans (tlt ((lw_gt x y).mpr h)).2.2.2⟩
theorem lcN_gt {x y : Int64} (h : ¬ y < x) : ifCond.holds .gt (lcmpW x y) = false ∧ ifCond.holds .le (lcmpW x y) = true := ⟨(if0 _ _).trans (flt (mt (lw_gt x y).mp h)).2.2.1, (if0 _ _).trans (flt (mt (lw_gt x y).mp h)).2.2.2⟩
theorem o_iloadN (X : Stand p l e R s m args below meth c T locs cells slots) (hx : p.tables.exec = Jvm.exec) {i : Fin 4} {v : Int32} (hp : pc + 1 = pc') (hd : decode c.code pc = .ok (.iload_n i, 1)) (hl : L[i.val]? = some (.val (.int v))) (G : OG p e below Φ Q (T.setTop (mkF m pc' L (.int v :: S)))) : OG p e below Φ Q (T.setTop (mkF m pc L S)) := by
  subst hp; exact og_of (fun _ st => XS.iloadN X.here hx rfl hd hl st) G
theorem o_iload (X : Stand p l e R s m args below meth c T locs cells slots) (hx : p.tables.exec = Jvm.exec) {i : Nat} {v : Int32} (hp : pc + 2 = pc') (hd : decode c.code pc = .ok (.iload i, 2)) (hl : L[i]? = some (.val (.int v))) (G : OG p e below Φ Q (T.setTop (mkF m pc' L (.int v :: S)))) : OG p e below Φ Q (T.setTop (mkF m pc L S)) := by
  subst hp; exact og_of (fun _ st => XS.iload X.here hx rfl hd hl st) G
theorem o_istoreN (X : Stand p l e R s m args below meth c T locs cells slots) (hx : p.tables.exec = Jvm.exec) {i : Fin 4} {v : Int32} (hp : pc + 1 = pc') (hd : decode c.code pc = .ok (.istore_n i, 1)) (hl : storeLocals L i.val (.int v) = some L') (G : OG p e below Φ Q (T.setTop (mkF m pc' L' S))) : OG p e below Φ Q (T.setTop (mkF m pc L (.int v :: S))) := by
  subst hp; exact og_of (fun _ st => XS.istoreN X.here hx rfl hd rfl hl st) G
theorem o_istore (X : Stand p l e R s m args below meth c T locs cells slots) (hx : p.tables.exec = Jvm.exec) {i : Nat} {v : Int32} (hp : pc + 2 = pc') (hd : decode c.code pc = .ok (.istore i, 2)) (hl : storeLocals L i (.int v) = some L') (G : OG p e below Φ Q (T.setTop (mkF m pc' L' S))) : OG p e below Φ Q (T.setTop (mkF m pc L (.int v :: S))) := by
  subst hp; exact og_of (fun _ st => XS.istore X.here hx rfl hd rfl hl st) G
theorem o_lloadN (X : Stand p l e R s m args below meth c T locs cells slots) (hx : p.tables.exec = Jvm.exec) {i : Fin 4} {v : Int64} (hp : pc + 1 = pc') (hd : decode c.code pc = .ok (.lload_n i, 1)) (hl : L[i.val]? = some (.val (.long v))) (G : OG p e below Φ Q (T.setTop (mkF m pc' L (.long v :: S)))) : OG p e below Φ Q (T.setTop (mkF m pc L S)) := by
  subst hp; exact og_of (fun _ st => XS.lloadN X.here hx rfl hd hl st) G
theorem o_lload (X : Stand p l e R s m args below meth c T locs cells slots) (hx : p.tables.exec = Jvm.exec) {i : Nat} {v : Int64} (hp : pc + 2 = pc') (hd : decode c.code pc = .ok (.lload i, 2)) (hl : L[i]? = some (.val (.long v))) (G : OG p e below Φ Q (T.setTop (mkF m pc' L (.long v :: S)))) : OG p e below Φ Q (T.setTop (mkF m pc L S)) := by
  subst hp; exact og_of (fun _ st => XS.lload X.here hx rfl hd hl st) G
theorem o_lstoreN (X : Stand p l e R s m args below meth c T locs cells slots) (hx : p.tables.exec = Jvm.exec) {i : Fin 4} {v : Int64} (hp : pc + 1 = pc') (hd : decode c.code pc = .ok (.lstore_n i, 1)) (hl : storeLocals L i.val (.long v) = some L') (G : OG p e below Φ Q (T.setTop (mkF m pc' L' S))) : OG p e below Φ Q (T.setTop (mkF m pc L (.long v :: S))) := by
  subst hp; exact og_of (fun _ st => XS.lstoreN X.here hx rfl hd rfl hl st) G
theorem o_lstore (X : Stand p l e R s m args below meth c T locs cells slots) (hx : p.tables.exec = Jvm.exec) {i : Nat} {v : Int64} (hp : pc + 2 = pc') (hd : decode c.code pc = .ok (.lstore i, 2)) (hl : storeLocals L i (.long v) = some L') (G : OG p e below Φ Q (T.setTop (mkF m pc' L' S))) : OG p e below Φ Q (T.setTop (mkF m pc L (.long v :: S))) := by
  subst hp; exact og_of (fun _ st => XS.lstore X.here hx rfl hd rfl hl st) G
theorem o_aloadN (X : Stand p l e R s m args below meth c T locs cells slots) (hx : p.tables.exec = Jvm.exec) {i : Fin 4} {v : Value} (hp : pc + 1 = pc') (hd : decode c.code pc = .ok (.aload_n i, 1)) (hl : L[i.val]? = some (.val v)) (hv : v.isRef = true) (G : OG p e below Φ Q (T.setTop (mkF m pc' L (v :: S)))) : OG p e below Φ Q (T.setTop (mkF m pc L S)) := by
  subst hp; exact og_of (fun _ st => XS.aloadN X.here hx rfl hd hl hv st) G
theorem o_aload (X : Stand p l e R s m args below meth c T locs cells slots) (hx : p.tables.exec = Jvm.exec) {i : Nat} {v : Value} (hp : pc + 2 = pc') (hd : decode c.code pc = .ok (.aload i, 2)) (hl : L[i]? = some (.val v)) (hv : v.isRef = true) (G : OG p e below Φ Q (T.setTop (mkF m pc' L (v :: S)))) : OG p e below Φ Q (T.setTop (mkF m pc L S)) := by
  subst hp; exact og_of (fun _ st => XS.aload X.here hx rfl hd hl hv st) G
theorem o_astoreN (X : Stand p l e R s m args below meth c T locs cells slots) (hx : p.tables.exec = Jvm.exec) {i : Fin 4} {v : Value} (hp : pc + 1 = pc') (hd : decode c.code pc = .ok (.astore_n i, 1)) (hv : v.isRef = true) (hl : storeLocals L i.val v = some L') (G : OG p e below Φ Q (T.setTop (mkF m pc' L' S))) : OG p e below Φ Q (T.setTop (mkF m pc L (v :: S))) := by
  subst hp; exact og_of (fun _ st => XS.astoreN X.here hx rfl hd rfl hv hl st) G
theorem o_astore (X : Stand p l e R s m args below meth c T locs cells slots) (hx : p.tables.exec = Jvm.exec) {i : Nat} {v : Value} (hp : pc + 2 = pc') (hd : decode c.code pc = .ok (.astore i, 2)) (hv : v.isRef = true) (hl : storeLocals L i v = some L') (G : OG p e below Φ Q (T.setTop (mkF m pc' L' S))) : OG p e below Φ Q (T.setTop (mkF m pc L (v :: S))) := by
  subst hp; exact og_of (fun _ st => XS.astore X.here hx rfl hd rfl hv hl st) G
theorem o_iconst (X : Stand p l e R s m args below meth c T locs cells slots) (hx : p.tables.exec = Jvm.exec) {i : Int} {z : Int32} (hp : pc + 1 = pc') (hd : decode c.code pc = .ok (.iconst i, 1)) (hz : Int32.ofInt i = z) (G : OG p e below Φ Q (T.setTop (mkF m pc' L (.int z :: S)))) : OG p e below Φ Q (T.setTop (mkF m pc L S)) := by
  subst hp hz; exact og_of (fun _ st => XS.iconst X.here hx rfl hd st) G
theorem o_bipush (X : Stand p l e R s m args below meth c T locs cells slots) (hx : p.tables.exec = Jvm.exec) {i : Int} {z : Int32} (hp : pc + 2 = pc') (hd : decode c.code pc = .ok (.bipush i, 2)) (hz : (Int8.ofInt i).toInt32 = z) (G : OG p e below Φ Q (T.setTop (mkF m pc' L (.int z :: S)))) : OG p e below Φ Q (T.setTop (mkF m pc L S)) := by
  subst hp hz; exact og_of (fun _ st => XS.bipush X.here hx rfl hd st) G
theorem o_sipush (X : Stand p l e R s m args below meth c T locs cells slots) (hx : p.tables.exec = Jvm.exec) {i : Int} {z : Int32} (hp : pc + 3 = pc') (hd : decode c.code pc = .ok (.sipush i, 3)) (hz : (Int16.ofInt i).toInt32 = z) (G : OG p e below Φ Q (T.setTop (mkF m pc' L (.int z :: S)))) : OG p e below Φ Q (T.setTop (mkF m pc L S)) := by
  subst hp hz; exact og_of (fun _ st => XS.sipush X.here hx rfl hd st) G
theorem o_lconst (X : Stand p l e R s m args below meth c T locs cells slots) (hx : p.tables.exec = Jvm.exec) {i : Fin 2} {z : Int64} (hp : pc + 1 = pc') (hd : decode c.code pc = .ok (.lconst i, 1)) (hz : Int64.ofNat i = z) (G : OG p e below Φ Q (T.setTop (mkF m pc' L (.long z :: S)))) : OG p e below Φ Q (T.setTop (mkF m pc L S)) := by
  subst hp hz; exact og_of (fun _ st => XS.lconst X.here hx rfl hd st) G
theorem o_aconst_null (X : Stand p l e R s m args below meth c T locs cells slots) (hx : p.tables.exec = Jvm.exec) (hp : pc + 1 = pc') (hd : decode c.code pc = .ok (.aconst_null, 1))  (G : OG p e below Φ Q (T.setTop (mkF m pc' L (.null :: S)))) : OG p e below Φ Q (T.setTop (mkF m pc L S)) := by
  subst hp; exact og_of (fun _ st => XS.aconstNull X.here hx rfl hd st) G
theorem o_iadd (X : Stand p l e R s m args below meth c T locs cells slots) (hx : p.tables.exec = Jvm.exec) {x : Int32} {y : Int32} {z : Int32} (hp : pc + 1 = pc') (hd : decode c.code pc = .ok (.iadd, 1)) (hz : x + y = z) (G : OG p e below Φ Q (T.setTop (mkF m pc' L (.int z :: S)))) : OG p e below Φ Q (T.setTop (mkF m pc L (.int y :: .int x :: S))) := by
  subst hp hz; exact og_of (fun _ st => XS.iadd X.here hx rfl hd rfl st) G
theorem o_ladd (X : Stand p l e R s m args below meth c T locs cells slots) (hx : p.tables.exec = Jvm.exec) {x : Int64} {y : Int64} {z : Int64} (hp : pc + 1 = pc') (hd : decode c.code pc = .ok (.ladd, 1)) (hz : x + y = z) (G : OG p e below Φ Q (T.setTop (mkF m pc' L (.long z :: S)))) : OG p e below Φ Q (T.setTop (mkF m pc L (.long y :: .long x :: S))) := by
  subst hp hz; exact og_of (fun _ st => XS.ladd X.here hx rfl hd rfl st) G
theorem o_isub (X : Stand p l e R s m args below meth c T locs cells slots) (hx : p.tables.exec = Jvm.exec) {x : Int32} {y : Int32} {z : Int32} (hp : pc + 1 = pc') (hd : decode c.code pc = .ok (.isub, 1)) (hz : x - y = z) (G : OG p e below Φ Q (T.setTop (mkF m pc' L (.int z :: S)))) : OG p e below Φ Q (T.setTop (mkF m pc L (.int y :: .int x :: S))) := by
  subst hp hz; exact og_of (fun _ st => XS.isub X.here hx rfl hd rfl st) G
theorem o_lsub (X : Stand p l e R s m args below meth c T locs cells slots) (hx : p.tables.exec = Jvm.exec) {x : Int64} {y : Int64} {z : Int64} (hp : pc + 1 = pc') (hd : decode c.code pc = .ok (.lsub, 1)) (hz : x - y = z) (G : OG p e below Φ Q (T.setTop (mkF m pc' L (.long z :: S)))) : OG p e below Φ Q (T.setTop (mkF m pc L (.long y :: .long x :: S))) := by
  subst hp hz; exact og_of (fun _ st => XS.lsub X.here hx rfl hd rfl st) G
theorem o_imul (X : Stand p l e R s m args below meth c T locs cells slots) (hx : p.tables.exec = Jvm.exec) {x : Int32} {y : Int32} {z : Int32} (hp : pc + 1 = pc') (hd : decode c.code pc = .ok (.imul, 1)) (hz : x * y = z) (G : OG p e below Φ Q (T.setTop (mkF m pc' L (.int z :: S)))) : OG p e below Φ Q (T.setTop (mkF m pc L (.int y :: .int x :: S))) := by
  subst hp hz; exact og_of (fun _ st => XS.imul X.here hx rfl hd rfl st) G
theorem o_lmul (X : Stand p l e R s m args below meth c T locs cells slots) (hx : p.tables.exec = Jvm.exec) {x : Int64} {y : Int64} {z : Int64} (hp : pc + 1 = pc') (hd : decode c.code pc = .ok (.lmul, 1)) (hz : x * y = z) (G : OG p e below Φ Q (T.setTop (mkF m pc' L (.long z :: S)))) : OG p e below Φ Q (T.setTop (mkF m pc L (.long y :: .long x :: S))) := by
  subst hp hz; exact og_of (fun _ st => XS.lmul X.here hx rfl hd rfl st) G
theorem o_iand (X : Stand p l e R s m args below meth c T locs cells slots) (hx : p.tables.exec = Jvm.exec) {x : Int32} {y : Int32} {z : Int32} (hp : pc + 1 = pc') (hd : decode c.code pc = .ok (.iand, 1)) (hz : x &&& y = z) (G : OG p e below Φ Q (T.setTop (mkF m pc' L (.int z :: S)))) : OG p e below Φ Q (T.setTop (mkF m pc L (.int y :: .int x :: S))) := by
  subst hp hz; exact og_of (fun _ st => XS.iand X.here hx rfl hd rfl st) G
theorem o_land (X : Stand p l e R s m args below meth c T locs cells slots) (hx : p.tables.exec = Jvm.exec) {x : Int64} {y : Int64} {z : Int64} (hp : pc + 1 = pc') (hd : decode c.code pc = .ok (.land, 1)) (hz : x &&& y = z) (G : OG p e below Φ Q (T.setTop (mkF m pc' L (.long z :: S)))) : OG p e below Φ Q (T.setTop (mkF m pc L (.long y :: .long x :: S))) := by
  subst hp hz; exact og_of (fun _ st => XS.land X.here hx rfl hd rfl st) G
theorem o_ior (X : Stand p l e R s m args below meth c T locs cells slots) (hx : p.tables.exec = Jvm.exec) {x : Int32} {y : Int32} {z : Int32} (hp : pc + 1 = pc') (hd : decode c.code pc = .ok (.ior, 1)) (hz : x ||| y = z) (G : OG p e below Φ Q (T.setTop (mkF m pc' L (.int z :: S)))) : OG p e below Φ Q (T.setTop (mkF m pc L (.int y :: .int x :: S))) := by
  subst hp hz; exact og_of (fun _ st => XS.ior X.here hx rfl hd rfl st) G
theorem o_lor (X : Stand p l e R s m args below meth c T locs cells slots) (hx : p.tables.exec = Jvm.exec) {x : Int64} {y : Int64} {z : Int64} (hp : pc + 1 = pc') (hd : decode c.code pc = .ok (.lor, 1)) (hz : x ||| y = z) (G : OG p e below Φ Q (T.setTop (mkF m pc' L (.long z :: S)))) : OG p e below Φ Q (T.setTop (mkF m pc L (.long y :: .long x :: S))) := by
  subst hp hz; exact og_of (fun _ st => XS.lor X.here hx rfl hd rfl st) G
theorem o_ixor (X : Stand p l e R s m args below meth c T locs cells slots) (hx : p.tables.exec = Jvm.exec) {x : Int32} {y : Int32} {z : Int32} (hp : pc + 1 = pc') (hd : decode c.code pc = .ok (.ixor, 1)) (hz : x ^^^ y = z) (G : OG p e below Φ Q (T.setTop (mkF m pc' L (.int z :: S)))) : OG p e below Φ Q (T.setTop (mkF m pc L (.int y :: .int x :: S))) := by
  subst hp hz; exact og_of (fun _ st => XS.ixor X.here hx rfl hd rfl st) G
theorem o_lxor (X : Stand p l e R s m args below meth c T locs cells slots) (hx : p.tables.exec = Jvm.exec) {x : Int64} {y : Int64} {z : Int64} (hp : pc + 1 = pc') (hd : decode c.code pc = .ok (.lxor, 1)) (hz : x ^^^ y = z) (G : OG p e below Φ Q (T.setTop (mkF m pc' L (.long z :: S)))) : OG p e below Φ Q (T.setTop (mkF m pc L (.long y :: .long x :: S))) := by
  subst hp hz; exact og_of (fun _ st => XS.lxor X.here hx rfl hd rfl st) G
theorem o_ishl (X : Stand p l e R s m args below meth c T locs cells slots) (hx : p.tables.exec = Jvm.exec) {x : Int32} {y : Int32} {z : Int32} (hp : pc + 1 = pc') (hd : decode c.code pc = .ok (.ishl, 1)) (hz : x <<< (y &&& 31) = z) (G : OG p e below Φ Q (T.setTop (mkF m pc' L (.int z :: S)))) : OG p e below Φ Q (T.setTop (mkF m pc L (.int y :: .int x :: S))) := by
  subst hp hz; exact og_of (fun _ st => XS.ishl X.here hx rfl hd rfl st) G
theorem o_ishr (X : Stand p l e R s m args below meth c T locs cells slots) (hx : p.tables.exec = Jvm.exec) {x : Int32} {y : Int32} {z : Int32} (hp : pc + 1 = pc') (hd : decode c.code pc = .ok (.ishr, 1)) (hz : x >>> (y &&& 31) = z) (G : OG p e below Φ Q (T.setTop (mkF m pc' L (.int z :: S)))) : OG p e below Φ Q (T.setTop (mkF m pc L (.int y :: .int x :: S))) := by
  subst hp hz; exact og_of (fun _ st => XS.ishr X.here hx rfl hd rfl st) G
theorem o_iushr (X : Stand p l e R s m args below meth c T locs cells slots) (hx : p.tables.exec = Jvm.exec) {x : Int32} {y : Int32} {z : Int32} (hp : pc + 1 = pc') (hd : decode c.code pc = .ok (.iushr, 1)) (hz : (x.toUInt32 >>> (y &&& 31).toUInt32).toInt32 = z) (G : OG p e below Φ Q (T.setTop (mkF m pc' L (.int z :: S)))) : OG p e below Φ Q (T.setTop (mkF m pc L (.int y :: .int x :: S))) := by
  subst hp hz; exact og_of (fun _ st => XS.iushr X.here hx rfl hd rfl st) G
theorem o_lshl (X : Stand p l e R s m args below meth c T locs cells slots) (hx : p.tables.exec = Jvm.exec) {x : Int64} {y : Int32} {z : Int64} (hp : pc + 1 = pc') (hd : decode c.code pc = .ok (.lshl, 1)) (hz : x <<< (y &&& 0x3f).toInt64 = z) (G : OG p e below Φ Q (T.setTop (mkF m pc' L (.long z :: S)))) : OG p e below Φ Q (T.setTop (mkF m pc L (.int y :: .long x :: S))) := by
  subst hp hz; exact og_of (fun _ st => XS.lshl X.here hx rfl hd rfl st) G
theorem o_lshr (X : Stand p l e R s m args below meth c T locs cells slots) (hx : p.tables.exec = Jvm.exec) {x : Int64} {y : Int32} {z : Int64} (hp : pc + 1 = pc') (hd : decode c.code pc = .ok (.lshr, 1)) (hz : x >>> (y &&& 0x3f).toInt64 = z) (G : OG p e below Φ Q (T.setTop (mkF m pc' L (.long z :: S)))) : OG p e below Φ Q (T.setTop (mkF m pc L (.int y :: .long x :: S))) := by
  subst hp hz; exact og_of (fun _ st => XS.lshr X.here hx rfl hd rfl st) G
theorem o_lushr (X : Stand p l e R s m args below meth c T locs cells slots) (hx : p.tables.exec = Jvm.exec) {x : Int64} {y : Int32} {z : Int64} (hp : pc + 1 = pc') (hd : decode c.code pc = .ok (.lushr, 1)) (hz : (x.toUInt64 >>> (y &&& 0x3f).toInt64.toUInt64).toInt64 = z) (G : OG p e below Φ Q (T.setTop (mkF m pc' L (.long z :: S)))) : OG p e below Φ Q (T.setTop (mkF m pc L (.int y :: .long x :: S))) := by
  subst hp hz; exact og_of (fun _ st => XS.lushr X.here hx rfl hd rfl st) G
theorem o_idiv (X : Stand p l e R s m args below meth c T locs cells slots) (hx : p.tables.exec = Jvm.exec) {x : Int32} {y : Int32} {z : Int32} (hp : pc + 1 = pc') (hd : decode c.code pc = .ok (.idiv, 1)) (hz : x / y = z) (hy : y ≠ 0) (G : OG p e below Φ Q (T.setTop (mkF m pc' L (.int z :: S)))) : OG p e below Φ Q (T.setTop (mkF m pc L (.int y :: .int x :: S))) := by
  subst hp hz; exact og_of (fun _ st => XS.idiv X.here hx rfl hd rfl hy st) G
theorem o_ldiv (X : Stand p l e R s m args below meth c T locs cells slots) (hx : p.tables.exec = Jvm.exec) {x : Int64} {y : Int64} {z : Int64} (hp : pc + 1 = pc') (hd : decode c.code pc = .ok (.ldiv, 1)) (hz : x / y = z) (hy : y ≠ 0) (G : OG p e below Φ Q (T.setTop (mkF m pc' L (.long z :: S)))) : OG p e below Φ Q (T.setTop (mkF m pc L (.long y :: .long x :: S))) := by
  subst hp hz; exact og_of (fun _ st => XS.ldiv X.here hx rfl hd rfl hy st) G
theorem o_irem (X : Stand p l e R s m args below meth c T locs cells slots) (hx : p.tables.exec = Jvm.exec) {x y z : Int32} (hp : pc + 1 = pc') (hd : decode c.code pc = .ok (.irem, 1)) (hz : x % y = z) (hy : y ≠ 0) (G : OG p e below Φ Q (T.setTop (mkF m pc' L (.int z :: S)))) : OG p e below Φ Q (T.setTop (mkF m pc L (.int y :: .int x :: S))) := by
  subst hp hz; exact og_of (fun _ st => XS.irem X.here hx rfl hd rfl hy (by rw [irem_eq_mod x y]; exact st)) G
theorem o_lrem (X : Stand p l e R s m args below meth c T locs cells slots) (hx : p.tables.exec = Jvm.exec) {x y z : Int64} (hp : pc + 1 = pc') (hd : decode c.code pc = .ok (.lrem, 1)) (hz : x % y = z) (hy : y ≠ 0) (G : OG p e below Φ Q (T.setTop (mkF m pc' L (.long z :: S)))) : OG p e below Φ Q (T.setTop (mkF m pc L (.long y :: .long x :: S))) := by
  subst hp hz; exact og_of (fun _ st => XS.lrem X.here hx rfl hd rfl hy (by rw [lrem_mod x y]; exact st)) G
theorem o_ineg (X : Stand p l e R s m args below meth c T locs cells slots) (hx : p.tables.exec = Jvm.exec) {x : Int32} {z : Int32} (hp : pc + 1 = pc') (hd : decode c.code pc = .ok (.ineg, 1)) (hz : -x = z) (G : OG p e below Φ Q (T.setTop (mkF m pc' L (.int z :: S)))) : OG p e below Φ Q (T.setTop (mkF m pc L (.int x :: S))) := by
  subst hp hz; exact og_of (fun _ st => XS.ineg X.here hx rfl hd rfl st) G
theorem o_lneg (X : Stand p l e R s m args below meth c T locs cells slots) (hx : p.tables.exec = Jvm.exec) {x : Int64} {z : Int64} (hp : pc + 1 = pc') (hd : decode c.code pc = .ok (.lneg, 1)) (hz : -x = z) (G : OG p e below Φ Q (T.setTop (mkF m pc' L (.long z :: S)))) : OG p e below Φ Q (T.setTop (mkF m pc L (.long x :: S))) := by
  subst hp hz; exact og_of (fun _ st => XS.lneg X.here hx rfl hd rfl st) G
theorem o_i2l (X : Stand p l e R s m args below meth c T locs cells slots) (hx : p.tables.exec = Jvm.exec) {x : Int32} {z : Int64} (hp : pc + 1 = pc') (hd : decode c.code pc = .ok (.i2l, 1)) (hz : x.toInt64 = z) (G : OG p e below Φ Q (T.setTop (mkF m pc' L (.long z :: S)))) : OG p e below Φ Q (T.setTop (mkF m pc L (.int x :: S))) := by
  subst hp hz; exact og_of (fun _ st => XS.i2l X.here hx rfl hd rfl st) G
theorem o_l2i (X : Stand p l e R s m args below meth c T locs cells slots) (hx : p.tables.exec = Jvm.exec) {x : Int64} {z : Int32} (hp : pc + 1 = pc') (hd : decode c.code pc = .ok (.l2i, 1)) (hz : x.toInt32 = z) (G : OG p e below Φ Q (T.setTop (mkF m pc' L (.int z :: S)))) : OG p e below Φ Q (T.setTop (mkF m pc L (.long x :: S))) := by
  subst hp hz; exact og_of (fun _ st => XS.l2i X.here hx rfl hd rfl st) G
theorem o_i2b (X : Stand p l e R s m args below meth c T locs cells slots) (hx : p.tables.exec = Jvm.exec) {x : Int32} {z : Int32} (hp : pc + 1 = pc') (hd : decode c.code pc = .ok (.i2b, 1)) (hz : x.toInt8.toInt32 = z) (G : OG p e below Φ Q (T.setTop (mkF m pc' L (.int z :: S)))) : OG p e below Φ Q (T.setTop (mkF m pc L (.int x :: S))) := by
  subst hp hz; exact og_of (fun _ st => XS.i2b X.here hx rfl hd rfl st) G
theorem o_i2s (X : Stand p l e R s m args below meth c T locs cells slots) (hx : p.tables.exec = Jvm.exec) {x : Int32} {z : Int32} (hp : pc + 1 = pc') (hd : decode c.code pc = .ok (.i2s, 1)) (hz : x.toInt16.toInt32 = z) (G : OG p e below Φ Q (T.setTop (mkF m pc' L (.int z :: S)))) : OG p e below Φ Q (T.setTop (mkF m pc L (.int x :: S))) := by
  subst hp hz; exact og_of (fun _ st => XS.i2s X.here hx rfl hd rfl st) G
theorem o_i2c (X : Stand p l e R s m args below meth c T locs cells slots) (hx : p.tables.exec = Jvm.exec) {x : Int32} {z : Int32} (hp : pc + 1 = pc') (hd : decode c.code pc = .ok (.i2c, 1)) (hz : x.toUInt32.toUInt16.toUInt32.toInt32 = z) (G : OG p e below Φ Q (T.setTop (mkF m pc' L (.int z :: S)))) : OG p e below Φ Q (T.setTop (mkF m pc L (.int x :: S))) := by
  subst hp hz; exact og_of (fun _ st => XS.i2c X.here hx rfl hd rfl st) G
theorem o_lcmp (X : Stand p l e R s m args below meth c T locs cells slots) (hx : p.tables.exec = Jvm.exec) {x y : Int64} (hp : pc + 1 = pc') (hd : decode c.code pc = .ok (.lcmp, 1))  (G : OG p e below Φ Q (T.setTop (mkF m pc' L (.int (lcmpW x y) :: S)))) : OG p e below Φ Q (T.setTop (mkF m pc L (.long y :: .long x :: S))) := by
  subst hp; exact og_of (fun _ st => XS.lcmp X.here hx rfl hd rfl st) G
theorem o_dup (X : Stand p l e R s m args below meth c T locs cells slots) (hx : p.tables.exec = Jvm.exec) {v : Value} (hp : pc + 1 = pc') (hd : decode c.code pc = .ok (.dup, 1)) (hc : v.category = 1) (G : OG p e below Φ Q (T.setTop (mkF m pc' L (v :: v :: S)))) : OG p e below Φ Q (T.setTop (mkF m pc L (v :: S))) := by
  subst hp; exact og_of (fun _ st => XS.dup X.here hx rfl hd rfl hc st) G
theorem o_pop (X : Stand p l e R s m args below meth c T locs cells slots) (hx : p.tables.exec = Jvm.exec) {v : Value} (hp : pc + 1 = pc') (hd : decode c.code pc = .ok (.pop, 1)) (hc : v.category = 1) (G : OG p e below Φ Q (T.setTop (mkF m pc' L S))) : OG p e below Φ Q (T.setTop (mkF m pc L (v :: S))) := by
  subst hp; exact og_of (fun _ st => XS.pop X.here hx rfl hd rfl hc st) G
theorem o_dup_x1 (X : Stand p l e R s m args below meth c T locs cells slots) (hx : p.tables.exec = Jvm.exec) {v w : Value} (hp : pc + 1 = pc') (hd : decode c.code pc = .ok (.dup_x1, 1)) (hc : v.category = 1) (hc2 : w.category = 1) (G : OG p e below Φ Q (T.setTop (mkF m pc' L (v :: w :: v :: S)))) : OG p e below Φ Q (T.setTop (mkF m pc L (v :: w :: S))) := by
  subst hp; exact og_of (fun _ st => XS.dupX1 X.here hx rfl hd rfl hc hc2 st) G
theorem o_dup2 (X : Stand p l e R s m args below meth c T locs cells slots) (hx : p.tables.exec = Jvm.exec) {v w : Value} (hp : pc + 1 = pc') (hd : decode c.code pc = .ok (.dup2, 1)) (hc : v.category = 1) (hc2 : w.category = 1) (G : OG p e below Φ Q (T.setTop (mkF m pc' L (v :: w :: v :: w :: S)))) : OG p e below Φ Q (T.setTop (mkF m pc L (v :: w :: S))) := by
  subst hp; exact og_of (fun _ st => XT.dup2 X.here hx rfl hd rfl hc hc2 st) G
theorem o_dup2L (X : Stand p l e R s m args below meth c T locs cells slots) (hx : p.tables.exec = Jvm.exec) {v : Int64} (hp : pc + 1 = pc') (hd : decode c.code pc = .ok (.dup2, 1))  (G : OG p e below Φ Q (T.setTop (mkF m pc' L (.long v :: .long v :: S)))) : OG p e below Φ Q (T.setTop (mkF m pc L (.long v :: S))) := by
  subst hp; exact og_of (fun _ st => XT.dup2L X.here hx rfl hd rfl st) G
theorem o_dup_x2 (X : Stand p l e R s m args below meth c T locs cells slots) (hx : p.tables.exec = Jvm.exec) {u v w : Value} (hp : pc + 1 = pc') (hd : decode c.code pc = .ok (.dup_x2, 1)) (hu : u.category = 1) (hv : v.category = 1) (hw : w.category = 1) (G : OG p e below Φ Q (T.setTop (mkF m pc' L (u :: v :: w :: u :: S)))) : OG p e below Φ Q (T.setTop (mkF m pc L (u :: v :: w :: S))) := by
  subst hp; refine og_of (fun _ st => ?_) G
  jvm_step X.here [X.here.top, hx, hd, hu, hv, hw]
  exact st
theorem o_iinc (X : Stand p l e R s m args below meth c T locs cells slots) (hx : p.tables.exec = Jvm.exec) {i : Nat} {cst : Int} {x z : Int32} (hp : pc + 3 = pc') (hd : decode c.code pc = .ok (.iinc i cst, 3)) (hl : L[i]? = some (.val (.int x))) (hz : x + Int32.ofInt cst = z) (hl' : storeLocals L i (.int z) = some L') (G : OG p e below Φ Q (T.setTop (mkF m pc' L' S))) : OG p e below Φ Q (T.setTop (mkF m pc L S)) := by
  subst hp hz; exact og_of (fun _ st => XS.iinc X.here hx rfl hd hl hl' st) G
theorem o_goto (X : Stand p l e R s m args below meth c T locs cells slots) (hx : p.tables.exec = Jvm.exec) {o : Int} (hd : decode c.code pc = .ok (.goto o, 3)) (ho : 0 ≤ (pc : Int) + o) (hp : ((pc : Int) + o).toNat = pc') (G : OG p e below Φ Q (T.setTop (mkF m pc' L S))) : OG p e below Φ Q (T.setTop (mkF m pc L S)) := og_of (fun _ st => XS.goto X.here hx rfl rfl hd ho hp st) G
theorem o_ifY (X : Stand p l e R s m args below meth c T locs cells slots) (hx : p.tables.exec = Jvm.exec) {cd : ClassFile.Cond} {x : Int32} {o : Int} (hd : decode c.code pc = .ok (.ifCond cd o, 3)) (hc : ifCond.holds cd x = true) (ho : 0 ≤ (pc : Int) + o) (hp : ((pc : Int) + o).toNat = pc') (G : OG p e below Φ Q (T.setTop (mkF m pc' L S))) : OG p e below Φ Q (T.setTop (mkF m pc L (.int x :: S))) := og_of (fun _ st => XS.ifYes X.here hx rfl rfl hd rfl hc ho hp st) G
theorem o_ifN (X : Stand p l e R s m args below meth c T locs cells slots) (hx : p.tables.exec = Jvm.exec) {cd : ClassFile.Cond} {x : Int32} {o : Int} (hp : pc + 3 = pc') (hd : decode c.code pc = .ok (.ifCond cd o, 3)) (hc : ifCond.holds cd x = false) (G : OG p e below Φ Q (T.setTop (mkF m pc' L S))) : OG p e below Φ Q (T.setTop (mkF m pc L (.int x :: S))) := by
  subst hp; exact og_of (fun _ st => XS.ifNo X.here hx rfl hd rfl hc st) G
theorem o_icmpY (X : Stand p l e R s m args below meth c T locs cells slots) (hx : p.tables.exec = Jvm.exec) {cd : ClassFile.Cond} {x y : Int32} {o : Int} (hd : decode c.code pc = .ok (.if_icmp cd o, 3)) (hc : if_icmp.holds cd x y = true) (ho : 0 ≤ (pc : Int) + o) (hp : ((pc : Int) + o).toNat = pc') (G : OG p e below Φ Q (T.setTop (mkF m pc' L S))) : OG p e below Φ Q (T.setTop (mkF m pc L (.int y :: .int x :: S))) := og_of (fun _ st => XS.icmpYes X.here hx rfl rfl hd rfl hc ho hp st) G
theorem o_icmpN (X : Stand p l e R s m args below meth c T locs cells slots) (hx : p.tables.exec = Jvm.exec) {cd : ClassFile.Cond} {x y : Int32} {o : Int} (hp : pc + 3 = pc') (hd : decode c.code pc = .ok (.if_icmp cd o, 3)) (hc : if_icmp.holds cd x y = false) (G : OG p e below Φ Q (T.setTop (mkF m pc' L S))) : OG p e below Φ Q (T.setTop (mkF m pc L (.int y :: .int x :: S))) := by
  subst hp; exact og_of (fun _ st => XS.icmpNo X.here hx rfl hd rfl hc st) G
theorem o_ifnullY (X : Stand p l e R s m args below meth c T locs cells slots) (hx : p.tables.exec = Jvm.exec) {o : Int} (hd : decode c.code pc = .ok (.ifnull o, 3)) (ho : 0 ≤ (pc : Int) + o) (hp : ((pc : Int) + o).toNat = pc') (G : OG p e below Φ Q (T.setTop (mkF m pc' L S))) : OG p e below Φ Q (T.setTop (mkF m pc L (.null :: S))) := og_of (fun _ st => XS.ifnullYes X.here hx rfl rfl hd rfl ho hp st) G
theorem o_ifnullN (X : Stand p l e R s m args below meth c T locs cells slots) (hx : p.tables.exec = Jvm.exec) {o : Int} {a : Addr} (hp : pc + 3 = pc') (hd : decode c.code pc = .ok (.ifnull o, 3)) (G : OG p e below Φ Q (T.setTop (mkF m pc' L S))) : OG p e below Φ Q (T.setTop (mkF m pc L (.ref a :: S))) := by
  subst hp; exact og_of (fun _ st => XS.ifnullNo X.here hx rfl hd rfl st) G
theorem o_ifnonnullY (X : Stand p l e R s m args below meth c T locs cells slots) (hx : p.tables.exec = Jvm.exec) {o : Int} {a : Addr} (hd : decode c.code pc = .ok (.ifnonnull o, 3)) (ho : 0 ≤ (pc : Int) + o) (hp : ((pc : Int) + o).toNat = pc') (G : OG p e below Φ Q (T.setTop (mkF m pc' L S))) : OG p e below Φ Q (T.setTop (mkF m pc L (.ref a :: S))) := og_of (fun _ st => XS.ifnonnullYes X.here hx rfl rfl hd rfl ho hp st) G
theorem o_ifnonnullN (X : Stand p l e R s m args below meth c T locs cells slots) (hx : p.tables.exec = Jvm.exec) {o : Int} (hp : pc + 3 = pc') (hd : decode c.code pc = .ok (.ifnonnull o, 3)) (G : OG p e below Φ Q (T.setTop (mkF m pc' L S))) : OG p e below Φ Q (T.setTop (mkF m pc L (.null :: S))) := by
  subst hp; exact og_of (fun _ st => XS.ifnonnullNo X.here hx rfl hd rfl st) G
theorem o_acmpY (X : Stand p l e R s m args below meth c T locs cells slots) (hx : p.tables.exec = Jvm.exec) {cd : ClassFile.ACond} {a b : Addr} {o : Int} (hd : decode c.code pc = .ok (.if_acmp cd o, 3)) (hc : if_acmp.holds cd (some a) (some b) = true) (ho : 0 ≤ (pc : Int) + o) (hp : ((pc : Int) + o).toNat = pc') (G : OG p e below Φ Q (T.setTop (mkF m pc' L S))) : OG p e below Φ Q (T.setTop (mkF m pc L (.ref b :: .ref a :: S))) := og_of (fun _ st => XS.acmpYes X.here hx rfl rfl hd rfl hc ho hp st) G
theorem o_acmpN (X : Stand p l e R s m args below meth c T locs cells slots) (hx : p.tables.exec = Jvm.exec) {cd : ClassFile.ACond} {a b : Addr} {o : Int} (hp : pc + 3 = pc') (hd : decode c.code pc = .ok (.if_acmp cd o, 3)) (hc : if_acmp.holds cd (some a) (some b) = false) (G : OG p e below Φ Q (T.setTop (mkF m pc' L S))) : OG p e below Φ Q (T.setTop (mkF m pc L (.ref b :: .ref a :: S))) := by
  subst hp; exact og_of (fun _ st => XS.acmpNo X.here hx rfl hd rfl hc st) G
theorem o_ldcI (X : Stand p l e R s m args below meth c T locs cells slots) (hx : p.tables.exec = Jvm.exec) {Z : State} {a0 : Array Value} {own : String} {i : Nat} {v : Int32} (hp : pc + 2 = pc') (hd : decode c.code pc = .ok (.ldc i, 2)) (hZ : Z.Warmed39 s.vm) (hown : s.vm.findClass own = some m.cls) (w : (Cond.constant own i v).before a0 Z = true) (G : OG p e below Φ Q (T.setTop (mkF m pc' L (.int v :: S)))) : OG p e below Φ Q (T.setTop (mkF m pc L S)) := by
  subst hp; exact og_of (X.ldcInt hx hown (mvT hZ w) (g := mkF m pc L S) rfl hd) G
theorem o_ldcwI (X : Stand p l e R s m args below meth c T locs cells slots) (hx : p.tables.exec = Jvm.exec) {Z : State} {a0 : Array Value} {own : String} {i : Nat} {v : Int32} (hp : pc + 3 = pc') (hd : decode c.code pc = .ok (.ldc_w i, 3)) (hZ : Z.Warmed39 s.vm) (hown : s.vm.findClass own = some m.cls) (w : (Cond.constant own i v).before a0 Z = true) (G : OG p e below Φ Q (T.setTop (mkF m pc' L (.int v :: S)))) : OG p e below Φ Q (T.setTop (mkF m pc L S)) := by
  subst hp; exact og_of (X.ldcwInt hx hown (mvT hZ w) (g := mkF m pc L S) rfl hd) G
theorem o_ldc2L (X : Stand p l e R s m args below meth c T locs cells slots) (hx : p.tables.exec = Jvm.exec) {Z : State} {a0 : Array Value} {own : String} {i : Nat} {v : Int64} (hp : pc + 3 = pc') (hd : decode c.code pc = .ok (.ldc2_w i, 3)) (hZ : Z.Warmed39 s.vm) (hown : s.vm.findClass own = some m.cls) (w : (Cond.constantLong own i v).before a0 Z = true) (G : OG p e below Φ Q (T.setTop (mkF m pc' L (.long v :: S)))) : OG p e below Φ Q (T.setTop (mkF m pc L S)) := by
  subst hp; exact og_of (X.ldc2Long hx hown (mvT hZ w) (g := mkF m pc L S) rfl hd) G
theorem own_mvM {Z : State} {a0 : Array Value} {own host : String} {y : MethodName} {index : Nat} (hZ : Z.Warmed39 s.vm) (w : (Cond.methodLinkNest own index y host).before a0 Z = true) : (Cond.methodLinkNest own index y host).before args s = true := (Cond.methodLinkNest_wide hZ w :)
theorem own_catI (v : Int32) : (Value.int v).category = 1 := rfl
theorem own_catL (v : Int64) : (Value.long v).category = 2 := rfl
theorem own_catR (a : Addr) : (Value.ref a).category = 1 := rfl
theorem own_cat {x : Value} (h : x.isRef = true) : x.category = 1 := by cases x <;> simp_all [Value.isRef, Value.category]
theorem own_narR {x : Value} (h : x.isRef = true) (t : FieldType) : narrow t x = x := by rcases ref_cases h with rfl | ⟨a, rfl⟩ <;> cases t <;> rfl
theorem own_fitR {x : Value} {C : String} (h : x.isRef = true) : fits (.object C) x = true := by rcases ref_cases h with rfl | ⟨a, rfl⟩ <;> rfl
theorem own_selp {Z : State} {a0 : Array Value} {y : MethodName} {q : Nat} (hZ : Z.Warmed39 s.vm) (wi : (Cond.instantiable y.cls q).before a0 Z = true) (hp : (Cond.privateMethod y).before a0 Z = true) (hi : (Cond.instanceMethod y).before a0 Z = true) (hy : y.cls ≠ "java/lang/invoke/MethodHandle" ∧ y.cls ≠ "java/lang/invoke/VarHandle") : (Cond.selects y.cls y y).before args s = true := by
  have wi' : (Cond.instantiable y.cls q).before args s = true := mv hZ wi
  obtain ⟨cc, kk, h1, h2, -, h4, -⟩ := Cond.instantiable_spec wi'
  have hni : kk.isInterface = false := by simp only [Bool.or_eq_false_iff] at h4; exact h4.1
  exact selects_self_of_private h1 h2 hni (Cond.privateMethod_at (mvP hZ hp (args := args))) (mv hZ hi) hy
theorem own_staK {Z : State} {h h' : Heap} {C nn d : String} {v : Value} (F : Sta Z h C nn d v) (K : Keep h h' []) : Sta Z h' C nn d v := by
  obtain ⟨cf, i, k, f, st, cell, h1, h2, h3, h4, h5, r⟩ := F
  exact ⟨cf, i, k, f, st, cell, h1, h2, h3, h4, K.2.1 _ _ h5 (fun q => nomatch q), r⟩
end Own
end Jvm.RoadKit
namespace Jvm.Pilot.@@N@@
open Jvm Jvm.ClassFile Sem Op Lib Jvm.Free Jvm.Stand Jvm.LawKit Jvm.RoadKit Bundle Jvm.Pilot.@@N@@.Jvm.D
theorem own_strW {a0 : Array Value} {Z : State} (hw : ∀ d ∈ tables_1, d.before a0 Z = true) : ∀ d ∈ Bundle.stringAtoms, d.before a0 Z = true := fun d hd => by
  simp only [Bundle.stringAtoms, List.mem_cons, List.not_mem_nil, or_false] at hd
  rcases hd with rfl | rfl | rfl | rfl | rfl | rfl | rfl
  · exact (hw _ (List.mem_of_getElem? (i := 130) rfl))
  · exact (hw _ (List.mem_of_getElem? (i := 131) rfl))
  · exact (hw _ (List.mem_of_getElem? (i := 132) rfl))
  · exact (hw _ (List.mem_of_getElem? (i := 133) rfl))
  · exact (hw _ (List.mem_of_getElem? (i := 134) rfl))
  · exact (hw _ (List.mem_of_getElem? (i := 135) rfl))
  · exact (hw _ (List.mem_of_getElem? (i := 136) rfl))
theorem own_d3_0 : decode jdk_30_method_1_code 0 = .ok (.aload_n 0, 1) := by decide +kernel
theorem own_d3_1 : decode jdk_30_method_1_code 1 = .ok (.invokespecial 1, 3) := by decide +kernel
theorem own_d3_4 : decode jdk_30_method_1_code 4 = .ok (.return_, 1) := by decide +kernel
theorem own_ef3 (m : MethodId) (a0 : Addr) : entryFrame m #[(.ref a0)] 1 = mkF m 0 #[.val (.ref a0)] [] := by first | (simp [entryFrame, mkF, argsToLocals, Value.category]; done) | rfl
def own_Q3 (Z : State) (a0 : Addr) (h0 : Heap) (n0 : Nat) (v : Option Value) (h : Heap) (L : List Loc) : Prop := v = none ∧ Fr n0 L ∧ h = h0
theorem own_pn3 : plainName "java/lang/Record" = true := by first | (simp [plainName, overriddenIn]; done) | decide +kernel
set_option maxRecDepth 65536 in
set_option maxHeartbeats 40000000 in
theorem own_rm3 (l : Launch) (Z : State) (aA : Array Value) (hw : ∀ d ∈ tables_1, d.before aA Z = true) (ws : List Jvm.Cond) (a0 : Addr) (h0 : Heap) (n0 : Nat) (Z0 : n0 ≤ h0.size) :
    MetFree l (⟨"java/lang/Record", "<init>", "()V"⟩ : MethodName) (head1 (Jvm.Cond.code (⟨"java/lang/Record", "<init>", "()V"⟩ : MethodName) jdk_30_method_1_code 1 none :: ws) ({ frames := 1, cells := 0, slots := 0, locals := 12 } : Room)) (fun a U => a = #[(.ref a0)] ∧ Z.Warmed39 U.vm ∧ U.heap = h0) (fun _ _ _ _ _ => True) (fun _ U o U' => ∃ v L, o = .returned v ∧ own_Q3 Z a0 h0 n0 v U'.heap L ∧ FrameEnd U o U' L ({ frames := 1, cells := 0, slots := 0, locals := 12 } : Room).cells ({ frames := 1, cells := 0, slots := 0, locals := 12 } : Room).slots) := by
  refine MetFree.of_bodySF (plainFor_of_name own_pn3) hisR ?_
  intro p e s m args below meth c s₁ Bd hml0 hP hK
  obtain ⟨rfl, hZ, hh⟩ := hP
  have hx := Bd.exec
  have hby := Bd.bytes
  have hlk : meth.locks = false := Bd.notSynchronized
  have hml : c.maxLocals = 1 := hml0
  have hown : s.vm.findClass "java/lang/Record" = some m.cls := findClass_of_methodNamed Bd.named
  have hnm := (name_of_methodNamed Bd.named Bd.method).1
  have X0 : Stand p l e ({ frames := 1, cells := 0, slots := 0, locals := 12 } : Room) s m #[(.ref a0)] below meth c s₁ [] 0 0 := Stand.of_body Bd
  have e0 : s₁.heap = h0 := by rw [← hh, Bd.state]; rfl
  have N0 := Fr.nil n0
  show OG p e below (FE s ({ frames := 1, cells := 0, slots := 0, locals := 12 } : Room).cells ({ frames := 1, cells := 0, slots := 0, locals := 12 } : Room).slots) (own_Q3 Z a0 h0 n0) (s₁.setTop (entryFrame m #[(.ref a0)] 1))
  refine og_of (fun _ k => castTop (own_ef3 m a0) k) ?_
  refine o_aloadN X0 hx rfl (hb hby own_d3_0) rfl rfl ?_
  obtain ⟨T1, X1, e1, st1⟩ := initO X0 hx hZ hown (hw _ (List.mem_of_getElem? (i := 18) rfl)) (hw _ (List.mem_of_getElem? (i := 19) rfl)) (hw _ (List.mem_of_getElem? (i := 20) rfl)) e0 (g := (mkF m 1 #[.val (.ref a0)] [(.ref a0)])) rfl (by rw [hml]; rfl) rfl (hb hby own_d3_1) (by decide) (W := 0) (by show 2 * 0 + _ ≤ _; exact Nat.le_of_eq rfl) (by decide)
  refine og_of st1 ?_
  show OG p e below _ _ (T1.setTop (mkF m 4 #[.val (.ref a0)] []))
  exact o_ret0 X1 hx Bd.returns (own_lv X1 hlk (by decide) (by decide)) (hb hby own_d3_4) ⟨rfl, N0, e1⟩
theorem own_pd0 : parseMethodDescriptor "()V" = some ⟨[], none⟩ := by decide +kernel
theorem own_d19_0 : decode prog_41_method_1_code 0 = .ok (.aload_n 0, 1) := by decide +kernel
theorem own_d19_1 : decode prog_41_method_1_code 1 = .ok (.invokespecial 1, 3) := by decide +kernel
theorem own_d19_4 : decode prog_41_method_1_code 4 = .ok (.aload_n 0, 1) := by decide +kernel
theorem own_d19_5 : decode prog_41_method_1_code 5 = .ok (.aload_n 1, 1) := by decide +kernel
theorem own_d19_6 : decode prog_41_method_1_code 6 = .ok (.putfield 7, 3) := by decide +kernel
theorem own_d19_9 : decode prog_41_method_1_code 9 = .ok (.aload_n 0, 1) := by decide +kernel
theorem own_d19_10 : decode prog_41_method_1_code 10 = .ok (.aload_n 2, 1) := by decide +kernel
theorem own_d19_11 : decode prog_41_method_1_code 11 = .ok (.putfield 13, 3) := by decide +kernel
theorem own_d19_14 : decode prog_41_method_1_code 14 = .ok (.aload_n 0, 1) := by decide +kernel
theorem own_d19_15 : decode prog_41_method_1_code 15 = .ok (.aload_n 3, 1) := by decide +kernel
theorem own_d19_16 : decode prog_41_method_1_code 16 = .ok (.putfield 17, 3) := by decide +kernel
theorem own_d19_19 : decode prog_41_method_1_code 19 = .ok (.aload_n 0, 1) := by decide +kernel
theorem own_d19_20 : decode prog_41_method_1_code 20 = .ok (.aload 4, 2) := by decide +kernel
theorem own_d19_22 : decode prog_41_method_1_code 22 = .ok (.putfield 20, 3) := by decide +kernel
theorem own_d19_25 : decode prog_41_method_1_code 25 = .ok (.return_, 1) := by decide +kernel
theorem own_ef19 (m : MethodId) (a0 : Addr) (a1 : Addr) (a2 : Addr) (a3 : Addr) (a4 : Addr) : entryFrame m #[(.ref a0), (.ref a1), (.ref a2), (.ref a3), (.ref a4)] 5 = mkF m 0 #[.val (.ref a0), .val (.ref a1), .val (.ref a2), .val (.ref a3), .val (.ref a4)] [] := by first | (simp [entryFrame, mkF, argsToLocals, Value.category]; done) | rfl
def own_Q19 (Z : State) (a0 : Addr) (a1 : Addr) (a2 : Addr) (a3 : Addr) (a4 : Addr) (h0 : Heap) (n0 : Nat) (v : Option Value) (h : Heap) (L : List Loc) : Prop := v = none ∧ Fr n0 L ∧ Keep h0 h [a0] ∧ Fld Z h a0 "com/example/nodeset/nodeset/NodeName" "kind" "Lcom/example/nodeset/nodeset/NodeKind;" (.ref a1) ∧ Fld Z h a0 "com/example/nodeset/nodeset/NodeName" "namespace" "Ljava/lang/String;" (.ref a2) ∧ Fld Z h a0 "com/example/nodeset/nodeset/NodeName" "localName" "Ljava/lang/String;" (.ref a3) ∧ Fld Z h a0 "com/example/nodeset/nodeset/NodeName" "prefix" "Ljava/lang/String;" (.ref a4)
theorem own_pn19 : plainName "com/example/nodeset/nodeset/NodeName" = true := by first | (simp [plainName, overriddenIn]; done) | decide +kernel
set_option maxRecDepth 65536 in
set_option maxHeartbeats 40000000 in
theorem own_rm19 (l : Launch) (Z : State) (aA : Array Value) (hw : ∀ d ∈ tables_1, d.before aA Z = true) (ws : List Jvm.Cond) (a0 : Addr) (a1 : Addr) (a2 : Addr) (a3 : Addr) (a4 : Addr) (h0 : Heap) (n0 : Nat) (Z0 : n0 ≤ h0.size) (pre0 : Exa Z h0 a0 "com/example/nodeset/nodeset/NodeName") (pre1 : n0 ≤ a0) (pre2 : Fld Z h0 a0 "com/example/nodeset/nodeset/NodeName" "kind" "Lcom/example/nodeset/nodeset/NodeKind;" .null) (pre3 : Fld Z h0 a0 "com/example/nodeset/nodeset/NodeName" "namespace" "Ljava/lang/String;" .null) (pre4 : Fld Z h0 a0 "com/example/nodeset/nodeset/NodeName" "localName" "Ljava/lang/String;" .null) (pre5 : Fld Z h0 a0 "com/example/nodeset/nodeset/NodeName" "prefix" "Ljava/lang/String;" .null) :
    MetFree l (⟨"com/example/nodeset/nodeset/NodeName", "<init>", "(Lcom/example/nodeset/nodeset/NodeKind;Ljava/lang/String;Ljava/lang/String;Ljava/lang/String;)V"⟩ : MethodName) (head1 (Jvm.Cond.code (⟨"com/example/nodeset/nodeset/NodeName", "<init>", "(Lcom/example/nodeset/nodeset/NodeKind;Ljava/lang/String;Ljava/lang/String;Ljava/lang/String;)V"⟩ : MethodName) prog_41_method_1_code 5 none :: ws) ({ frames := 2, cells := 0, slots := 0, locals := 24 } : Room)) (fun a U => a = #[(.ref a0), (.ref a1), (.ref a2), (.ref a3), (.ref a4)] ∧ Z.Warmed39 U.vm ∧ U.heap = h0) (fun _ _ _ _ _ => True) (fun _ U o U' => ∃ v L, o = .returned v ∧ own_Q19 Z a0 a1 a2 a3 a4 h0 n0 v U'.heap L ∧ FrameEnd U o U' L ({ frames := 2, cells := 0, slots := 0, locals := 24 } : Room).cells ({ frames := 2, cells := 0, slots := 0, locals := 24 } : Room).slots) := by
  refine MetFree.of_bodySF (plainFor_of_name own_pn19) hisR ?_
  intro p e s m args below meth c s₁ Bd hml0 hP hK
  obtain ⟨rfl, hZ, hh⟩ := hP
  have hx := Bd.exec
  have hby := Bd.bytes
  have hlk : meth.locks = false := Bd.notSynchronized
  have hml : c.maxLocals = 5 := hml0
  have hown : s.vm.findClass "com/example/nodeset/nodeset/NodeName" = some m.cls := findClass_of_methodNamed Bd.named
  have hnm := (name_of_methodNamed Bd.named Bd.method).1
  have X0 : Stand p l e ({ frames := 2, cells := 0, slots := 0, locals := 24 } : Room) s m #[(.ref a0), (.ref a1), (.ref a2), (.ref a3), (.ref a4)] below meth c s₁ [] 0 0 := Stand.of_body Bd
  have e0 : s₁.heap = h0 := by rw [← hh, Bd.state]; rfl
  have N0 := Fr.nil n0
  show OG p e below (FE s ({ frames := 2, cells := 0, slots := 0, locals := 24 } : Room).cells ({ frames := 2, cells := 0, slots := 0, locals := 24 } : Room).slots) (own_Q19 Z a0 a1 a2 a3 a4 h0 n0) (s₁.setTop (entryFrame m #[(.ref a0), (.ref a1), (.ref a2), (.ref a3), (.ref a4)] 5))
  refine og_of (fun _ k => castTop (own_ef19 m a0 a1 a2 a3 a4) k) ?_
  refine o_aloadN X0 hx rfl (hb hby own_d19_0) rfl rfl ?_
  obtain ⟨_, _, ⟨T1, L1, k1, n1⟩, -, X1, ⟨Lc1, hQ1, l1, y1, z1⟩, st1⟩ := X0.specialBack hx (y := (⟨"java/lang/Record", "<init>", "()V"⟩ : MethodName)) rfl hown (mvT hZ (hw _ (List.mem_of_getElem? (i := 148) rfl))) (mvT hZ (hw _ (List.mem_of_getElem? (i := 14) rfl))) (mvT hZ (hw _ (List.mem_of_getElem? (i := 17) rfl))) (by decide) (backOf (W := 0) (own_rm3 l Z aA hw [] a0 h0 n0 Z0) hZ (hw _ (List.mem_of_getElem? (i := 17) rfl)) (hw _ (List.mem_of_getElem? (i := 16) rfl)) (by decide) (by decide)) (g := (mkF m 1 #[.val (.ref a0), .val (.ref a1), .val (.ref a2), .val (.ref a3), .val (.ref a4)] [(.ref a0)])) rfl (by rw [hml]; rfl) (Steps.refl _) (a := a0) (argsL := []) (rest := []) (lenOf own_pd0 rfl) rfl (by show 2 * 0 + _ ≤ _; exact Nat.le_of_eq rfl) (hb hby own_d19_1) (fun _ _ => ⟨rfl, e0, Nat.le_of_ble_eq_true rfl, Nat.le_of_ble_eq_true rfl⟩)
  dsimp only [Pt.U, Pt.locs, Pt.cells, Pt.slots] at X1 l1 y1 z1 st1 hQ1
  subst l1 y1 z1
  obtain ⟨rfl, N1q, ee1⟩ := hQ1
  have N2 := Fr.app N0 N1q
  refine og_tr st1 ?_
  show OG p e below _ _ (T1.setTop (mkF m 4 #[.val (.ref a0), .val (.ref a1), .val (.ref a2), .val (.ref a3), .val (.ref a4)] []))
  refine o_aloadN X1 hx rfl (hb hby own_d19_4) rfl rfl ?_
  refine o_aloadN X1 hx rfl (hb hby own_d19_5) rfl rfl ?_
  obtain ⟨T3, h3, X3, e3, W3, st3⟩ := putF X1 hx hZ hown (host := "") (Or.inl (hw _ (List.mem_of_getElem? (i := 61) rfl))) Via.refl ee1 pre2 pre0 (Or.inr ⟨(hw _ (List.mem_of_getElem? (i := 62) rfl)), rfl, hnm⟩) (hw _ (List.mem_of_getElem? (i := 141) rfl)) (ty := (.object "com/example/nodeset/nodeset/NodeKind")) (by decide) rfl rfl (g := (mkF m 6 #[.val (.ref a0), .val (.ref a1), .val (.ref a2), .val (.ref a3), .val (.ref a4)] [(.ref a1), (.ref a0)])) rfl rfl (hb hby own_d19_6)
  have Fw3 := pre2.same W3
  have N3 := Fr.snoc X3 N2 pre1
  have Kp4 : Keep h0 h3 [a0] := (Keep.refl h0 [a0]).wr W3 (Or.inl (List.mem_of_getElem? (i := 0) rfl))
  refine og_of st3 ?_
  show OG p e below _ _ (T3.setTop (mkF m 9 #[.val (.ref a0), .val (.ref a1), .val (.ref a2), .val (.ref a3), .val (.ref a4)] []))
  refine o_aloadN X3 hx rfl (hb hby own_d19_9) rfl rfl ?_
  refine o_aloadN X3 hx rfl (hb hby own_d19_10) rfl rfl ?_
  have Fc5 : Exa Z h3 a0 "com/example/nodeset/nodeset/NodeName" := (Exa.wr W3 pre0)
  have Fc6 : Fld Z h3 a0 "com/example/nodeset/nodeset/NodeName" "namespace" "Ljava/lang/String;" .null := (Fld.other W3 pre3 (Or.inr (slot_ne (Or.inr (hw _ (List.mem_of_getElem? (i := 150) rfl))) (Or.inr (hw _ (List.mem_of_getElem? (i := 62) rfl))) (by decide) (t := (.object "java/lang/String")) (t' := (.object "com/example/nodeset/nodeset/NodeKind")) (by decide) (by decide))))
  obtain ⟨T7, h7, X7, e7, W7, st7⟩ := putF X3 hx hZ hown (host := "") (Or.inl (hw _ (List.mem_of_getElem? (i := 149) rfl))) Via.refl e3 Fc6 Fc5 (Or.inr ⟨(hw _ (List.mem_of_getElem? (i := 150) rfl)), rfl, hnm⟩) (hw _ (List.mem_of_getElem? (i := 141) rfl)) (ty := (.object "java/lang/String")) (by decide) rfl rfl (g := (mkF m 11 #[.val (.ref a0), .val (.ref a1), .val (.ref a2), .val (.ref a3), .val (.ref a4)] [(.ref a2), (.ref a0)])) rfl rfl (hb hby own_d19_11)
  have Fw7 := Fc6.same W7
  have N7 := Fr.snoc X7 N3 pre1
  have Kp8 : Keep h0 h7 [a0] := Kp4.wr W7 (Or.inl (List.mem_of_getElem? (i := 0) rfl))
  refine og_of st7 ?_
  show OG p e below _ _ (T7.setTop (mkF m 14 #[.val (.ref a0), .val (.ref a1), .val (.ref a2), .val (.ref a3), .val (.ref a4)] []))
  refine o_aloadN X7 hx rfl (hb hby own_d19_14) rfl rfl ?_
  refine o_aloadN X7 hx rfl (hb hby own_d19_15) rfl rfl ?_
  have Fc9 : Exa Z h7 a0 "com/example/nodeset/nodeset/NodeName" := (Exa.wr W7 Fc5)
  have Fc10 : Fld Z h7 a0 "com/example/nodeset/nodeset/NodeName" "localName" "Ljava/lang/String;" .null := (Fld.other W7 (Fld.other W3 pre4 (Or.inr (slot_ne (Or.inr (hw _ (List.mem_of_getElem? (i := 152) rfl))) (Or.inr (hw _ (List.mem_of_getElem? (i := 62) rfl))) (by decide) (t := (.object "java/lang/String")) (t' := (.object "com/example/nodeset/nodeset/NodeKind")) (by decide) (by decide)))) (Or.inr (slot_ne (Or.inr (hw _ (List.mem_of_getElem? (i := 152) rfl))) (Or.inr (hw _ (List.mem_of_getElem? (i := 150) rfl))) (by decide) (t := (.object "java/lang/String")) (t' := (.object "java/lang/String")) (by decide) (by decide))))
  obtain ⟨T11, h11, X11, e11, W11, st11⟩ := putF X7 hx hZ hown (host := "") (Or.inl (hw _ (List.mem_of_getElem? (i := 151) rfl))) Via.refl e7 Fc10 Fc9 (Or.inr ⟨(hw _ (List.mem_of_getElem? (i := 152) rfl)), rfl, hnm⟩) (hw _ (List.mem_of_getElem? (i := 141) rfl)) (ty := (.object "java/lang/String")) (by decide) rfl rfl (g := (mkF m 16 #[.val (.ref a0), .val (.ref a1), .val (.ref a2), .val (.ref a3), .val (.ref a4)] [(.ref a3), (.ref a0)])) rfl rfl (hb hby own_d19_16)
  have Fw11 := Fc10.same W11
  have N11 := Fr.snoc X11 N7 pre1
  have Kp12 : Keep h0 h11 [a0] := Kp8.wr W11 (Or.inl (List.mem_of_getElem? (i := 0) rfl))
  refine og_of st11 ?_
  show OG p e below _ _ (T11.setTop (mkF m 19 #[.val (.ref a0), .val (.ref a1), .val (.ref a2), .val (.ref a3), .val (.ref a4)] []))
  refine o_aloadN X11 hx rfl (hb hby own_d19_19) rfl rfl ?_
  refine o_aload X11 hx rfl (hb hby own_d19_20) rfl rfl ?_
  have Fc13 : Exa Z h11 a0 "com/example/nodeset/nodeset/NodeName" := (Exa.wr W11 Fc9)
  have Fc14 : Fld Z h11 a0 "com/example/nodeset/nodeset/NodeName" "prefix" "Ljava/lang/String;" .null := (Fld.other W11 (Fld.other W7 (Fld.other W3 pre5 (Or.inr (slot_ne (Or.inr (hw _ (List.mem_of_getElem? (i := 154) rfl))) (Or.inr (hw _ (List.mem_of_getElem? (i := 62) rfl))) (by decide) (t := (.object "java/lang/String")) (t' := (.object "com/example/nodeset/nodeset/NodeKind")) (by decide) (by decide)))) (Or.inr (slot_ne (Or.inr (hw _ (List.mem_of_getElem? (i := 154) rfl))) (Or.inr (hw _ (List.mem_of_getElem? (i := 150) rfl))) (by decide) (t := (.object "java/lang/String")) (t' := (.object "java/lang/String")) (by decide) (by decide)))) (Or.inr (slot_ne (Or.inr (hw _ (List.mem_of_getElem? (i := 154) rfl))) (Or.inr (hw _ (List.mem_of_getElem? (i := 152) rfl))) (by decide) (t := (.object "java/lang/String")) (t' := (.object "java/lang/String")) (by decide) (by decide))))
  obtain ⟨T15, h15, X15, e15, W15, st15⟩ := putF X11 hx hZ hown (host := "") (Or.inl (hw _ (List.mem_of_getElem? (i := 153) rfl))) Via.refl e11 Fc14 Fc13 (Or.inr ⟨(hw _ (List.mem_of_getElem? (i := 154) rfl)), rfl, hnm⟩) (hw _ (List.mem_of_getElem? (i := 141) rfl)) (ty := (.object "java/lang/String")) (by decide) rfl rfl (g := (mkF m 22 #[.val (.ref a0), .val (.ref a1), .val (.ref a2), .val (.ref a3), .val (.ref a4)] [(.ref a4), (.ref a0)])) rfl rfl (hb hby own_d19_22)
  have Fw15 := Fc14.same W15
  have N15 := Fr.snoc X15 N11 pre1
  have Kp16 : Keep h0 h15 [a0] := Kp12.wr W15 (Or.inl (List.mem_of_getElem? (i := 0) rfl))
  refine og_of st15 ?_
  show OG p e below _ _ (T15.setTop (mkF m 25 #[.val (.ref a0), .val (.ref a1), .val (.ref a2), .val (.ref a3), .val (.ref a4)] []))
  have Fc17 : Fld Z h15 a0 "com/example/nodeset/nodeset/NodeName" "kind" "Lcom/example/nodeset/nodeset/NodeKind;" (.ref a1) := (Fld.other W15 (Fld.other W11 (Fld.other W7 Fw3 (Or.inr (slot_ne (Or.inr (hw _ (List.mem_of_getElem? (i := 62) rfl))) (Or.inr (hw _ (List.mem_of_getElem? (i := 150) rfl))) (by decide) (t := (.object "com/example/nodeset/nodeset/NodeKind")) (t' := (.object "java/lang/String")) (by decide) (by decide)))) (Or.inr (slot_ne (Or.inr (hw _ (List.mem_of_getElem? (i := 62) rfl))) (Or.inr (hw _ (List.mem_of_getElem? (i := 152) rfl))) (by decide) (t := (.object "com/example/nodeset/nodeset/NodeKind")) (t' := (.object "java/lang/String")) (by decide) (by decide)))) (Or.inr (slot_ne (Or.inr (hw _ (List.mem_of_getElem? (i := 62) rfl))) (Or.inr (hw _ (List.mem_of_getElem? (i := 154) rfl))) (by decide) (t := (.object "com/example/nodeset/nodeset/NodeKind")) (t' := (.object "java/lang/String")) (by decide) (by decide))))
  have Fc18 : Fld Z h15 a0 "com/example/nodeset/nodeset/NodeName" "namespace" "Ljava/lang/String;" (.ref a2) := (Fld.other W15 (Fld.other W11 Fw7 (Or.inr (slot_ne (Or.inr (hw _ (List.mem_of_getElem? (i := 150) rfl))) (Or.inr (hw _ (List.mem_of_getElem? (i := 152) rfl))) (by decide) (t := (.object "java/lang/String")) (t' := (.object "java/lang/String")) (by decide) (by decide)))) (Or.inr (slot_ne (Or.inr (hw _ (List.mem_of_getElem? (i := 150) rfl))) (Or.inr (hw _ (List.mem_of_getElem? (i := 154) rfl))) (by decide) (t := (.object "java/lang/String")) (t' := (.object "java/lang/String")) (by decide) (by decide))))
  have Fc19 : Fld Z h15 a0 "com/example/nodeset/nodeset/NodeName" "localName" "Ljava/lang/String;" (.ref a3) := (Fld.other W15 Fw11 (Or.inr (slot_ne (Or.inr (hw _ (List.mem_of_getElem? (i := 152) rfl))) (Or.inr (hw _ (List.mem_of_getElem? (i := 154) rfl))) (by decide) (t := (.object "java/lang/String")) (t' := (.object "java/lang/String")) (by decide) (by decide))))
  exact o_ret0 X15 hx Bd.returns (own_lv X15 hlk (by decide) (by decide)) (hb hby own_d19_25) ⟨rfl, N15, (by rw [e15]; exact Kp16), (by rw [e15]; exact Fc17), (by rw [e15]; exact Fc18), (by rw [e15]; exact Fc19), (by rw [e15]; exact Fw15)⟩
theorem own_pd1 : parseMethodDescriptor "(Lcom/example/nodeset/nodeset/NodeKind;Ljava/lang/String;Ljava/lang/String;Ljava/lang/String;)V" = some ⟨[(.object "com/example/nodeset/nodeset/NodeKind"), (.object "java/lang/String"), (.object "java/lang/String"), (.object "java/lang/String")], none⟩ := by decide +kernel
theorem own_d18_0 : decode prog_41_method_5_code 0 = .ok (.new 8, 3) := by decide +kernel
theorem own_d18_3 : decode prog_41_method_5_code 3 = .ok (.dup, 1) := by decide +kernel
theorem own_d18_4 : decode prog_41_method_5_code 4 = .ok (.getstatic 43, 3) := by decide +kernel
theorem own_d18_7 : decode prog_41_method_5_code 7 = .ok (.ldc 46, 2) := by decide +kernel
theorem own_d18_9 : decode prog_41_method_5_code 9 = .ok (.aload_n 0, 1) := by decide +kernel
theorem own_d18_10 : decode prog_41_method_5_code 10 = .ok (.ldc 46, 2) := by decide +kernel
theorem own_d18_12 : decode prog_41_method_5_code 12 = .ok (.invokespecial 48, 3) := by decide +kernel
theorem own_d18_15 : decode prog_41_method_5_code 15 = .ok (.areturn, 1) := by decide +kernel
theorem own_ef18 (m : MethodId) (a0 : Addr) : entryFrame m #[(.ref a0)] 1 = mkF m 0 #[.val (.ref a0)] [] := by first | (simp [entryFrame, mkF, argsToLocals, Value.category]; done) | rfl
def own_Q18 (Z : State) (a0 : Addr) (kp : Addr) (h0 : Heap) (n0 : Nat) (v : Option Value) (h : Heap) (L : List Loc) : Prop := ∃ (b : Addr), v = some (.ref b) ∧ Fr n0 L ∧ Keep h0 h [] ∧ h0.size ≤ b ∧ Exa Z h b "com/example/nodeset/nodeset/NodeName" ∧ Fld Z h b "com/example/nodeset/nodeset/NodeName" "kind" "Lcom/example/nodeset/nodeset/NodeKind;" (.ref kp)
set_option maxRecDepth 65536 in
set_option maxHeartbeats 40000000 in
theorem own_rm18 (l : Launch) (Z : State) (aA : Array Value) (hw : ∀ d ∈ tables_1, d.before aA Z = true) (ws : List Jvm.Cond) (a0 : Addr) (kp : Addr) (h0 : Heap) (n0 : Nat) (Z0 : n0 ≤ h0.size) (pre0 : Sta Z h0 "com/example/nodeset/nodeset/NodeKind" "PROCESSING_INSTRUCTION" "Lcom/example/nodeset/nodeset/NodeKind;" (.ref kp)) (pre1 : Exa Z h0 kp "com/example/nodeset/nodeset/NodeKind") :
    MetFree l (⟨"com/example/nodeset/nodeset/NodeName", "instruction", "(Ljava/lang/String;)Lcom/example/nodeset/nodeset/NodeName;"⟩ : MethodName) (head1 (Jvm.Cond.code (⟨"com/example/nodeset/nodeset/NodeName", "instruction", "(Ljava/lang/String;)Lcom/example/nodeset/nodeset/NodeName;"⟩ : MethodName) prog_41_method_5_code 1 (some (.object "com/example/nodeset/nodeset/NodeName")) :: ws) ({ frames := 3, cells := 5, slots := 12, locals := 41 } : Room)) (fun a U => a = #[(.ref a0)] ∧ Z.Warmed39 U.vm ∧ U.heap = h0) (fun _ _ _ _ _ => True) (fun _ U o U' => ∃ v L, o = .returned v ∧ own_Q18 Z a0 kp h0 n0 v U'.heap L ∧ ReturnedEndW U o U' L ({ frames := 3, cells := 5, slots := 12, locals := 41 } : Room).cells ({ frames := 3, cells := 5, slots := 12, locals := 41 } : Room).slots) := by
  refine MetFree.of_bodySF (plainFor_of_name own_pn19) hisR ?_
  intro p e s m args below meth c s₁ Bd hml0 hP hK
  obtain ⟨rfl, hZ, hh⟩ := hP
  have hx := Bd.exec
  have hby := Bd.bytes
  have hlk : meth.locks = false := Bd.notSynchronized
  have hml : c.maxLocals = 1 := hml0
  have hown : s.vm.findClass "com/example/nodeset/nodeset/NodeName" = some m.cls := findClass_of_methodNamed Bd.named
  have hnm := (name_of_methodNamed Bd.named Bd.method).1
  have X0 : Stand p l e ({ frames := 3, cells := 5, slots := 12, locals := 41 } : Room) s m #[(.ref a0)] below meth c s₁ [] 0 0 := Stand.of_body Bd
  have e0 : s₁.heap = h0 := by rw [← hh, Bd.state]; rfl
  have N0 := Fr.nil n0
  replace X0 : Stand p l e ({ frames := 3, cells := 5, slots := 12, locals := 41 } : Room) (s.setVm s.vm) m #[(.ref a0)] below meth c s₁ [] 0 0 := X0
  replace hZ : Z.Warmed39 (s.setVm s.vm).vm := hZ
  replace hown : (s.setVm s.vm).vm.findClass "com/example/nodeset/nodeset/NodeName" = some m.cls := hown
  have hS0 : s.Since s.vm h0.size := (State.WarmedH.refl s).since _
  show OG p e below (FEW s ({ frames := 3, cells := 5, slots := 12, locals := 41 } : Room).cells ({ frames := 3, cells := 5, slots := 12, locals := 41 } : Room).slots) (own_Q18 Z a0 kp h0 n0) (s₁.setTop (entryFrame m #[(.ref a0)] 1))
  refine og_of (fun _ k => castTop (own_ef18 m a0) k) ?_
  obtain ⟨T1, h1, X1, e1, E1, A1, D1, -, st1⟩ := newO X0 hx hZ hown (hw _ (List.mem_of_getElem? (i := 140) rfl)) (hw _ (List.mem_of_getElem? (i := 141) rfl)) (hw _ (List.mem_of_getElem? (i := 5) rfl)) e0 (g := (mkF m 0 #[.val (.ref a0)] [])) rfl (hb hby own_d18_0) (by decide) (by decide)
  obtain ⟨b1, g1⟩ : ∃ z, z = h0.size := ⟨_, rfl⟩
  rw [← g1] at A1 D1 st1
  have ne2 : kp ≠ b1 := Nat.ne_of_lt (Nat.lt_of_lt_of_le pre1.lt (Nat.le_of_eq g1.symm))
  have gn1 : n0 ≤ b1 := Nat.le_trans Z0 (Nat.le_of_eq g1.symm)
  have sz1 : h0.size ≤ b1 := Nat.le_trans (Keep.refl h0 []).1 (Nat.le_of_eq g1.symm)
  have Kp3 : Keep h0 h1 [] := (Keep.refl h0 []).ext E1
  have F1_62 : Fld Z h1 b1 "com/example/nodeset/nodeset/NodeName" "kind" "Lcom/example/nodeset/nodeset/NodeKind;" .null := D1 (Or.inr (hw _ (List.mem_of_getElem? (i := 62) rfl))) (ty := (.object "com/example/nodeset/nodeset/NodeKind")) (by decide)
  have F1_150 : Fld Z h1 b1 "com/example/nodeset/nodeset/NodeName" "namespace" "Ljava/lang/String;" .null := D1 (Or.inr (hw _ (List.mem_of_getElem? (i := 150) rfl))) (ty := (.object "java/lang/String")) (by decide)
  have F1_152 : Fld Z h1 b1 "com/example/nodeset/nodeset/NodeName" "localName" "Ljava/lang/String;" .null := D1 (Or.inr (hw _ (List.mem_of_getElem? (i := 152) rfl))) (ty := (.object "java/lang/String")) (by decide)
  have F1_154 : Fld Z h1 b1 "com/example/nodeset/nodeset/NodeName" "prefix" "Ljava/lang/String;" .null := D1 (Or.inr (hw _ (List.mem_of_getElem? (i := 154) rfl))) (ty := (.object "java/lang/String")) (by decide)
  refine og_of st1 ?_
  show OG p e below _ _ (T1.setTop (mkF m 3 #[.val (.ref a0)] [(.ref b1)]))
  refine o_dup X1 hx rfl (hb hby own_d18_3) rfl ?_
  have Fc4 : Sta Z h1 "com/example/nodeset/nodeset/NodeKind" "PROCESSING_INSTRUCTION" "Lcom/example/nodeset/nodeset/NodeKind;" (.ref kp) := (Sta.ext E1 pre0)
  obtain ⟨T5, X5, e5, st5⟩ := getS2 X1 hx hZ hown (host := "") (Or.inl (hw _ (List.mem_of_getElem? (i := 142) rfl))) Via.refl e1 Fc4 (g := (mkF m 4 #[.val (.ref a0)] [(.ref b1), (.ref b1)])) rfl (hb hby own_d18_4)
  refine og_of st5 ?_
  show OG p e below _ _ (T5.setTop (mkF m 7 #[.val (.ref a0)] [(.ref kp), (.ref b1), (.ref b1)]))
  obtain ⟨b6, T6, h6, k16, X6, e6, E6, hS6, hk6, hZ, hown, st6⟩ := ldcS X5 hx hZ hown (hw _ (List.mem_of_getElem? (i := 144) rfl)) (own_strW hw) e5 hS0 (Nat.le_trans (Nat.le_refl h0.size) E1.1) (g := (mkF m 7 #[.val (.ref a0)] [(.ref kp), (.ref b1), (.ref b1)])) rfl (hb hby own_d18_7) (n := 0) (by decide) (by decide) (by decide) (by decide)
  have Kp7 : Keep h0 h6 [] := Kp3.ext E6
  refine og_of st6 ?_
  show OG p e below _ _ (T6.setTop (mkF m 9 #[.val (.ref a0)] [(.ref b6), (.ref kp), (.ref b1), (.ref b1)]))
  refine o_aloadN X6 hx rfl (hb hby own_d18_9) rfl rfl ?_
  obtain ⟨b8, T8, h8, k18, X8, e8, E8, hS8, hk8, hZ, hown, st8⟩ := ldcS X6 hx hZ hown (hw _ (List.mem_of_getElem? (i := 144) rfl)) (own_strW hw) e6 hS6 hk6 (g := (mkF m 10 #[.val (.ref a0)] [(.ref a0), (.ref b6), (.ref kp), (.ref b1), (.ref b1)])) rfl (hb hby own_d18_10) (n := 0) (by decide) (by decide) (by decide) (by decide)
  have Kp9 : Keep h0 h8 [] := Kp7.ext E8
  refine og_of st8 ?_
  show OG p e below _ _ (T8.setTop (mkF m 12 #[.val (.ref a0)] [(.ref b8), (.ref a0), (.ref b6), (.ref kp), (.ref b1), (.ref b1)]))
  have Fc11 : Exa Z h8 b1 "com/example/nodeset/nodeset/NodeName" := (Exa.ext E8 (Exa.ext E6 A1))
  have Fc12 : Fld Z h8 b1 "com/example/nodeset/nodeset/NodeName" "kind" "Lcom/example/nodeset/nodeset/NodeKind;" .null := (Fld.ext E8 (Fld.ext E6 F1_62))
  have Fc13 : Fld Z h8 b1 "com/example/nodeset/nodeset/NodeName" "namespace" "Ljava/lang/String;" .null := (Fld.ext E8 (Fld.ext E6 F1_150))
  have Fc14 : Fld Z h8 b1 "com/example/nodeset/nodeset/NodeName" "localName" "Ljava/lang/String;" .null := (Fld.ext E8 (Fld.ext E6 F1_152))
  have Fc15 : Fld Z h8 b1 "com/example/nodeset/nodeset/NodeName" "prefix" "Ljava/lang/String;" .null := (Fld.ext E8 (Fld.ext E6 F1_154))
  obtain ⟨_, _, ⟨T10, L10, k10, n10⟩, -, X10, ⟨Lc10, hQ10, l10, y10, z10⟩, st10⟩ := X8.specialBack hx (y := (⟨"com/example/nodeset/nodeset/NodeName", "<init>", "(Lcom/example/nodeset/nodeset/NodeKind;Ljava/lang/String;Ljava/lang/String;Ljava/lang/String;)V"⟩ : MethodName)) rfl hown (mvT hZ (hw _ (List.mem_of_getElem? (i := 145) rfl))) (mvT hZ (hw _ (List.mem_of_getElem? (i := 146) rfl))) (mvT hZ (hw _ (List.mem_of_getElem? (i := 147) rfl))) (by decide) (backOf (W := 1) (own_rm19 l Z aA hw [] b1 kp b6 a0 b8 h8 n0 (Nat.le_trans (Nat.le_trans (Nat.le_trans Z0 E1.1) E6.1) E8.1) Fc11 gn1 Fc12 Fc13 Fc14 Fc15) hZ (hw _ (List.mem_of_getElem? (i := 147) rfl)) (hw _ (List.mem_of_getElem? (i := 5) rfl)) (by decide) (by decide)) (g := (mkF m 12 #[.val (.ref a0)] [(.ref b8), (.ref a0), (.ref b6), (.ref kp), (.ref b1), (.ref b1)])) rfl (by rw [hml]; rfl) (Steps.refl _) (a := b1) (argsL := [(.ref kp), (.ref b6), (.ref a0), (.ref b8)]) (rest := [(.ref b1)]) (lenOf own_pd1 rfl) rfl (by show 2 * 0 + _ ≤ _; exact Nat.le_of_eq rfl) (hb hby own_d18_12) (fun _ _ => ⟨rfl, e8, Nat.le_of_ble_eq_true rfl, Nat.le_of_ble_eq_true rfl⟩)
  dsimp only [Pt.U, Pt.locs, Pt.cells, Pt.slots] at X10 l10 y10 z10 st10 hQ10
  subst l10 y10 z10
  obtain ⟨rfl, N10q, K10, f10_0, f10_1, f10_2, f10_3⟩ := hQ10
  have N16 := Fr.app N0 N10q
  have Kp17 : Keep h0 T10.heap [] := Kp9.trans K10 (allS (Or.inr sz1) all0)
  refine og_tr st10 ?_
  show OG p e below _ _ (T10.setTop (mkF m 15 #[.val (.ref a0)] [(.ref b1)]))
  have Fc18 : Exa Z T10.heap b1 "com/example/nodeset/nodeset/NodeName" := (Fc11.keep K10)
  exact o_retA X10 hx Bd.returns rfl (own_lvW X10 hlk hS8 (by exact (Nat.le_trans hk8 K10.1)) (by decide) (by decide)) (hb hby own_d18_15) rfl rfl ⟨b1, rfl, N16, (Kp17), sz1, Fc18, f10_0⟩
theorem own_pd2 : parseMethodDescriptor "(Ljava/lang/String;)Lcom/example/nodeset/nodeset/NodeName;" = some ⟨[(.object "java/lang/String")], some (.object "com/example/nodeset/nodeset/NodeName")⟩ := by decide +kernel
theorem own_d1_0 : decode method_2_code 0 = .ok (.iload_n 0, 1) := by decide +kernel
theorem own_d1_1 : decode method_2_code 1 = .ok (.ifCond .ne 7, 3) := by decide +kernel
theorem own_d1_4 : decode method_2_code 4 = .ok (.getstatic 7, 3) := by decide +kernel
theorem own_d1_7 : decode method_2_code 7 = .ok (.areturn, 1) := by decide +kernel
theorem own_d1_8 : decode method_2_code 8 = .ok (.iload_n 0, 1) := by decide +kernel
theorem own_d1_9 : decode method_2_code 9 = .ok (.iconst 1, 1) := by decide +kernel
theorem own_d1_10 : decode method_2_code 10 = .ok (.if_icmp .ne 7, 3) := by decide +kernel
theorem own_d1_13 : decode method_2_code 13 = .ok (.getstatic 13, 3) := by decide +kernel
theorem own_d1_16 : decode method_2_code 16 = .ok (.areturn, 1) := by decide +kernel
theorem own_d1_17 : decode method_2_code 17 = .ok (.iload_n 0, 1) := by decide +kernel
theorem own_d1_18 : decode method_2_code 18 = .ok (.iconst 2, 1) := by decide +kernel
theorem own_d1_19 : decode method_2_code 19 = .ok (.if_icmp .ne 7, 3) := by decide +kernel
theorem own_d1_22 : decode method_2_code 22 = .ok (.getstatic 16, 3) := by decide +kernel
theorem own_d1_25 : decode method_2_code 25 = .ok (.areturn, 1) := by decide +kernel
theorem own_d1_26 : decode method_2_code 26 = .ok (.ldc 19, 2) := by decide +kernel
theorem own_d1_28 : decode method_2_code 28 = .ok (.invokestatic 21, 3) := by decide +kernel
theorem own_d1_31 : decode method_2_code 31 = .ok (.areturn, 1) := by decide +kernel
def own_f1_num (p0 : Int32) (t0 : Addr) (t1 : Addr) (t2 : Addr) (kp : Addr) (k0 : Addr) (k1 : Addr) (k2 : Addr) : Int32 := (if p0 = (0 : Int32) then (0 : Int32) else (if p0 = (1 : Int32) then (1 : Int32) else (if p0 = (2 : Int32) then (0 : Int32) else (0 : Int32))))
theorem own_ef1 (m : MethodId) (p0 : Int32) : entryFrame m #[(.int p0)] 1 = mkF m 0 #[.val (.int p0)] [] := by first | (simp [entryFrame, mkF, argsToLocals, Value.category]; done) | rfl
def own_Q1 (Z : State) (p0 : Int32) (t0 : Addr) (t1 : Addr) (t2 : Addr) (kp : Addr) (k0 : Addr) (k1 : Addr) (k2 : Addr) (h0 : Heap) (n0 : Nat) (v : Option Value) (h : Heap) (L : List Loc) : Prop := ∃ (b kk : Addr), v = some (.ref b) ∧ Fr n0 L ∧ Keep h0 h [] ∧ Exa Z h b "com/example/nodeset/nodeset/NodeName" ∧ Fld Z h b "com/example/nodeset/nodeset/NodeName" "kind" "Lcom/example/nodeset/nodeset/NodeKind;" (.ref kk) ∧ Exa Z h kk "com/example/nodeset/nodeset/NodeKind" ∧ Fld Z h kk "com/example/nodeset/nodeset/NodeKind" "numbered" "Z" (.int (own_f1_num p0 t0 t1 t2 kp k0 k1 k2))
theorem own_pn45 : plainName "com/example/nodeset/nodeset/MutableLabelSetPinLaw" = true := by first | (simp [plainName, overriddenIn]; done) | decide +kernel
set_option maxRecDepth 65536 in
set_option maxHeartbeats 40000000 in
theorem own_rm1 (l : Launch) (Z : State) (aA : Array Value) (hw : ∀ d ∈ tables_1, d.before aA Z = true) (ws : List Jvm.Cond) (p0 : Int32) (t0 : Addr) (t1 : Addr) (t2 : Addr) (kp : Addr) (k0 : Addr) (k1 : Addr) (k2 : Addr) (h0 : Heap) (n0 : Nat) (Z0 : n0 ≤ h0.size) (pre0 : Sta Z h0 "com/example/nodeset/nodeset/NodeName" "TEXT" "Lcom/example/nodeset/nodeset/NodeName;" (.ref t0)) (pre1 : Sta Z h0 "com/example/nodeset/nodeset/NodeName" "DOCUMENT" "Lcom/example/nodeset/nodeset/NodeName;" (.ref t1)) (pre2 : Sta Z h0 "com/example/nodeset/nodeset/NodeName" "COMMENT" "Lcom/example/nodeset/nodeset/NodeName;" (.ref t2)) (pre3 : Sta Z h0 "com/example/nodeset/nodeset/NodeKind" "PROCESSING_INSTRUCTION" "Lcom/example/nodeset/nodeset/NodeKind;" (.ref kp)) (pre4 : Exa Z h0 t0 "com/example/nodeset/nodeset/NodeName") (pre5 : Exa Z h0 t1 "com/example/nodeset/nodeset/NodeName") (pre6 : Exa Z h0 t2 "com/example/nodeset/nodeset/NodeName") (pre7 : Fld Z h0 t0 "com/example/nodeset/nodeset/NodeName" "kind" "Lcom/example/nodeset/nodeset/NodeKind;" (.ref k0)) (pre8 : Fld Z h0 t1 "com/example/nodeset/nodeset/NodeName" "kind" "Lcom/example/nodeset/nodeset/NodeKind;" (.ref k1)) (pre9 : Fld Z h0 t2 "com/example/nodeset/nodeset/NodeName" "kind" "Lcom/example/nodeset/nodeset/NodeKind;" (.ref k2)) (pre10 : Exa Z h0 k0 "com/example/nodeset/nodeset/NodeKind") (pre11 : Exa Z h0 k1 "com/example/nodeset/nodeset/NodeKind") (pre12 : Exa Z h0 k2 "com/example/nodeset/nodeset/NodeKind") (pre13 : Exa Z h0 kp "com/example/nodeset/nodeset/NodeKind") (pre14 : Fld Z h0 k0 "com/example/nodeset/nodeset/NodeKind" "numbered" "Z" (.int (0 : Int32))) (pre15 : Fld Z h0 k1 "com/example/nodeset/nodeset/NodeKind" "numbered" "Z" (.int (1 : Int32))) (pre16 : Fld Z h0 k2 "com/example/nodeset/nodeset/NodeKind" "numbered" "Z" (.int (0 : Int32))) (pre17 : Fld Z h0 kp "com/example/nodeset/nodeset/NodeKind" "numbered" "Z" (.int (0 : Int32))) :
    MetFree l (⟨"com/example/nodeset/nodeset/MutableLabelSetPinLaw", "name", "(I)Lcom/example/nodeset/nodeset/NodeName;"⟩ : MethodName) (head1 (Jvm.Cond.code (⟨"com/example/nodeset/nodeset/MutableLabelSetPinLaw", "name", "(I)Lcom/example/nodeset/nodeset/NodeName;"⟩ : MethodName) method_2_code 1 (some (.object "com/example/nodeset/nodeset/NodeName")) :: ws) ({ frames := 4, cells := 7, slots := 20, locals := 53 } : Room)) (fun a U => a = #[(.int p0)] ∧ Z.Warmed39 U.vm ∧ U.heap = h0) (fun _ _ _ _ _ => True) (fun _ U o U' => ∃ v L, o = .returned v ∧ own_Q1 Z p0 t0 t1 t2 kp k0 k1 k2 h0 n0 v U'.heap L ∧ ReturnedEndW U o U' L ({ frames := 4, cells := 7, slots := 20, locals := 53 } : Room).cells ({ frames := 4, cells := 7, slots := 20, locals := 53 } : Room).slots) := by
  refine MetFree.of_bodySF (plainFor_of_name own_pn45) hisR ?_
  intro p e s m args below meth c s₁ Bd hml0 hP hK
  obtain ⟨rfl, hZ, hh⟩ := hP
  have hx := Bd.exec
  have hby := Bd.bytes
  have hlk : meth.locks = false := Bd.notSynchronized
  have hml : c.maxLocals = 1 := hml0
  have hown : s.vm.findClass "com/example/nodeset/nodeset/MutableLabelSetPinLaw" = some m.cls := findClass_of_methodNamed Bd.named
  have hnm := (name_of_methodNamed Bd.named Bd.method).1
  have X0 : Stand p l e ({ frames := 4, cells := 7, slots := 20, locals := 53 } : Room) s m #[(.int p0)] below meth c s₁ [] 0 0 := Stand.of_body Bd
  have e0 : s₁.heap = h0 := by rw [← hh, Bd.state]; rfl
  have N0 := Fr.nil n0
  replace X0 : Stand p l e ({ frames := 4, cells := 7, slots := 20, locals := 53 } : Room) (s.setVm s.vm) m #[(.int p0)] below meth c s₁ [] 0 0 := X0
  replace hZ : Z.Warmed39 (s.setVm s.vm).vm := hZ
  replace hown : (s.setVm s.vm).vm.findClass "com/example/nodeset/nodeset/MutableLabelSetPinLaw" = some m.cls := hown
  have hS0 : s.Since s.vm h0.size := (State.WarmedH.refl s).since _
  show OG p e below (FEW s ({ frames := 4, cells := 7, slots := 20, locals := 53 } : Room).cells ({ frames := 4, cells := 7, slots := 20, locals := 53 } : Room).slots) (own_Q1 Z p0 t0 t1 t2 kp k0 k1 k2 h0 n0) (s₁.setTop (entryFrame m #[(.int p0)] 1))
  refine og_of (fun _ k => castTop (own_ef1 m p0) k) ?_
  refine o_iloadN X0 hx rfl (hb hby own_d1_0) rfl ?_
  by_cases hc1 : p0 = (0 : Int32)
  · skip
    refine o_ifN (pc' := 4) X0 hx rfl (hb hby own_d1_1) ((if0 _ _).trans (teq hc1).2) ?_
    obtain ⟨T2, X2, e2, st2⟩ := getS2 X0 hx hZ hown (host := "") (Or.inl (hw _ (List.mem_of_getElem? (i := 4) rfl))) Via.refl e0 pre0 (g := (mkF m 4 #[.val (.int p0)] [])) rfl (hb hby own_d1_4)
    refine og_of st2 ?_
    show OG p e below _ _ (T2.setTop (mkF m 7 #[.val (.int p0)] [(.ref t0)]))
    exact o_retA X2 hx Bd.returns rfl (own_lvW X2 hlk hS0 (by rw [e2]; exact (Nat.le_refl h0.size)) (by decide) (by decide)) (hb hby own_d1_7) rfl rfl ⟨t0, k0, rfl, N0, (by rw [e2]; exact (Keep.refl h0 [])), (by rw [e2]; exact pre4), (by rw [e2]; exact pre7), (by rw [e2]; exact pre10), (by rw [e2, show (own_f1_num p0 t0 t1 t2 kp k0 k1 k2) = (0 : Int32) from (by simp only [own_f1_num, if_pos hc1])]; exact pre14)⟩
  · skip
    refine o_ifY (pc' := 8) X0 hx (hb hby own_d1_1) ((if0 _ _).trans (feq hc1).2) (by decide) (by decide) ?_
    refine o_iloadN X0 hx rfl (hb hby own_d1_8) rfl ?_
    refine o_iconst (z := (1 : Int32)) X0 hx rfl (hb hby own_d1_9) (by decide) ?_
    by_cases hc3 : p0 = (1 : Int32)
    · skip
      refine o_icmpN (pc' := 13) X0 hx rfl (hb hby own_d1_10) (teq hc3).2 ?_
      obtain ⟨T4, X4, e4, st4⟩ := getS2 X0 hx hZ hown (host := "") (Or.inl (hw _ (List.mem_of_getElem? (i := 155) rfl))) Via.refl e0 pre1 (g := (mkF m 13 #[.val (.int p0)] [])) rfl (hb hby own_d1_13)
      refine og_of st4 ?_
      show OG p e below _ _ (T4.setTop (mkF m 16 #[.val (.int p0)] [(.ref t1)]))
      exact o_retA X4 hx Bd.returns rfl (own_lvW X4 hlk hS0 (by rw [e4]; exact (Nat.le_refl h0.size)) (by decide) (by decide)) (hb hby own_d1_16) rfl rfl ⟨t1, k1, rfl, N0, (by rw [e4]; exact (Keep.refl h0 [])), (by rw [e4]; exact pre5), (by rw [e4]; exact pre8), (by rw [e4]; exact pre11), (by rw [e4, show (own_f1_num p0 t0 t1 t2 kp k0 k1 k2) = (1 : Int32) from (by simp only [own_f1_num, if_neg hc1, if_pos hc3])]; exact pre15)⟩
    · skip
      refine o_icmpY (pc' := 17) X0 hx (hb hby own_d1_10) (feq hc3).2 (by decide) (by decide) ?_
      refine o_iloadN X0 hx rfl (hb hby own_d1_17) rfl ?_
      refine o_iconst (z := (2 : Int32)) X0 hx rfl (hb hby own_d1_18) (by decide) ?_
      by_cases hc5 : p0 = (2 : Int32)
      · skip
        refine o_icmpN (pc' := 22) X0 hx rfl (hb hby own_d1_19) (teq hc5).2 ?_
        obtain ⟨T6, X6, e6, st6⟩ := getS2 X0 hx hZ hown (host := "") (Or.inl (hw _ (List.mem_of_getElem? (i := 126) rfl))) Via.refl e0 pre2 (g := (mkF m 22 #[.val (.int p0)] [])) rfl (hb hby own_d1_22)
        refine og_of st6 ?_
        show OG p e below _ _ (T6.setTop (mkF m 25 #[.val (.int p0)] [(.ref t2)]))
        exact o_retA X6 hx Bd.returns rfl (own_lvW X6 hlk hS0 (by rw [e6]; exact (Nat.le_refl h0.size)) (by decide) (by decide)) (hb hby own_d1_25) rfl rfl ⟨t2, k2, rfl, N0, (by rw [e6]; exact (Keep.refl h0 [])), (by rw [e6]; exact pre6), (by rw [e6]; exact pre9), (by rw [e6]; exact pre12), (by rw [e6, show (own_f1_num p0 t0 t1 t2 kp k0 k1 k2) = (0 : Int32) from (by simp only [own_f1_num, if_neg hc1, if_neg hc3, if_pos hc5])]; exact pre16)⟩
      · skip
        refine o_icmpY (pc' := 26) X0 hx (hb hby own_d1_19) (feq hc5).2 (by decide) (by decide) ?_
        obtain ⟨b7, T7, h7, k17, X7, e7, E7, hS7, hk7, hZ, hown, st7⟩ := ldcS X0 hx hZ hown (hw _ (List.mem_of_getElem? (i := 129) rfl)) (own_strW hw) e0 hS0 (Nat.le_refl h0.size) (g := (mkF m 26 #[.val (.int p0)] [])) rfl (hb hby own_d1_26) (n := 4) (by decide) (by decide) (by decide) (by decide)
        have Kp8 : Keep h0 h7 [] := (Keep.refl h0 []).ext E7
        refine og_of st7 ?_
        show OG p e below _ _ (T7.setTop (mkF m 28 #[.val (.int p0)] [(.ref b7)]))
        have Fc10 : Sta Z h7 "com/example/nodeset/nodeset/NodeKind" "PROCESSING_INSTRUCTION" "Lcom/example/nodeset/nodeset/NodeKind;" (.ref kp) := (Sta.ext E7 pre3)
        have Fc11 : Exa Z h7 kp "com/example/nodeset/nodeset/NodeKind" := (Exa.ext E7 pre13)
        obtain ⟨_, _, ⟨T9, L9, k9, n9⟩, -, X9, hS9', hg9', ⟨Lc9, hQ9, l9, y9, z9⟩, st9⟩ := callSS X7 hx (y := (⟨"com/example/nodeset/nodeset/NodeName", "instruction", "(Ljava/lang/String;)Lcom/example/nodeset/nodeset/NodeName;"⟩ : MethodName)) hown (mvT hZ (hw _ (List.mem_of_getElem? (i := 137) rfl))) (mvT hZ (hw _ (List.mem_of_getElem? (i := 138) rfl))) (mvT hZ (hw _ (List.mem_of_getElem? (i := 5) rfl))) (mvT hZ (hw _ (List.mem_of_getElem? (i := 139) rfl))) (by decide) (backOfS (W := 0) (own_rm18 l Z aA hw [] b7 kp h7 n0 (Nat.le_trans Z0 E7.1) Fc10 Fc11) hZ (hw _ (List.mem_of_getElem? (i := 139) rfl)) (hw _ (List.mem_of_getElem? (i := 5) rfl)) (by decide) (by decide)) (g := (mkF m 28 #[.val (.int p0)] [(.ref b7)])) rfl (by rw [hml]; rfl) (argsL := [(.ref b7)]) (rest := []) (lenOf own_pd2 rfl) rfl (by show 2 * 0 + _ ≤ _; exact Nat.le_of_eq rfl) (hb hby own_d1_28) (fun _ _ => ⟨rfl, e7, Nat.le_of_ble_eq_true rfl, Nat.le_of_ble_eq_true rfl⟩)
        dsimp only [Pt.U, Pt.locs, Pt.cells, Pt.slots] at X9 l9 y9 z9 st9 hQ9 hS9' hg9'
        subst l9 y9 z9
        obtain ⟨X9, hS9, hZ, hown⟩ := rebS hS7 (Nat.le_trans hk7 (Nat.le_of_eq (congrArg Array.size e7.symm))) X9 hS9' hg9' hZ hown
        obtain ⟨b9, rfl, N9q, K9, sq9_0, f9_0, f9_1⟩ := hQ9
        have Fc12 : Exa Z h7 t0 "com/example/nodeset/nodeset/NodeName" := (Exa.ext E7 pre4)
        have ne13 : t0 ≠ b9 := Nat.ne_of_lt (Nat.lt_of_lt_of_le Fc12.lt sq9_0)
        have Fc14 : Exa Z h7 t1 "com/example/nodeset/nodeset/NodeName" := (Exa.ext E7 pre5)
        have ne15 : t1 ≠ b9 := Nat.ne_of_lt (Nat.lt_of_lt_of_le Fc14.lt sq9_0)
        have Fc16 : Exa Z h7 t2 "com/example/nodeset/nodeset/NodeName" := (Exa.ext E7 pre6)
        have ne17 : t2 ≠ b9 := Nat.ne_of_lt (Nat.lt_of_lt_of_le Fc16.lt sq9_0)
        have Fc18 : Exa Z h7 k0 "com/example/nodeset/nodeset/NodeKind" := (Exa.ext E7 pre10)
        have ne19 : k0 ≠ b9 := Nat.ne_of_lt (Nat.lt_of_lt_of_le Fc18.lt sq9_0)
        have Fc20 : Exa Z h7 k1 "com/example/nodeset/nodeset/NodeKind" := (Exa.ext E7 pre11)
        have ne21 : k1 ≠ b9 := Nat.ne_of_lt (Nat.lt_of_lt_of_le Fc20.lt sq9_0)
        have Fc22 : Exa Z h7 k2 "com/example/nodeset/nodeset/NodeKind" := (Exa.ext E7 pre12)
        have ne23 : k2 ≠ b9 := Nat.ne_of_lt (Nat.lt_of_lt_of_le Fc22.lt sq9_0)
        have ne24 : kp ≠ b9 := Nat.ne_of_lt (Nat.lt_of_lt_of_le Fc11.lt sq9_0)
        have gnb9 : n0 ≤ b9 := Nat.le_trans (Nat.le_trans Z0 E7.1) sq9_0
        have szb9 : h0.size ≤ b9 := Nat.le_trans Kp8.1 sq9_0
        have N25 := Fr.app N0 N9q
        have Kp26 : Keep h0 T9.heap [] := Kp8.trans K9 all0
        refine og_tr st9 ?_
        show OG p e below _ _ (T9.setTop (mkF m 31 #[.val (.int p0)] [(.ref b9)]))
        have Fc27 : Exa Z T9.heap kp "com/example/nodeset/nodeset/NodeKind" := (Fc11.keep K9)
        have Fc28 : Fld Z T9.heap kp "com/example/nodeset/nodeset/NodeKind" "numbered" "Z" (.int (0 : Int32)) := ((Fld.ext E7 pre17).keep K9 nin0)
        exact o_retA X9 hx Bd.returns rfl (own_lvW X9 hlk hS9 (by exact (Nat.le_refl _)) (by decide) (by decide)) (hb hby own_d1_31) rfl rfl ⟨b9, kp, rfl, N25, (Kp26), f9_0, f9_1, Fc27, (by rw [show (own_f1_num p0 t0 t1 t2 kp k0 k1 k2) = (0 : Int32) from (by simp only [own_f1_num, if_neg hc1, if_neg hc3, if_neg hc5])]; exact Fc28)⟩
theorem own_d2_0 : decode prog_76_method_1_code 0 = .ok (.aload_n 0, 1) := by decide +kernel
theorem own_d2_1 : decode prog_76_method_1_code 1 = .ok (.invokespecial 1, 3) := by decide +kernel
theorem own_d2_4 : decode prog_76_method_1_code 4 = .ok (.aload_n 0, 1) := by decide +kernel
theorem own_d2_5 : decode prog_76_method_1_code 5 = .ok (.aload_n 1, 1) := by decide +kernel
theorem own_d2_6 : decode prog_76_method_1_code 6 = .ok (.putfield 7, 3) := by decide +kernel
theorem own_d2_9 : decode prog_76_method_1_code 9 = .ok (.aload_n 0, 1) := by decide +kernel
theorem own_d2_10 : decode prog_76_method_1_code 10 = .ok (.iload_n 2, 1) := by decide +kernel
theorem own_d2_11 : decode prog_76_method_1_code 11 = .ok (.putfield 13, 3) := by decide +kernel
theorem own_d2_14 : decode prog_76_method_1_code 14 = .ok (.aload_n 0, 1) := by decide +kernel
theorem own_d2_15 : decode prog_76_method_1_code 15 = .ok (.lload_n 3, 1) := by decide +kernel
theorem own_d2_16 : decode prog_76_method_1_code 16 = .ok (.putfield 17, 3) := by decide +kernel
theorem own_d2_19 : decode prog_76_method_1_code 19 = .ok (.aload_n 0, 1) := by decide +kernel
theorem own_d2_20 : decode prog_76_method_1_code 20 = .ok (.lload 5, 2) := by decide +kernel
theorem own_d2_22 : decode prog_76_method_1_code 22 = .ok (.putfield 21, 3) := by decide +kernel
theorem own_d2_25 : decode prog_76_method_1_code 25 = .ok (.aload_n 0, 1) := by decide +kernel
theorem own_d2_26 : decode prog_76_method_1_code 26 = .ok (.iload 7, 2) := by decide +kernel
theorem own_d2_28 : decode prog_76_method_1_code 28 = .ok (.putfield 24, 3) := by decide +kernel
theorem own_d2_31 : decode prog_76_method_1_code 31 = .ok (.aload_n 0, 1) := by decide +kernel
theorem own_d2_32 : decode prog_76_method_1_code 32 = .ok (.lload 8, 2) := by decide +kernel
theorem own_d2_34 : decode prog_76_method_1_code 34 = .ok (.putfield 27, 3) := by decide +kernel
theorem own_d2_37 : decode prog_76_method_1_code 37 = .ok (.aload_n 0, 1) := by decide +kernel
theorem own_d2_38 : decode prog_76_method_1_code 38 = .ok (.lload 10, 2) := by decide +kernel
theorem own_d2_40 : decode prog_76_method_1_code 40 = .ok (.putfield 30, 3) := by decide +kernel
theorem own_d2_43 : decode prog_76_method_1_code 43 = .ok (.aload_n 0, 1) := by decide +kernel
theorem own_d2_44 : decode prog_76_method_1_code 44 = .ok (.lload 12, 2) := by decide +kernel
theorem own_d2_46 : decode prog_76_method_1_code 46 = .ok (.putfield 33, 3) := by decide +kernel
theorem own_d2_49 : decode prog_76_method_1_code 49 = .ok (.aload_n 0, 1) := by decide +kernel
theorem own_d2_50 : decode prog_76_method_1_code 50 = .ok (.lload 14, 2) := by decide +kernel
theorem own_d2_52 : decode prog_76_method_1_code 52 = .ok (.putfield 36, 3) := by decide +kernel
theorem own_d2_55 : decode prog_76_method_1_code 55 = .ok (.return_, 1) := by decide +kernel
theorem own_ef2 (m : MethodId) (a0 : Addr) (a1 : Addr) (p2 : Int32) (q3 : Int64) (q4 : Int64) (p5 : Int32) (q6 : Int64) (q7 : Int64) (q8 : Int64) (q9 : Int64) : entryFrame m #[(.ref a0), (.ref a1), (.int p2), (.long q3), (.long q4), (.int p5), (.long q6), (.long q7), (.long q8), (.long q9)] 16 = mkF m 0 #[.val (.ref a0), .val (.ref a1), .val (.int p2), .val (.long q3), .second, .val (.long q4), .second, .val (.int p5), .val (.long q6), .second, .val (.long q7), .second, .val (.long q8), .second, .val (.long q9), .second] [] := by first | (simp [entryFrame, mkF, argsToLocals, Value.category]; done) | rfl
def own_Q2 (Z : State) (a0 : Addr) (a1 : Addr) (p2 : Int32) (q3 : Int64) (q4 : Int64) (p5 : Int32) (q6 : Int64) (q7 : Int64) (q8 : Int64) (q9 : Int64) (h0 : Heap) (n0 : Nat) (v : Option Value) (h : Heap) (L : List Loc) : Prop := v = none ∧ Fr n0 L ∧ Keep h0 h [a0] ∧ Fld Z h a0 "com/example/nodeset/nodeset/StoredNode" "name" "Lcom/example/nodeset/nodeset/NodeName;" (.ref a1) ∧ Fld Z h a0 "com/example/nodeset/nodeset/StoredNode" "document" "I" (.int p2) ∧ Fld Z h a0 "com/example/nodeset/nodeset/StoredNode" "start" "J" (.long q3) ∧ Fld Z h a0 "com/example/nodeset/nodeset/StoredNode" "end" "J" (.long q4) ∧ Fld Z h a0 "com/example/nodeset/nodeset/StoredNode" "depth" "I" (.int p5) ∧ Fld Z h a0 "com/example/nodeset/nodeset/StoredNode" "textPlace" "J" (.long q6) ∧ Fld Z h a0 "com/example/nodeset/nodeset/StoredNode" "valueFrom" "J" (.long q7) ∧ Fld Z h a0 "com/example/nodeset/nodeset/StoredNode" "valueTo" "J" (.long q8) ∧ Fld Z h a0 "com/example/nodeset/nodeset/StoredNode" "record" "J" (.long q9)
theorem own_pn76 : plainName "com/example/nodeset/nodeset/StoredNode" = true := by first | (simp [plainName, overriddenIn]; done) | decide +kernel
set_option maxRecDepth 65536 in
set_option maxHeartbeats 40000000 in
theorem own_rm2 (l : Launch) (Z : State) (aA : Array Value) (hw : ∀ d ∈ tables_1, d.before aA Z = true) (ws : List Jvm.Cond) (a0 : Addr) (a1 : Addr) (p2 : Int32) (q3 : Int64) (q4 : Int64) (p5 : Int32) (q6 : Int64) (q7 : Int64) (q8 : Int64) (q9 : Int64) (h0 : Heap) (n0 : Nat) (Z0 : n0 ≤ h0.size) (pre0 : Exa Z h0 a0 "com/example/nodeset/nodeset/StoredNode") (pre1 : n0 ≤ a0) (pre2 : Fld Z h0 a0 "com/example/nodeset/nodeset/StoredNode" "name" "Lcom/example/nodeset/nodeset/NodeName;" .null) (pre3 : Fld Z h0 a0 "com/example/nodeset/nodeset/StoredNode" "document" "I" (.int (0 : Int32))) (pre4 : Fld Z h0 a0 "com/example/nodeset/nodeset/StoredNode" "start" "J" (.long (0 : Int64))) (pre5 : Fld Z h0 a0 "com/example/nodeset/nodeset/StoredNode" "end" "J" (.long (0 : Int64))) (pre6 : Fld Z h0 a0 "com/example/nodeset/nodeset/StoredNode" "depth" "I" (.int (0 : Int32))) (pre7 : Fld Z h0 a0 "com/example/nodeset/nodeset/StoredNode" "textPlace" "J" (.long (0 : Int64))) (pre8 : Fld Z h0 a0 "com/example/nodeset/nodeset/StoredNode" "valueFrom" "J" (.long (0 : Int64))) (pre9 : Fld Z h0 a0 "com/example/nodeset/nodeset/StoredNode" "valueTo" "J" (.long (0 : Int64))) (pre10 : Fld Z h0 a0 "com/example/nodeset/nodeset/StoredNode" "record" "J" (.long (0 : Int64))) :
    MetFree l (⟨"com/example/nodeset/nodeset/StoredNode", "<init>", "(Lcom/example/nodeset/nodeset/NodeName;IJJIJJJJ)V"⟩ : MethodName) (head1 (Jvm.Cond.code (⟨"com/example/nodeset/nodeset/StoredNode", "<init>", "(Lcom/example/nodeset/nodeset/NodeName;IJJIJJJJ)V"⟩ : MethodName) prog_76_method_1_code 16 none :: ws) ({ frames := 2, cells := 0, slots := 0, locals := 24 } : Room)) (fun a U => a = #[(.ref a0), (.ref a1), (.int p2), (.long q3), (.long q4), (.int p5), (.long q6), (.long q7), (.long q8), (.long q9)] ∧ Z.Warmed39 U.vm ∧ U.heap = h0) (fun _ _ _ _ _ => True) (fun _ U o U' => ∃ v L, o = .returned v ∧ own_Q2 Z a0 a1 p2 q3 q4 p5 q6 q7 q8 q9 h0 n0 v U'.heap L ∧ FrameEnd U o U' L ({ frames := 2, cells := 0, slots := 0, locals := 24 } : Room).cells ({ frames := 2, cells := 0, slots := 0, locals := 24 } : Room).slots) := by
  refine MetFree.of_bodySF (plainFor_of_name own_pn76) hisR ?_
  intro p e s m args below meth c s₁ Bd hml0 hP hK
  obtain ⟨rfl, hZ, hh⟩ := hP
  have hx := Bd.exec
  have hby := Bd.bytes
  have hlk : meth.locks = false := Bd.notSynchronized
  have hml : c.maxLocals = 16 := hml0
  have hown : s.vm.findClass "com/example/nodeset/nodeset/StoredNode" = some m.cls := findClass_of_methodNamed Bd.named
  have hnm := (name_of_methodNamed Bd.named Bd.method).1
  have X0 : Stand p l e ({ frames := 2, cells := 0, slots := 0, locals := 24 } : Room) s m #[(.ref a0), (.ref a1), (.int p2), (.long q3), (.long q4), (.int p5), (.long q6), (.long q7), (.long q8), (.long q9)] below meth c s₁ [] 0 0 := Stand.of_body Bd
  have e0 : s₁.heap = h0 := by rw [← hh, Bd.state]; rfl
  have N0 := Fr.nil n0
  show OG p e below (FE s ({ frames := 2, cells := 0, slots := 0, locals := 24 } : Room).cells ({ frames := 2, cells := 0, slots := 0, locals := 24 } : Room).slots) (own_Q2 Z a0 a1 p2 q3 q4 p5 q6 q7 q8 q9 h0 n0) (s₁.setTop (entryFrame m #[(.ref a0), (.ref a1), (.int p2), (.long q3), (.long q4), (.int p5), (.long q6), (.long q7), (.long q8), (.long q9)] 16))
  refine og_of (fun _ k => castTop (own_ef2 m a0 a1 p2 q3 q4 p5 q6 q7 q8 q9) k) ?_
  refine o_aloadN X0 hx rfl (hb hby own_d2_0) rfl rfl ?_
  obtain ⟨_, _, ⟨T1, L1, k1, n1⟩, -, X1, ⟨Lc1, hQ1, l1, y1, z1⟩, st1⟩ := X0.specialBack hx (y := (⟨"java/lang/Record", "<init>", "()V"⟩ : MethodName)) rfl hown (mvT hZ (hw _ (List.mem_of_getElem? (i := 13) rfl))) (mvT hZ (hw _ (List.mem_of_getElem? (i := 14) rfl))) (mvT hZ (hw _ (List.mem_of_getElem? (i := 17) rfl))) (by decide) (backOf (W := 0) (own_rm3 l Z aA hw [] a0 h0 n0 Z0) hZ (hw _ (List.mem_of_getElem? (i := 17) rfl)) (hw _ (List.mem_of_getElem? (i := 16) rfl)) (by decide) (by decide)) (g := (mkF m 1 #[.val (.ref a0), .val (.ref a1), .val (.int p2), .val (.long q3), .second, .val (.long q4), .second, .val (.int p5), .val (.long q6), .second, .val (.long q7), .second, .val (.long q8), .second, .val (.long q9), .second] [(.ref a0)])) rfl (by rw [hml]; rfl) (Steps.refl _) (a := a0) (argsL := []) (rest := []) (lenOf own_pd0 rfl) rfl (by show 2 * 0 + _ ≤ _; exact Nat.le_of_eq rfl) (hb hby own_d2_1) (fun _ _ => ⟨rfl, e0, Nat.le_of_ble_eq_true rfl, Nat.le_of_ble_eq_true rfl⟩)
  dsimp only [Pt.U, Pt.locs, Pt.cells, Pt.slots] at X1 l1 y1 z1 st1 hQ1
  subst l1 y1 z1
  obtain ⟨rfl, N1q, ee1⟩ := hQ1
  have N2 := Fr.app N0 N1q
  refine og_tr st1 ?_
  show OG p e below _ _ (T1.setTop (mkF m 4 #[.val (.ref a0), .val (.ref a1), .val (.int p2), .val (.long q3), .second, .val (.long q4), .second, .val (.int p5), .val (.long q6), .second, .val (.long q7), .second, .val (.long q8), .second, .val (.long q9), .second] []))
  refine o_aloadN X1 hx rfl (hb hby own_d2_4) rfl rfl ?_
  refine o_aloadN X1 hx rfl (hb hby own_d2_5) rfl rfl ?_
  obtain ⟨T3, h3, X3, e3, W3, st3⟩ := putF X1 hx hZ hown (host := "") (Or.inl (hw _ (List.mem_of_getElem? (i := 21) rfl))) Via.refl ee1 pre2 pre0 (Or.inr ⟨(hw _ (List.mem_of_getElem? (i := 22) rfl)), rfl, hnm⟩) (hw _ (List.mem_of_getElem? (i := 8) rfl)) (ty := (.object "com/example/nodeset/nodeset/NodeName")) (by decide) rfl rfl (g := (mkF m 6 #[.val (.ref a0), .val (.ref a1), .val (.int p2), .val (.long q3), .second, .val (.long q4), .second, .val (.int p5), .val (.long q6), .second, .val (.long q7), .second, .val (.long q8), .second, .val (.long q9), .second] [(.ref a1), (.ref a0)])) rfl rfl (hb hby own_d2_6)
  have Fw3 := pre2.same W3
  have N3 := Fr.snoc X3 N2 pre1
  have Kp4 : Keep h0 h3 [a0] := (Keep.refl h0 [a0]).wr W3 (Or.inl (List.mem_of_getElem? (i := 0) rfl))
  refine og_of st3 ?_
  show OG p e below _ _ (T3.setTop (mkF m 9 #[.val (.ref a0), .val (.ref a1), .val (.int p2), .val (.long q3), .second, .val (.long q4), .second, .val (.int p5), .val (.long q6), .second, .val (.long q7), .second, .val (.long q8), .second, .val (.long q9), .second] []))
  refine o_aloadN X3 hx rfl (hb hby own_d2_9) rfl rfl ?_
  refine o_iloadN X3 hx rfl (hb hby own_d2_10) rfl ?_
  have Fc5 : Exa Z h3 a0 "com/example/nodeset/nodeset/StoredNode" := (Exa.wr W3 pre0)
  have Fc6 : Fld Z h3 a0 "com/example/nodeset/nodeset/StoredNode" "document" "I" (.int (0 : Int32)) := (Fld.other W3 pre3 (Or.inr (slot_ne (Or.inr (hw _ (List.mem_of_getElem? (i := 24) rfl))) (Or.inr (hw _ (List.mem_of_getElem? (i := 22) rfl))) (by decide) (t := .int) (t' := (.object "com/example/nodeset/nodeset/NodeName")) (by decide) (by decide))))
  obtain ⟨T7, h7, X7, e7, W7, st7⟩ := putF X3 hx hZ hown (host := "") (Or.inl (hw _ (List.mem_of_getElem? (i := 23) rfl))) Via.refl e3 Fc6 Fc5 (Or.inr ⟨(hw _ (List.mem_of_getElem? (i := 24) rfl)), rfl, hnm⟩) (hw _ (List.mem_of_getElem? (i := 8) rfl)) (ty := .int) (by decide) rfl rfl (g := (mkF m 11 #[.val (.ref a0), .val (.ref a1), .val (.int p2), .val (.long q3), .second, .val (.long q4), .second, .val (.int p5), .val (.long q6), .second, .val (.long q7), .second, .val (.long q8), .second, .val (.long q9), .second] [(.int p2), (.ref a0)])) rfl rfl (hb hby own_d2_11)
  have Fw7 := Fc6.same W7
  have N7 := Fr.snoc X7 N3 pre1
  have Kp8 : Keep h0 h7 [a0] := Kp4.wr W7 (Or.inl (List.mem_of_getElem? (i := 0) rfl))
  refine og_of st7 ?_
  show OG p e below _ _ (T7.setTop (mkF m 14 #[.val (.ref a0), .val (.ref a1), .val (.int p2), .val (.long q3), .second, .val (.long q4), .second, .val (.int p5), .val (.long q6), .second, .val (.long q7), .second, .val (.long q8), .second, .val (.long q9), .second] []))
  refine o_aloadN X7 hx rfl (hb hby own_d2_14) rfl rfl ?_
  refine o_lloadN X7 hx rfl (hb hby own_d2_15) rfl ?_
  have Fc9 : Exa Z h7 a0 "com/example/nodeset/nodeset/StoredNode" := (Exa.wr W7 Fc5)
  have Fc10 : Fld Z h7 a0 "com/example/nodeset/nodeset/StoredNode" "start" "J" (.long (0 : Int64)) := (Fld.other W7 (Fld.other W3 pre4 (Or.inr (slot_ne (Or.inr (hw _ (List.mem_of_getElem? (i := 26) rfl))) (Or.inr (hw _ (List.mem_of_getElem? (i := 22) rfl))) (by decide) (t := .long) (t' := (.object "com/example/nodeset/nodeset/NodeName")) (by decide) (by decide)))) (Or.inr (slot_ne (Or.inr (hw _ (List.mem_of_getElem? (i := 26) rfl))) (Or.inr (hw _ (List.mem_of_getElem? (i := 24) rfl))) (by decide) (t := .long) (t' := .int) (by decide) (by decide))))
  obtain ⟨T11, h11, X11, e11, W11, st11⟩ := putF X7 hx hZ hown (host := "") (Or.inl (hw _ (List.mem_of_getElem? (i := 25) rfl))) Via.refl e7 Fc10 Fc9 (Or.inr ⟨(hw _ (List.mem_of_getElem? (i := 26) rfl)), rfl, hnm⟩) (hw _ (List.mem_of_getElem? (i := 8) rfl)) (ty := .long) (by decide) rfl rfl (g := (mkF m 16 #[.val (.ref a0), .val (.ref a1), .val (.int p2), .val (.long q3), .second, .val (.long q4), .second, .val (.int p5), .val (.long q6), .second, .val (.long q7), .second, .val (.long q8), .second, .val (.long q9), .second] [(.long q3), (.ref a0)])) rfl rfl (hb hby own_d2_16)
  have Fw11 := Fc10.same W11
  have N11 := Fr.snoc X11 N7 pre1
  have Kp12 : Keep h0 h11 [a0] := Kp8.wr W11 (Or.inl (List.mem_of_getElem? (i := 0) rfl))
  refine og_of st11 ?_
  show OG p e below _ _ (T11.setTop (mkF m 19 #[.val (.ref a0), .val (.ref a1), .val (.int p2), .val (.long q3), .second, .val (.long q4), .second, .val (.int p5), .val (.long q6), .second, .val (.long q7), .second, .val (.long q8), .second, .val (.long q9), .second] []))
  refine o_aloadN X11 hx rfl (hb hby own_d2_19) rfl rfl ?_
  refine o_lload X11 hx rfl (hb hby own_d2_20) rfl ?_
  have Fc13 : Exa Z h11 a0 "com/example/nodeset/nodeset/StoredNode" := (Exa.wr W11 Fc9)
  have Fc14 : Fld Z h11 a0 "com/example/nodeset/nodeset/StoredNode" "end" "J" (.long (0 : Int64)) := (Fld.other W11 (Fld.other W7 (Fld.other W3 pre5 (Or.inr (slot_ne (Or.inr (hw _ (List.mem_of_getElem? (i := 28) rfl))) (Or.inr (hw _ (List.mem_of_getElem? (i := 22) rfl))) (by decide) (t := .long) (t' := (.object "com/example/nodeset/nodeset/NodeName")) (by decide) (by decide)))) (Or.inr (slot_ne (Or.inr (hw _ (List.mem_of_getElem? (i := 28) rfl))) (Or.inr (hw _ (List.mem_of_getElem? (i := 24) rfl))) (by decide) (t := .long) (t' := .int) (by decide) (by decide)))) (Or.inr (slot_ne (Or.inr (hw _ (List.mem_of_getElem? (i := 28) rfl))) (Or.inr (hw _ (List.mem_of_getElem? (i := 26) rfl))) (by decide) (t := .long) (t' := .long) (by decide) (by decide))))
  obtain ⟨T15, h15, X15, e15, W15, st15⟩ := putF X11 hx hZ hown (host := "") (Or.inl (hw _ (List.mem_of_getElem? (i := 27) rfl))) Via.refl e11 Fc14 Fc13 (Or.inr ⟨(hw _ (List.mem_of_getElem? (i := 28) rfl)), rfl, hnm⟩) (hw _ (List.mem_of_getElem? (i := 8) rfl)) (ty := .long) (by decide) rfl rfl (g := (mkF m 22 #[.val (.ref a0), .val (.ref a1), .val (.int p2), .val (.long q3), .second, .val (.long q4), .second, .val (.int p5), .val (.long q6), .second, .val (.long q7), .second, .val (.long q8), .second, .val (.long q9), .second] [(.long q4), (.ref a0)])) rfl rfl (hb hby own_d2_22)
  have Fw15 := Fc14.same W15
  have N15 := Fr.snoc X15 N11 pre1
  have Kp16 : Keep h0 h15 [a0] := Kp12.wr W15 (Or.inl (List.mem_of_getElem? (i := 0) rfl))
  refine og_of st15 ?_
  show OG p e below _ _ (T15.setTop (mkF m 25 #[.val (.ref a0), .val (.ref a1), .val (.int p2), .val (.long q3), .second, .val (.long q4), .second, .val (.int p5), .val (.long q6), .second, .val (.long q7), .second, .val (.long q8), .second, .val (.long q9), .second] []))
  refine o_aloadN X15 hx rfl (hb hby own_d2_25) rfl rfl ?_
  refine o_iload X15 hx rfl (hb hby own_d2_26) rfl ?_
  have Fc17 : Exa Z h15 a0 "com/example/nodeset/nodeset/StoredNode" := (Exa.wr W15 Fc13)
  have Fc18 : Fld Z h15 a0 "com/example/nodeset/nodeset/StoredNode" "depth" "I" (.int (0 : Int32)) := (Fld.other W15 (Fld.other W11 (Fld.other W7 (Fld.other W3 pre6 (Or.inr (slot_ne (Or.inr (hw _ (List.mem_of_getElem? (i := 30) rfl))) (Or.inr (hw _ (List.mem_of_getElem? (i := 22) rfl))) (by decide) (t := .int) (t' := (.object "com/example/nodeset/nodeset/NodeName")) (by decide) (by decide)))) (Or.inr (slot_ne (Or.inr (hw _ (List.mem_of_getElem? (i := 30) rfl))) (Or.inr (hw _ (List.mem_of_getElem? (i := 24) rfl))) (by decide) (t := .int) (t' := .int) (by decide) (by decide)))) (Or.inr (slot_ne (Or.inr (hw _ (List.mem_of_getElem? (i := 30) rfl))) (Or.inr (hw _ (List.mem_of_getElem? (i := 26) rfl))) (by decide) (t := .int) (t' := .long) (by decide) (by decide)))) (Or.inr (slot_ne (Or.inr (hw _ (List.mem_of_getElem? (i := 30) rfl))) (Or.inr (hw _ (List.mem_of_getElem? (i := 28) rfl))) (by decide) (t := .int) (t' := .long) (by decide) (by decide))))
  obtain ⟨T19, h19, X19, e19, W19, st19⟩ := putF X15 hx hZ hown (host := "") (Or.inl (hw _ (List.mem_of_getElem? (i := 29) rfl))) Via.refl e15 Fc18 Fc17 (Or.inr ⟨(hw _ (List.mem_of_getElem? (i := 30) rfl)), rfl, hnm⟩) (hw _ (List.mem_of_getElem? (i := 8) rfl)) (ty := .int) (by decide) rfl rfl (g := (mkF m 28 #[.val (.ref a0), .val (.ref a1), .val (.int p2), .val (.long q3), .second, .val (.long q4), .second, .val (.int p5), .val (.long q6), .second, .val (.long q7), .second, .val (.long q8), .second, .val (.long q9), .second] [(.int p5), (.ref a0)])) rfl rfl (hb hby own_d2_28)
  have Fw19 := Fc18.same W19
  have N19 := Fr.snoc X19 N15 pre1
  have Kp20 : Keep h0 h19 [a0] := Kp16.wr W19 (Or.inl (List.mem_of_getElem? (i := 0) rfl))
  refine og_of st19 ?_
  show OG p e below _ _ (T19.setTop (mkF m 31 #[.val (.ref a0), .val (.ref a1), .val (.int p2), .val (.long q3), .second, .val (.long q4), .second, .val (.int p5), .val (.long q6), .second, .val (.long q7), .second, .val (.long q8), .second, .val (.long q9), .second] []))
  refine o_aloadN X19 hx rfl (hb hby own_d2_31) rfl rfl ?_
  refine o_lload X19 hx rfl (hb hby own_d2_32) rfl ?_
  have Fc21 : Exa Z h19 a0 "com/example/nodeset/nodeset/StoredNode" := (Exa.wr W19 Fc17)
  have Fc22 : Fld Z h19 a0 "com/example/nodeset/nodeset/StoredNode" "textPlace" "J" (.long (0 : Int64)) := (Fld.other W19 (Fld.other W15 (Fld.other W11 (Fld.other W7 (Fld.other W3 pre7 (Or.inr (slot_ne (Or.inr (hw _ (List.mem_of_getElem? (i := 32) rfl))) (Or.inr (hw _ (List.mem_of_getElem? (i := 22) rfl))) (by decide) (t := .long) (t' := (.object "com/example/nodeset/nodeset/NodeName")) (by decide) (by decide)))) (Or.inr (slot_ne (Or.inr (hw _ (List.mem_of_getElem? (i := 32) rfl))) (Or.inr (hw _ (List.mem_of_getElem? (i := 24) rfl))) (by decide) (t := .long) (t' := .int) (by decide) (by decide)))) (Or.inr (slot_ne (Or.inr (hw _ (List.mem_of_getElem? (i := 32) rfl))) (Or.inr (hw _ (List.mem_of_getElem? (i := 26) rfl))) (by decide) (t := .long) (t' := .long) (by decide) (by decide)))) (Or.inr (slot_ne (Or.inr (hw _ (List.mem_of_getElem? (i := 32) rfl))) (Or.inr (hw _ (List.mem_of_getElem? (i := 28) rfl))) (by decide) (t := .long) (t' := .long) (by decide) (by decide)))) (Or.inr (slot_ne (Or.inr (hw _ (List.mem_of_getElem? (i := 32) rfl))) (Or.inr (hw _ (List.mem_of_getElem? (i := 30) rfl))) (by decide) (t := .long) (t' := .int) (by decide) (by decide))))
  obtain ⟨T23, h23, X23, e23, W23, st23⟩ := putF X19 hx hZ hown (host := "") (Or.inl (hw _ (List.mem_of_getElem? (i := 31) rfl))) Via.refl e19 Fc22 Fc21 (Or.inr ⟨(hw _ (List.mem_of_getElem? (i := 32) rfl)), rfl, hnm⟩) (hw _ (List.mem_of_getElem? (i := 8) rfl)) (ty := .long) (by decide) rfl rfl (g := (mkF m 34 #[.val (.ref a0), .val (.ref a1), .val (.int p2), .val (.long q3), .second, .val (.long q4), .second, .val (.int p5), .val (.long q6), .second, .val (.long q7), .second, .val (.long q8), .second, .val (.long q9), .second] [(.long q6), (.ref a0)])) rfl rfl (hb hby own_d2_34)
  have Fw23 := Fc22.same W23
  have N23 := Fr.snoc X23 N19 pre1
  have Kp24 : Keep h0 h23 [a0] := Kp20.wr W23 (Or.inl (List.mem_of_getElem? (i := 0) rfl))
  refine og_of st23 ?_
  show OG p e below _ _ (T23.setTop (mkF m 37 #[.val (.ref a0), .val (.ref a1), .val (.int p2), .val (.long q3), .second, .val (.long q4), .second, .val (.int p5), .val (.long q6), .second, .val (.long q7), .second, .val (.long q8), .second, .val (.long q9), .second] []))
  refine o_aloadN X23 hx rfl (hb hby own_d2_37) rfl rfl ?_
  refine o_lload X23 hx rfl (hb hby own_d2_38) rfl ?_
  have Fc25 : Exa Z h23 a0 "com/example/nodeset/nodeset/StoredNode" := (Exa.wr W23 Fc21)
  have Fc26 : Fld Z h23 a0 "com/example/nodeset/nodeset/StoredNode" "valueFrom" "J" (.long (0 : Int64)) := (Fld.other W23 (Fld.other W19 (Fld.other W15 (Fld.other W11 (Fld.other W7 (Fld.other W3 pre8 (Or.inr (slot_ne (Or.inr (hw _ (List.mem_of_getElem? (i := 34) rfl))) (Or.inr (hw _ (List.mem_of_getElem? (i := 22) rfl))) (by decide) (t := .long) (t' := (.object "com/example/nodeset/nodeset/NodeName")) (by decide) (by decide)))) (Or.inr (slot_ne (Or.inr (hw _ (List.mem_of_getElem? (i := 34) rfl))) (Or.inr (hw _ (List.mem_of_getElem? (i := 24) rfl))) (by decide) (t := .long) (t' := .int) (by decide) (by decide)))) (Or.inr (slot_ne (Or.inr (hw _ (List.mem_of_getElem? (i := 34) rfl))) (Or.inr (hw _ (List.mem_of_getElem? (i := 26) rfl))) (by decide) (t := .long) (t' := .long) (by decide) (by decide)))) (Or.inr (slot_ne (Or.inr (hw _ (List.mem_of_getElem? (i := 34) rfl))) (Or.inr (hw _ (List.mem_of_getElem? (i := 28) rfl))) (by decide) (t := .long) (t' := .long) (by decide) (by decide)))) (Or.inr (slot_ne (Or.inr (hw _ (List.mem_of_getElem? (i := 34) rfl))) (Or.inr (hw _ (List.mem_of_getElem? (i := 30) rfl))) (by decide) (t := .long) (t' := .int) (by decide) (by decide)))) (Or.inr (slot_ne (Or.inr (hw _ (List.mem_of_getElem? (i := 34) rfl))) (Or.inr (hw _ (List.mem_of_getElem? (i := 32) rfl))) (by decide) (t := .long) (t' := .long) (by decide) (by decide))))
  obtain ⟨T27, h27, X27, e27, W27, st27⟩ := putF X23 hx hZ hown (host := "") (Or.inl (hw _ (List.mem_of_getElem? (i := 33) rfl))) Via.refl e23 Fc26 Fc25 (Or.inr ⟨(hw _ (List.mem_of_getElem? (i := 34) rfl)), rfl, hnm⟩) (hw _ (List.mem_of_getElem? (i := 8) rfl)) (ty := .long) (by decide) rfl rfl (g := (mkF m 40 #[.val (.ref a0), .val (.ref a1), .val (.int p2), .val (.long q3), .second, .val (.long q4), .second, .val (.int p5), .val (.long q6), .second, .val (.long q7), .second, .val (.long q8), .second, .val (.long q9), .second] [(.long q7), (.ref a0)])) rfl rfl (hb hby own_d2_40)
  have Fw27 := Fc26.same W27
  have N27 := Fr.snoc X27 N23 pre1
  have Kp28 : Keep h0 h27 [a0] := Kp24.wr W27 (Or.inl (List.mem_of_getElem? (i := 0) rfl))
  refine og_of st27 ?_
  show OG p e below _ _ (T27.setTop (mkF m 43 #[.val (.ref a0), .val (.ref a1), .val (.int p2), .val (.long q3), .second, .val (.long q4), .second, .val (.int p5), .val (.long q6), .second, .val (.long q7), .second, .val (.long q8), .second, .val (.long q9), .second] []))
  refine o_aloadN X27 hx rfl (hb hby own_d2_43) rfl rfl ?_
  refine o_lload X27 hx rfl (hb hby own_d2_44) rfl ?_
  have Fc29 : Exa Z h27 a0 "com/example/nodeset/nodeset/StoredNode" := (Exa.wr W27 Fc25)
  have Fc30 : Fld Z h27 a0 "com/example/nodeset/nodeset/StoredNode" "valueTo" "J" (.long (0 : Int64)) := (Fld.other W27 (Fld.other W23 (Fld.other W19 (Fld.other W15 (Fld.other W11 (Fld.other W7 (Fld.other W3 pre9 (Or.inr (slot_ne (Or.inr (hw _ (List.mem_of_getElem? (i := 36) rfl))) (Or.inr (hw _ (List.mem_of_getElem? (i := 22) rfl))) (by decide) (t := .long) (t' := (.object "com/example/nodeset/nodeset/NodeName")) (by decide) (by decide)))) (Or.inr (slot_ne (Or.inr (hw _ (List.mem_of_getElem? (i := 36) rfl))) (Or.inr (hw _ (List.mem_of_getElem? (i := 24) rfl))) (by decide) (t := .long) (t' := .int) (by decide) (by decide)))) (Or.inr (slot_ne (Or.inr (hw _ (List.mem_of_getElem? (i := 36) rfl))) (Or.inr (hw _ (List.mem_of_getElem? (i := 26) rfl))) (by decide) (t := .long) (t' := .long) (by decide) (by decide)))) (Or.inr (slot_ne (Or.inr (hw _ (List.mem_of_getElem? (i := 36) rfl))) (Or.inr (hw _ (List.mem_of_getElem? (i := 28) rfl))) (by decide) (t := .long) (t' := .long) (by decide) (by decide)))) (Or.inr (slot_ne (Or.inr (hw _ (List.mem_of_getElem? (i := 36) rfl))) (Or.inr (hw _ (List.mem_of_getElem? (i := 30) rfl))) (by decide) (t := .long) (t' := .int) (by decide) (by decide)))) (Or.inr (slot_ne (Or.inr (hw _ (List.mem_of_getElem? (i := 36) rfl))) (Or.inr (hw _ (List.mem_of_getElem? (i := 32) rfl))) (by decide) (t := .long) (t' := .long) (by decide) (by decide)))) (Or.inr (slot_ne (Or.inr (hw _ (List.mem_of_getElem? (i := 36) rfl))) (Or.inr (hw _ (List.mem_of_getElem? (i := 34) rfl))) (by decide) (t := .long) (t' := .long) (by decide) (by decide))))
  obtain ⟨T31, h31, X31, e31, W31, st31⟩ := putF X27 hx hZ hown (host := "") (Or.inl (hw _ (List.mem_of_getElem? (i := 35) rfl))) Via.refl e27 Fc30 Fc29 (Or.inr ⟨(hw _ (List.mem_of_getElem? (i := 36) rfl)), rfl, hnm⟩) (hw _ (List.mem_of_getElem? (i := 8) rfl)) (ty := .long) (by decide) rfl rfl (g := (mkF m 46 #[.val (.ref a0), .val (.ref a1), .val (.int p2), .val (.long q3), .second, .val (.long q4), .second, .val (.int p5), .val (.long q6), .second, .val (.long q7), .second, .val (.long q8), .second, .val (.long q9), .second] [(.long q8), (.ref a0)])) rfl rfl (hb hby own_d2_46)
  have Fw31 := Fc30.same W31
  have N31 := Fr.snoc X31 N27 pre1
  have Kp32 : Keep h0 h31 [a0] := Kp28.wr W31 (Or.inl (List.mem_of_getElem? (i := 0) rfl))
  refine og_of st31 ?_
  show OG p e below _ _ (T31.setTop (mkF m 49 #[.val (.ref a0), .val (.ref a1), .val (.int p2), .val (.long q3), .second, .val (.long q4), .second, .val (.int p5), .val (.long q6), .second, .val (.long q7), .second, .val (.long q8), .second, .val (.long q9), .second] []))
  refine o_aloadN X31 hx rfl (hb hby own_d2_49) rfl rfl ?_
  refine o_lload X31 hx rfl (hb hby own_d2_50) rfl ?_
  have Fc33 : Exa Z h31 a0 "com/example/nodeset/nodeset/StoredNode" := (Exa.wr W31 Fc29)
  have Fc34 : Fld Z h31 a0 "com/example/nodeset/nodeset/StoredNode" "record" "J" (.long (0 : Int64)) := (Fld.other W31 (Fld.other W27 (Fld.other W23 (Fld.other W19 (Fld.other W15 (Fld.other W11 (Fld.other W7 (Fld.other W3 pre10 (Or.inr (slot_ne (Or.inr (hw _ (List.mem_of_getElem? (i := 38) rfl))) (Or.inr (hw _ (List.mem_of_getElem? (i := 22) rfl))) (by decide) (t := .long) (t' := (.object "com/example/nodeset/nodeset/NodeName")) (by decide) (by decide)))) (Or.inr (slot_ne (Or.inr (hw _ (List.mem_of_getElem? (i := 38) rfl))) (Or.inr (hw _ (List.mem_of_getElem? (i := 24) rfl))) (by decide) (t := .long) (t' := .int) (by decide) (by decide)))) (Or.inr (slot_ne (Or.inr (hw _ (List.mem_of_getElem? (i := 38) rfl))) (Or.inr (hw _ (List.mem_of_getElem? (i := 26) rfl))) (by decide) (t := .long) (t' := .long) (by decide) (by decide)))) (Or.inr (slot_ne (Or.inr (hw _ (List.mem_of_getElem? (i := 38) rfl))) (Or.inr (hw _ (List.mem_of_getElem? (i := 28) rfl))) (by decide) (t := .long) (t' := .long) (by decide) (by decide)))) (Or.inr (slot_ne (Or.inr (hw _ (List.mem_of_getElem? (i := 38) rfl))) (Or.inr (hw _ (List.mem_of_getElem? (i := 30) rfl))) (by decide) (t := .long) (t' := .int) (by decide) (by decide)))) (Or.inr (slot_ne (Or.inr (hw _ (List.mem_of_getElem? (i := 38) rfl))) (Or.inr (hw _ (List.mem_of_getElem? (i := 32) rfl))) (by decide) (t := .long) (t' := .long) (by decide) (by decide)))) (Or.inr (slot_ne (Or.inr (hw _ (List.mem_of_getElem? (i := 38) rfl))) (Or.inr (hw _ (List.mem_of_getElem? (i := 34) rfl))) (by decide) (t := .long) (t' := .long) (by decide) (by decide)))) (Or.inr (slot_ne (Or.inr (hw _ (List.mem_of_getElem? (i := 38) rfl))) (Or.inr (hw _ (List.mem_of_getElem? (i := 36) rfl))) (by decide) (t := .long) (t' := .long) (by decide) (by decide))))
  obtain ⟨T35, h35, X35, e35, W35, st35⟩ := putF X31 hx hZ hown (host := "") (Or.inl (hw _ (List.mem_of_getElem? (i := 37) rfl))) Via.refl e31 Fc34 Fc33 (Or.inr ⟨(hw _ (List.mem_of_getElem? (i := 38) rfl)), rfl, hnm⟩) (hw _ (List.mem_of_getElem? (i := 8) rfl)) (ty := .long) (by decide) rfl rfl (g := (mkF m 52 #[.val (.ref a0), .val (.ref a1), .val (.int p2), .val (.long q3), .second, .val (.long q4), .second, .val (.int p5), .val (.long q6), .second, .val (.long q7), .second, .val (.long q8), .second, .val (.long q9), .second] [(.long q9), (.ref a0)])) rfl rfl (hb hby own_d2_52)
  have Fw35 := Fc34.same W35
  have N35 := Fr.snoc X35 N31 pre1
  have Kp36 : Keep h0 h35 [a0] := Kp32.wr W35 (Or.inl (List.mem_of_getElem? (i := 0) rfl))
  refine og_of st35 ?_
  show OG p e below _ _ (T35.setTop (mkF m 55 #[.val (.ref a0), .val (.ref a1), .val (.int p2), .val (.long q3), .second, .val (.long q4), .second, .val (.int p5), .val (.long q6), .second, .val (.long q7), .second, .val (.long q8), .second, .val (.long q9), .second] []))
  have Fc37 : Fld Z h35 a0 "com/example/nodeset/nodeset/StoredNode" "name" "Lcom/example/nodeset/nodeset/NodeName;" (.ref a1) := (Fld.other W35 (Fld.other W31 (Fld.other W27 (Fld.other W23 (Fld.other W19 (Fld.other W15 (Fld.other W11 (Fld.other W7 Fw3 (Or.inr (slot_ne (Or.inr (hw _ (List.mem_of_getElem? (i := 22) rfl))) (Or.inr (hw _ (List.mem_of_getElem? (i := 24) rfl))) (by decide) (t := (.object "com/example/nodeset/nodeset/NodeName")) (t' := .int) (by decide) (by decide)))) (Or.inr (slot_ne (Or.inr (hw _ (List.mem_of_getElem? (i := 22) rfl))) (Or.inr (hw _ (List.mem_of_getElem? (i := 26) rfl))) (by decide) (t := (.object "com/example/nodeset/nodeset/NodeName")) (t' := .long) (by decide) (by decide)))) (Or.inr (slot_ne (Or.inr (hw _ (List.mem_of_getElem? (i := 22) rfl))) (Or.inr (hw _ (List.mem_of_getElem? (i := 28) rfl))) (by decide) (t := (.object "com/example/nodeset/nodeset/NodeName")) (t' := .long) (by decide) (by decide)))) (Or.inr (slot_ne (Or.inr (hw _ (List.mem_of_getElem? (i := 22) rfl))) (Or.inr (hw _ (List.mem_of_getElem? (i := 30) rfl))) (by decide) (t := (.object "com/example/nodeset/nodeset/NodeName")) (t' := .int) (by decide) (by decide)))) (Or.inr (slot_ne (Or.inr (hw _ (List.mem_of_getElem? (i := 22) rfl))) (Or.inr (hw _ (List.mem_of_getElem? (i := 32) rfl))) (by decide) (t := (.object "com/example/nodeset/nodeset/NodeName")) (t' := .long) (by decide) (by decide)))) (Or.inr (slot_ne (Or.inr (hw _ (List.mem_of_getElem? (i := 22) rfl))) (Or.inr (hw _ (List.mem_of_getElem? (i := 34) rfl))) (by decide) (t := (.object "com/example/nodeset/nodeset/NodeName")) (t' := .long) (by decide) (by decide)))) (Or.inr (slot_ne (Or.inr (hw _ (List.mem_of_getElem? (i := 22) rfl))) (Or.inr (hw _ (List.mem_of_getElem? (i := 36) rfl))) (by decide) (t := (.object "com/example/nodeset/nodeset/NodeName")) (t' := .long) (by decide) (by decide)))) (Or.inr (slot_ne (Or.inr (hw _ (List.mem_of_getElem? (i := 22) rfl))) (Or.inr (hw _ (List.mem_of_getElem? (i := 38) rfl))) (by decide) (t := (.object "com/example/nodeset/nodeset/NodeName")) (t' := .long) (by decide) (by decide))))
  have Fc38 : Fld Z h35 a0 "com/example/nodeset/nodeset/StoredNode" "document" "I" (.int p2) := (Fld.other W35 (Fld.other W31 (Fld.other W27 (Fld.other W23 (Fld.other W19 (Fld.other W15 (Fld.other W11 Fw7 (Or.inr (slot_ne (Or.inr (hw _ (List.mem_of_getElem? (i := 24) rfl))) (Or.inr (hw _ (List.mem_of_getElem? (i := 26) rfl))) (by decide) (t := .int) (t' := .long) (by decide) (by decide)))) (Or.inr (slot_ne (Or.inr (hw _ (List.mem_of_getElem? (i := 24) rfl))) (Or.inr (hw _ (List.mem_of_getElem? (i := 28) rfl))) (by decide) (t := .int) (t' := .long) (by decide) (by decide)))) (Or.inr (slot_ne (Or.inr (hw _ (List.mem_of_getElem? (i := 24) rfl))) (Or.inr (hw _ (List.mem_of_getElem? (i := 30) rfl))) (by decide) (t := .int) (t' := .int) (by decide) (by decide)))) (Or.inr (slot_ne (Or.inr (hw _ (List.mem_of_getElem? (i := 24) rfl))) (Or.inr (hw _ (List.mem_of_getElem? (i := 32) rfl))) (by decide) (t := .int) (t' := .long) (by decide) (by decide)))) (Or.inr (slot_ne (Or.inr (hw _ (List.mem_of_getElem? (i := 24) rfl))) (Or.inr (hw _ (List.mem_of_getElem? (i := 34) rfl))) (by decide) (t := .int) (t' := .long) (by decide) (by decide)))) (Or.inr (slot_ne (Or.inr (hw _ (List.mem_of_getElem? (i := 24) rfl))) (Or.inr (hw _ (List.mem_of_getElem? (i := 36) rfl))) (by decide) (t := .int) (t' := .long) (by decide) (by decide)))) (Or.inr (slot_ne (Or.inr (hw _ (List.mem_of_getElem? (i := 24) rfl))) (Or.inr (hw _ (List.mem_of_getElem? (i := 38) rfl))) (by decide) (t := .int) (t' := .long) (by decide) (by decide))))
  have Fc39 : Fld Z h35 a0 "com/example/nodeset/nodeset/StoredNode" "start" "J" (.long q3) := (Fld.other W35 (Fld.other W31 (Fld.other W27 (Fld.other W23 (Fld.other W19 (Fld.other W15 Fw11 (Or.inr (slot_ne (Or.inr (hw _ (List.mem_of_getElem? (i := 26) rfl))) (Or.inr (hw _ (List.mem_of_getElem? (i := 28) rfl))) (by decide) (t := .long) (t' := .long) (by decide) (by decide)))) (Or.inr (slot_ne (Or.inr (hw _ (List.mem_of_getElem? (i := 26) rfl))) (Or.inr (hw _ (List.mem_of_getElem? (i := 30) rfl))) (by decide) (t := .long) (t' := .int) (by decide) (by decide)))) (Or.inr (slot_ne (Or.inr (hw _ (List.mem_of_getElem? (i := 26) rfl))) (Or.inr (hw _ (List.mem_of_getElem? (i := 32) rfl))) (by decide) (t := .long) (t' := .long) (by decide) (by decide)))) (Or.inr (slot_ne (Or.inr (hw _ (List.mem_of_getElem? (i := 26) rfl))) (Or.inr (hw _ (List.mem_of_getElem? (i := 34) rfl))) (by decide) (t := .long) (t' := .long) (by decide) (by decide)))) (Or.inr (slot_ne (Or.inr (hw _ (List.mem_of_getElem? (i := 26) rfl))) (Or.inr (hw _ (List.mem_of_getElem? (i := 36) rfl))) (by decide) (t := .long) (t' := .long) (by decide) (by decide)))) (Or.inr (slot_ne (Or.inr (hw _ (List.mem_of_getElem? (i := 26) rfl))) (Or.inr (hw _ (List.mem_of_getElem? (i := 38) rfl))) (by decide) (t := .long) (t' := .long) (by decide) (by decide))))
  have Fc40 : Fld Z h35 a0 "com/example/nodeset/nodeset/StoredNode" "end" "J" (.long q4) := (Fld.other W35 (Fld.other W31 (Fld.other W27 (Fld.other W23 (Fld.other W19 Fw15 (Or.inr (slot_ne (Or.inr (hw _ (List.mem_of_getElem? (i := 28) rfl))) (Or.inr (hw _ (List.mem_of_getElem? (i := 30) rfl))) (by decide) (t := .long) (t' := .int) (by decide) (by decide)))) (Or.inr (slot_ne (Or.inr (hw _ (List.mem_of_getElem? (i := 28) rfl))) (Or.inr (hw _ (List.mem_of_getElem? (i := 32) rfl))) (by decide) (t := .long) (t' := .long) (by decide) (by decide)))) (Or.inr (slot_ne (Or.inr (hw _ (List.mem_of_getElem? (i := 28) rfl))) (Or.inr (hw _ (List.mem_of_getElem? (i := 34) rfl))) (by decide) (t := .long) (t' := .long) (by decide) (by decide)))) (Or.inr (slot_ne (Or.inr (hw _ (List.mem_of_getElem? (i := 28) rfl))) (Or.inr (hw _ (List.mem_of_getElem? (i := 36) rfl))) (by decide) (t := .long) (t' := .long) (by decide) (by decide)))) (Or.inr (slot_ne (Or.inr (hw _ (List.mem_of_getElem? (i := 28) rfl))) (Or.inr (hw _ (List.mem_of_getElem? (i := 38) rfl))) (by decide) (t := .long) (t' := .long) (by decide) (by decide))))
  have Fc41 : Fld Z h35 a0 "com/example/nodeset/nodeset/StoredNode" "depth" "I" (.int p5) := (Fld.other W35 (Fld.other W31 (Fld.other W27 (Fld.other W23 Fw19 (Or.inr (slot_ne (Or.inr (hw _ (List.mem_of_getElem? (i := 30) rfl))) (Or.inr (hw _ (List.mem_of_getElem? (i := 32) rfl))) (by decide) (t := .int) (t' := .long) (by decide) (by decide)))) (Or.inr (slot_ne (Or.inr (hw _ (List.mem_of_getElem? (i := 30) rfl))) (Or.inr (hw _ (List.mem_of_getElem? (i := 34) rfl))) (by decide) (t := .int) (t' := .long) (by decide) (by decide)))) (Or.inr (slot_ne (Or.inr (hw _ (List.mem_of_getElem? (i := 30) rfl))) (Or.inr (hw _ (List.mem_of_getElem? (i := 36) rfl))) (by decide) (t := .int) (t' := .long) (by decide) (by decide)))) (Or.inr (slot_ne (Or.inr (hw _ (List.mem_of_getElem? (i := 30) rfl))) (Or.inr (hw _ (List.mem_of_getElem? (i := 38) rfl))) (by decide) (t := .int) (t' := .long) (by decide) (by decide))))
  have Fc42 : Fld Z h35 a0 "com/example/nodeset/nodeset/StoredNode" "textPlace" "J" (.long q6) := (Fld.other W35 (Fld.other W31 (Fld.other W27 Fw23 (Or.inr (slot_ne (Or.inr (hw _ (List.mem_of_getElem? (i := 32) rfl))) (Or.inr (hw _ (List.mem_of_getElem? (i := 34) rfl))) (by decide) (t := .long) (t' := .long) (by decide) (by decide)))) (Or.inr (slot_ne (Or.inr (hw _ (List.mem_of_getElem? (i := 32) rfl))) (Or.inr (hw _ (List.mem_of_getElem? (i := 36) rfl))) (by decide) (t := .long) (t' := .long) (by decide) (by decide)))) (Or.inr (slot_ne (Or.inr (hw _ (List.mem_of_getElem? (i := 32) rfl))) (Or.inr (hw _ (List.mem_of_getElem? (i := 38) rfl))) (by decide) (t := .long) (t' := .long) (by decide) (by decide))))
  have Fc43 : Fld Z h35 a0 "com/example/nodeset/nodeset/StoredNode" "valueFrom" "J" (.long q7) := (Fld.other W35 (Fld.other W31 Fw27 (Or.inr (slot_ne (Or.inr (hw _ (List.mem_of_getElem? (i := 34) rfl))) (Or.inr (hw _ (List.mem_of_getElem? (i := 36) rfl))) (by decide) (t := .long) (t' := .long) (by decide) (by decide)))) (Or.inr (slot_ne (Or.inr (hw _ (List.mem_of_getElem? (i := 34) rfl))) (Or.inr (hw _ (List.mem_of_getElem? (i := 38) rfl))) (by decide) (t := .long) (t' := .long) (by decide) (by decide))))
  have Fc44 : Fld Z h35 a0 "com/example/nodeset/nodeset/StoredNode" "valueTo" "J" (.long q8) := (Fld.other W35 Fw31 (Or.inr (slot_ne (Or.inr (hw _ (List.mem_of_getElem? (i := 36) rfl))) (Or.inr (hw _ (List.mem_of_getElem? (i := 38) rfl))) (by decide) (t := .long) (t' := .long) (by decide) (by decide))))
  exact o_ret0 X35 hx Bd.returns (own_lv X35 hlk (by decide) (by decide)) (hb hby own_d2_55) ⟨rfl, N35, (by rw [e35]; exact Kp36), (by rw [e35]; exact Fc37), (by rw [e35]; exact Fc38), (by rw [e35]; exact Fc39), (by rw [e35]; exact Fc40), (by rw [e35]; exact Fc41), (by rw [e35]; exact Fc42), (by rw [e35]; exact Fc43), (by rw [e35]; exact Fc44), (by rw [e35]; exact Fw35)⟩
theorem own_d5_0 : decode prog_32_method_1_code 0 = .ok (.aload_n 0, 1) := by decide +kernel
theorem own_d5_1 : decode prog_32_method_1_code 1 = .ok (.invokespecial 1, 3) := by decide +kernel
theorem own_d5_4 : decode prog_32_method_1_code 4 = .ok (.return_, 1) := by decide +kernel
theorem own_ef5 (m : MethodId) (a0 : Addr) : entryFrame m #[(.ref a0)] 1 = mkF m 0 #[.val (.ref a0)] [] := by first | (simp [entryFrame, mkF, argsToLocals, Value.category]; done) | rfl
def own_Q5 (Z : State) (a0 : Addr) (h0 : Heap) (n0 : Nat) (v : Option Value) (h : Heap) (L : List Loc) : Prop := v = none ∧ Fr n0 L ∧ h = h0
theorem own_pn80 : plainName "com/example/nodeset/nodeset/MutableLabel" = true := by first | (simp [plainName, overriddenIn]; done) | decide +kernel
set_option maxRecDepth 65536 in
set_option maxHeartbeats 40000000 in
theorem own_rm5 (l : Launch) (Z : State) (aA : Array Value) (hw : ∀ d ∈ tables_1, d.before aA Z = true) (ws : List Jvm.Cond) (a0 : Addr) (h0 : Heap) (n0 : Nat) (Z0 : n0 ≤ h0.size) :
    MetFree l (⟨"com/example/nodeset/nodeset/MutableLabel", "<init>", "()V"⟩ : MethodName) (head1 (Jvm.Cond.code (⟨"com/example/nodeset/nodeset/MutableLabel", "<init>", "()V"⟩ : MethodName) prog_32_method_1_code 1 none :: ws) ({ frames := 1, cells := 0, slots := 0, locals := 12 } : Room)) (fun a U => a = #[(.ref a0)] ∧ Z.Warmed39 U.vm ∧ U.heap = h0) (fun _ _ _ _ _ => True) (fun _ U o U' => ∃ v L, o = .returned v ∧ own_Q5 Z a0 h0 n0 v U'.heap L ∧ FrameEnd U o U' L ({ frames := 1, cells := 0, slots := 0, locals := 12 } : Room).cells ({ frames := 1, cells := 0, slots := 0, locals := 12 } : Room).slots) := by
  refine MetFree.of_bodySF (plainFor_of_name own_pn80) hisR ?_
  intro p e s m args below meth c s₁ Bd hml0 hP hK
  obtain ⟨rfl, hZ, hh⟩ := hP
  have hx := Bd.exec
  have hby := Bd.bytes
  have hlk : meth.locks = false := Bd.notSynchronized
  have hml : c.maxLocals = 1 := hml0
  have hown : s.vm.findClass "com/example/nodeset/nodeset/MutableLabel" = some m.cls := findClass_of_methodNamed Bd.named
  have hnm := (name_of_methodNamed Bd.named Bd.method).1
  have X0 : Stand p l e ({ frames := 1, cells := 0, slots := 0, locals := 12 } : Room) s m #[(.ref a0)] below meth c s₁ [] 0 0 := Stand.of_body Bd
  have e0 : s₁.heap = h0 := by rw [← hh, Bd.state]; rfl
  have N0 := Fr.nil n0
  show OG p e below (FE s ({ frames := 1, cells := 0, slots := 0, locals := 12 } : Room).cells ({ frames := 1, cells := 0, slots := 0, locals := 12 } : Room).slots) (own_Q5 Z a0 h0 n0) (s₁.setTop (entryFrame m #[(.ref a0)] 1))
  refine og_of (fun _ k => castTop (own_ef5 m a0) k) ?_
  refine o_aloadN X0 hx rfl (hb hby own_d5_0) rfl rfl ?_
  obtain ⟨T1, X1, e1, st1⟩ := initO X0 hx hZ hown (hw _ (List.mem_of_getElem? (i := 45) rfl)) (hw _ (List.mem_of_getElem? (i := 19) rfl)) (hw _ (List.mem_of_getElem? (i := 20) rfl)) e0 (g := (mkF m 1 #[.val (.ref a0)] [(.ref a0)])) rfl (by rw [hml]; rfl) rfl (hb hby own_d5_1) (by decide) (W := 0) (by show 2 * 0 + _ ≤ _; exact Nat.le_of_eq rfl) (by decide)
  refine og_of st1 ?_
  show OG p e below _ _ (T1.setTop (mkF m 4 #[.val (.ref a0)] []))
  exact o_ret0 X1 hx Bd.returns (own_lv X1 hlk (by decide) (by decide)) (hb hby own_d5_4) ⟨rfl, N0, e1⟩
theorem own_d8_0 : decode prog_41_method_10_code 0 = .ok (.aload_n 0, 1) := by decide +kernel
theorem own_d8_1 : decode prog_41_method_10_code 1 = .ok (.getfield 7, 3) := by decide +kernel
theorem own_d8_4 : decode prog_41_method_10_code 4 = .ok (.areturn, 1) := by decide +kernel
theorem own_ef8 (m : MethodId) (a0 : Addr) : entryFrame m #[(.ref a0)] 1 = mkF m 0 #[.val (.ref a0)] [] := by first | (simp [entryFrame, mkF, argsToLocals, Value.category]; done) | rfl
def own_Q8 (Z : State) (a0 : Addr) (w0 : Addr) (h0 : Heap) (n0 : Nat) (v : Option Value) (h : Heap) (L : List Loc) : Prop := v = some (.ref w0) ∧ Fr n0 L ∧ h = h0
set_option maxRecDepth 65536 in
set_option maxHeartbeats 40000000 in
theorem own_rm8 (l : Launch) (Z : State) (aA : Array Value) (hw : ∀ d ∈ tables_1, d.before aA Z = true) (ws : List Jvm.Cond) (a0 : Addr) (w0 : Addr) (h0 : Heap) (n0 : Nat) (Z0 : n0 ≤ h0.size) (pre0 : Fld Z h0 a0 "com/example/nodeset/nodeset/NodeName" "kind" "Lcom/example/nodeset/nodeset/NodeKind;" (.ref w0)) :
    MetFree l (⟨"com/example/nodeset/nodeset/NodeName", "kind", "()Lcom/example/nodeset/nodeset/NodeKind;"⟩ : MethodName) (head1 (Jvm.Cond.code (⟨"com/example/nodeset/nodeset/NodeName", "kind", "()Lcom/example/nodeset/nodeset/NodeKind;"⟩ : MethodName) prog_41_method_10_code 1 (some (.object "com/example/nodeset/nodeset/NodeKind")) :: ws) ({ frames := 0, cells := 0, slots := 0, locals := 0 } : Room)) (fun a U => a = #[(.ref a0)] ∧ Z.Warmed39 U.vm ∧ U.heap = h0) (fun _ _ _ _ _ => True) (fun _ U o U' => ∃ v L, o = .returned v ∧ own_Q8 Z a0 w0 h0 n0 v U'.heap L ∧ FrameEnd U o U' L ({ frames := 0, cells := 0, slots := 0, locals := 0 } : Room).cells ({ frames := 0, cells := 0, slots := 0, locals := 0 } : Room).slots) := by
  refine MetFree.of_bodySF (plainFor_of_name own_pn19) hisR ?_
  intro p e s m args below meth c s₁ Bd hml0 hP hK
  obtain ⟨rfl, hZ, hh⟩ := hP
  have hx := Bd.exec
  have hby := Bd.bytes
  have hlk : meth.locks = false := Bd.notSynchronized
  have hml : c.maxLocals = 1 := hml0
  have hown : s.vm.findClass "com/example/nodeset/nodeset/NodeName" = some m.cls := findClass_of_methodNamed Bd.named
  have hnm := (name_of_methodNamed Bd.named Bd.method).1
  have X0 : Stand p l e ({ frames := 0, cells := 0, slots := 0, locals := 0 } : Room) s m #[(.ref a0)] below meth c s₁ [] 0 0 := Stand.of_body Bd
  have e0 : s₁.heap = h0 := by rw [← hh, Bd.state]; rfl
  have N0 := Fr.nil n0
  show OG p e below (FE s ({ frames := 0, cells := 0, slots := 0, locals := 0 } : Room).cells ({ frames := 0, cells := 0, slots := 0, locals := 0 } : Room).slots) (own_Q8 Z a0 w0 h0 n0) (s₁.setTop (entryFrame m #[(.ref a0)] 1))
  refine og_of (fun _ k => castTop (own_ef8 m a0) k) ?_
  refine o_aloadN X0 hx rfl (hb hby own_d8_0) rfl rfl ?_
  obtain ⟨T1, X1, e1, st1⟩ := getF X0 hx hZ hown (host := "") (Or.inl (hw _ (List.mem_of_getElem? (i := 61) rfl))) Via.refl e0 pre0 (g := (mkF m 1 #[.val (.ref a0)] [(.ref a0)])) rfl rfl (hb hby own_d8_1)
  refine og_of st1 ?_
  show OG p e below _ _ (T1.setTop (mkF m 4 #[.val (.ref a0)] [(.ref w0)]))
  exact o_retA X1 hx Bd.returns rfl (own_lv X1 hlk (by decide) (by decide)) (hb hby own_d8_4) rfl rfl ⟨rfl, N0, e1⟩
theorem own_pd3 : parseMethodDescriptor "()Lcom/example/nodeset/nodeset/NodeKind;" = some ⟨[], some (.object "com/example/nodeset/nodeset/NodeKind")⟩ := by decide +kernel
theorem own_d7_0 : decode prog_76_method_4_code 0 = .ok (.aload_n 0, 1) := by decide +kernel
theorem own_d7_1 : decode prog_76_method_4_code 1 = .ok (.getfield 7, 3) := by decide +kernel
theorem own_d7_4 : decode prog_76_method_4_code 4 = .ok (.invokevirtual 51, 3) := by decide +kernel
theorem own_d7_7 : decode prog_76_method_4_code 7 = .ok (.areturn, 1) := by decide +kernel
theorem own_ef7 (m : MethodId) (a0 : Addr) : entryFrame m #[(.ref a0)] 1 = mkF m 0 #[.val (.ref a0)] [] := by first | (simp [entryFrame, mkF, argsToLocals, Value.category]; done) | rfl
def own_Q7 (Z : State) (a0 : Addr) (nm : Addr) (kk : Addr) (h0 : Heap) (n0 : Nat) (v : Option Value) (h : Heap) (L : List Loc) : Prop := v = some (.ref kk) ∧ Fr n0 L ∧ h = h0
set_option maxRecDepth 65536 in
set_option maxHeartbeats 40000000 in
theorem own_rm7 (l : Launch) (Z : State) (aA : Array Value) (hw : ∀ d ∈ tables_1, d.before aA Z = true) (ws : List Jvm.Cond) (a0 : Addr) (nm : Addr) (kk : Addr) (h0 : Heap) (n0 : Nat) (Z0 : n0 ≤ h0.size) (pre0 : Fld Z h0 a0 "com/example/nodeset/nodeset/StoredNode" "name" "Lcom/example/nodeset/nodeset/NodeName;" (.ref nm)) (pre1 : Exa Z h0 nm "com/example/nodeset/nodeset/NodeName") (pre2 : Fld Z h0 nm "com/example/nodeset/nodeset/NodeName" "kind" "Lcom/example/nodeset/nodeset/NodeKind;" (.ref kk)) :
    MetFree l (⟨"com/example/nodeset/nodeset/StoredNode", "kind", "()Lcom/example/nodeset/nodeset/NodeKind;"⟩ : MethodName) (head1 (Jvm.Cond.code (⟨"com/example/nodeset/nodeset/StoredNode", "kind", "()Lcom/example/nodeset/nodeset/NodeKind;"⟩ : MethodName) prog_76_method_4_code 1 (some (.object "com/example/nodeset/nodeset/NodeKind")) :: ws) ({ frames := 1, cells := 0, slots := 0, locals := 12 } : Room)) (fun a U => a = #[(.ref a0)] ∧ Z.Warmed39 U.vm ∧ U.heap = h0) (fun _ _ _ _ _ => True) (fun _ U o U' => ∃ v L, o = .returned v ∧ own_Q7 Z a0 nm kk h0 n0 v U'.heap L ∧ FrameEnd U o U' L ({ frames := 1, cells := 0, slots := 0, locals := 12 } : Room).cells ({ frames := 1, cells := 0, slots := 0, locals := 12 } : Room).slots) := by
  refine MetFree.of_bodySF (plainFor_of_name own_pn76) hisR ?_
  intro p e s m args below meth c s₁ Bd hml0 hP hK
  obtain ⟨rfl, hZ, hh⟩ := hP
  have hx := Bd.exec
  have hby := Bd.bytes
  have hlk : meth.locks = false := Bd.notSynchronized
  have hml : c.maxLocals = 1 := hml0
  have hown : s.vm.findClass "com/example/nodeset/nodeset/StoredNode" = some m.cls := findClass_of_methodNamed Bd.named
  have hnm := (name_of_methodNamed Bd.named Bd.method).1
  have X0 : Stand p l e ({ frames := 1, cells := 0, slots := 0, locals := 12 } : Room) s m #[(.ref a0)] below meth c s₁ [] 0 0 := Stand.of_body Bd
  have e0 : s₁.heap = h0 := by rw [← hh, Bd.state]; rfl
  have N0 := Fr.nil n0
  show OG p e below (FE s ({ frames := 1, cells := 0, slots := 0, locals := 12 } : Room).cells ({ frames := 1, cells := 0, slots := 0, locals := 12 } : Room).slots) (own_Q7 Z a0 nm kk h0 n0) (s₁.setTop (entryFrame m #[(.ref a0)] 1))
  refine og_of (fun _ k => castTop (own_ef7 m a0) k) ?_
  refine o_aloadN X0 hx rfl (hb hby own_d7_0) rfl rfl ?_
  obtain ⟨T1, X1, e1, st1⟩ := getF X0 hx hZ hown (host := "") (Or.inl (hw _ (List.mem_of_getElem? (i := 21) rfl))) Via.refl e0 pre0 (g := (mkF m 1 #[.val (.ref a0)] [(.ref a0)])) rfl rfl (hb hby own_d7_1)
  refine og_of st1 ?_
  show OG p e below _ _ (T1.setTop (mkF m 4 #[.val (.ref a0)] [(.ref nm)]))
  obtain ⟨cq2, kq2, q2a, q2b, q2c⟩ := isOf hZ e1 pre1
  obtain ⟨_, _, ⟨T2, L2, k2, n2⟩, -, X2, ⟨Lc2, hQ2, l2, y2, z2⟩, st2⟩ := X1.virtualBack hx (y := (⟨"com/example/nodeset/nodeset/NodeName", "kind", "()Lcom/example/nodeset/nodeset/NodeKind;"⟩ : MethodName)) (z := (⟨"com/example/nodeset/nodeset/NodeName", "kind", "()Lcom/example/nodeset/nodeset/NodeKind;"⟩ : MethodName)) hown (mvT hZ (hw _ (List.mem_of_getElem? (i := 56) rfl))) (mvT hZ (hw _ (List.mem_of_getElem? (i := 57) rfl))) (notFace_of_selects (args := #[]) (mvT hZ (hw _ (List.mem_of_getElem? (i := 59) rfl)))) (mvT hZ (hw _ (List.mem_of_getElem? (i := 59) rfl))) (mvT hZ (hw _ (List.mem_of_getElem? (i := 58) rfl))) (by decide) (backOf (W := 0) (own_rm8 l Z aA hw [] nm kk h0 n0 Z0 pre2) hZ (hw _ (List.mem_of_getElem? (i := 60) rfl)) (hw _ (List.mem_of_getElem? (i := 5) rfl)) (by decide) (by decide)) q2a q2c (g := (mkF m 4 #[.val (.ref a0)] [(.ref nm)])) rfl (by rw [hml]; rfl) (Steps.refl _) (argsL := []) (rest := []) (lenOf own_pd3 rfl) rfl (by show 2 * 0 + _ ≤ _; exact Nat.le_of_eq rfl) (hb hby own_d7_4) (fun _ _ => ⟨rfl, e1, Nat.le_of_ble_eq_true rfl, Nat.le_of_ble_eq_true rfl⟩)
  dsimp only [Pt.U, Pt.locs, Pt.cells, Pt.slots] at X2 l2 y2 z2 st2 hQ2
  subst l2 y2 z2
  obtain ⟨rfl, N2q, ee2⟩ := hQ2
  have N3 := Fr.app N0 N2q
  refine og_tr st2 ?_
  show OG p e below _ _ (T2.setTop (mkF m 7 #[.val (.ref a0)] [(.ref kk)]))
  exact o_retA X2 hx Bd.returns rfl (own_lv X2 hlk (by decide) (by decide)) (hb hby own_d7_7) rfl rfl ⟨rfl, N3, ee2⟩
theorem own_d9_0 : decode prog_76_method_14_code 0 = .ok (.aload_n 0, 1) := by decide +kernel
theorem own_d9_1 : decode prog_76_method_14_code 1 = .ok (.getfield 17, 3) := by decide +kernel
theorem own_d9_4 : decode prog_76_method_14_code 4 = .ok (.lreturn, 1) := by decide +kernel
theorem own_ef9 (m : MethodId) (a0 : Addr) : entryFrame m #[(.ref a0)] 1 = mkF m 0 #[.val (.ref a0)] [] := by first | (simp [entryFrame, mkF, argsToLocals, Value.category]; done) | rfl
def own_Q9 (Z : State) (a0 : Addr) (w0 : Int64) (h0 : Heap) (n0 : Nat) (v : Option Value) (h : Heap) (L : List Loc) : Prop := v = some (.long w0) ∧ Fr n0 L ∧ h = h0
set_option maxRecDepth 65536 in
set_option maxHeartbeats 40000000 in
theorem own_rm9 (l : Launch) (Z : State) (aA : Array Value) (hw : ∀ d ∈ tables_1, d.before aA Z = true) (ws : List Jvm.Cond) (a0 : Addr) (w0 : Int64) (h0 : Heap) (n0 : Nat) (Z0 : n0 ≤ h0.size) (pre0 : Fld Z h0 a0 "com/example/nodeset/nodeset/StoredNode" "start" "J" (.long w0)) :
    MetFree l (⟨"com/example/nodeset/nodeset/StoredNode", "start", "()J"⟩ : MethodName) (head1 (Jvm.Cond.code (⟨"com/example/nodeset/nodeset/StoredNode", "start", "()J"⟩ : MethodName) prog_76_method_14_code 1 (some .long) :: ws) ({ frames := 0, cells := 0, slots := 0, locals := 0 } : Room)) (fun a U => a = #[(.ref a0)] ∧ Z.Warmed39 U.vm ∧ U.heap = h0) (fun _ _ _ _ _ => True) (fun _ U o U' => ∃ v L, o = .returned v ∧ own_Q9 Z a0 w0 h0 n0 v U'.heap L ∧ FrameEnd U o U' L ({ frames := 0, cells := 0, slots := 0, locals := 0 } : Room).cells ({ frames := 0, cells := 0, slots := 0, locals := 0 } : Room).slots) := by
  refine MetFree.of_bodySF (plainFor_of_name own_pn76) hisR ?_
  intro p e s m args below meth c s₁ Bd hml0 hP hK
  obtain ⟨rfl, hZ, hh⟩ := hP
  have hx := Bd.exec
  have hby := Bd.bytes
  have hlk : meth.locks = false := Bd.notSynchronized
  have hml : c.maxLocals = 1 := hml0
  have hown : s.vm.findClass "com/example/nodeset/nodeset/StoredNode" = some m.cls := findClass_of_methodNamed Bd.named
  have hnm := (name_of_methodNamed Bd.named Bd.method).1
  have X0 : Stand p l e ({ frames := 0, cells := 0, slots := 0, locals := 0 } : Room) s m #[(.ref a0)] below meth c s₁ [] 0 0 := Stand.of_body Bd
  have e0 : s₁.heap = h0 := by rw [← hh, Bd.state]; rfl
  have N0 := Fr.nil n0
  show OG p e below (FE s ({ frames := 0, cells := 0, slots := 0, locals := 0 } : Room).cells ({ frames := 0, cells := 0, slots := 0, locals := 0 } : Room).slots) (own_Q9 Z a0 w0 h0 n0) (s₁.setTop (entryFrame m #[(.ref a0)] 1))
  refine og_of (fun _ k => castTop (own_ef9 m a0) k) ?_
  refine o_aloadN X0 hx rfl (hb hby own_d9_0) rfl rfl ?_
  obtain ⟨T1, X1, e1, st1⟩ := getF X0 hx hZ hown (host := "") (Or.inl (hw _ (List.mem_of_getElem? (i := 25) rfl))) Via.refl e0 pre0 (g := (mkF m 1 #[.val (.ref a0)] [(.ref a0)])) rfl rfl (hb hby own_d9_1)
  refine og_of st1 ?_
  show OG p e below _ _ (T1.setTop (mkF m 4 #[.val (.ref a0)] [(.long w0)]))
  exact o_retL X1 hx Bd.returns (own_lv X1 hlk (by decide) (by decide)) (hb hby own_d9_4) ⟨rfl, N0, e1⟩
theorem own_d10_0 : decode prog_76_method_15_code 0 = .ok (.aload_n 0, 1) := by decide +kernel
theorem own_d10_1 : decode prog_76_method_15_code 1 = .ok (.getfield 21, 3) := by decide +kernel
theorem own_d10_4 : decode prog_76_method_15_code 4 = .ok (.lreturn, 1) := by decide +kernel
theorem own_ef10 (m : MethodId) (a0 : Addr) : entryFrame m #[(.ref a0)] 1 = mkF m 0 #[.val (.ref a0)] [] := by first | (simp [entryFrame, mkF, argsToLocals, Value.category]; done) | rfl
def own_Q10 (Z : State) (a0 : Addr) (w0 : Int64) (h0 : Heap) (n0 : Nat) (v : Option Value) (h : Heap) (L : List Loc) : Prop := v = some (.long w0) ∧ Fr n0 L ∧ h = h0
set_option maxRecDepth 65536 in
set_option maxHeartbeats 40000000 in
theorem own_rm10 (l : Launch) (Z : State) (aA : Array Value) (hw : ∀ d ∈ tables_1, d.before aA Z = true) (ws : List Jvm.Cond) (a0 : Addr) (w0 : Int64) (h0 : Heap) (n0 : Nat) (Z0 : n0 ≤ h0.size) (pre0 : Fld Z h0 a0 "com/example/nodeset/nodeset/StoredNode" "end" "J" (.long w0)) :
    MetFree l (⟨"com/example/nodeset/nodeset/StoredNode", "end", "()J"⟩ : MethodName) (head1 (Jvm.Cond.code (⟨"com/example/nodeset/nodeset/StoredNode", "end", "()J"⟩ : MethodName) prog_76_method_15_code 1 (some .long) :: ws) ({ frames := 0, cells := 0, slots := 0, locals := 0 } : Room)) (fun a U => a = #[(.ref a0)] ∧ Z.Warmed39 U.vm ∧ U.heap = h0) (fun _ _ _ _ _ => True) (fun _ U o U' => ∃ v L, o = .returned v ∧ own_Q10 Z a0 w0 h0 n0 v U'.heap L ∧ FrameEnd U o U' L ({ frames := 0, cells := 0, slots := 0, locals := 0 } : Room).cells ({ frames := 0, cells := 0, slots := 0, locals := 0 } : Room).slots) := by
  refine MetFree.of_bodySF (plainFor_of_name own_pn76) hisR ?_
  intro p e s m args below meth c s₁ Bd hml0 hP hK
  obtain ⟨rfl, hZ, hh⟩ := hP
  have hx := Bd.exec
  have hby := Bd.bytes
  have hlk : meth.locks = false := Bd.notSynchronized
  have hml : c.maxLocals = 1 := hml0
  have hown : s.vm.findClass "com/example/nodeset/nodeset/StoredNode" = some m.cls := findClass_of_methodNamed Bd.named
  have hnm := (name_of_methodNamed Bd.named Bd.method).1
  have X0 : Stand p l e ({ frames := 0, cells := 0, slots := 0, locals := 0 } : Room) s m #[(.ref a0)] below meth c s₁ [] 0 0 := Stand.of_body Bd
  have e0 : s₁.heap = h0 := by rw [← hh, Bd.state]; rfl
  have N0 := Fr.nil n0
  show OG p e below (FE s ({ frames := 0, cells := 0, slots := 0, locals := 0 } : Room).cells ({ frames := 0, cells := 0, slots := 0, locals := 0 } : Room).slots) (own_Q10 Z a0 w0 h0 n0) (s₁.setTop (entryFrame m #[(.ref a0)] 1))
  refine og_of (fun _ k => castTop (own_ef10 m a0) k) ?_
  refine o_aloadN X0 hx rfl (hb hby own_d10_0) rfl rfl ?_
  obtain ⟨T1, X1, e1, st1⟩ := getF X0 hx hZ hown (host := "") (Or.inl (hw _ (List.mem_of_getElem? (i := 27) rfl))) Via.refl e0 pre0 (g := (mkF m 1 #[.val (.ref a0)] [(.ref a0)])) rfl rfl (hb hby own_d10_1)
  refine og_of st1 ?_
  show OG p e below _ _ (T1.setTop (mkF m 4 #[.val (.ref a0)] [(.long w0)]))
  exact o_retL X1 hx Bd.returns (own_lv X1 hlk (by decide) (by decide)) (hb hby own_d10_4) ⟨rfl, N0, e1⟩
theorem own_d11_0 : decode prog_76_method_16_code 0 = .ok (.aload_n 0, 1) := by decide +kernel
theorem own_d11_1 : decode prog_76_method_16_code 1 = .ok (.getfield 24, 3) := by decide +kernel
theorem own_d11_4 : decode prog_76_method_16_code 4 = .ok (.ireturn, 1) := by decide +kernel
theorem own_ef11 (m : MethodId) (a0 : Addr) : entryFrame m #[(.ref a0)] 1 = mkF m 0 #[.val (.ref a0)] [] := by first | (simp [entryFrame, mkF, argsToLocals, Value.category]; done) | rfl
def own_Q11 (Z : State) (a0 : Addr) (w0 : Int32) (h0 : Heap) (n0 : Nat) (v : Option Value) (h : Heap) (L : List Loc) : Prop := v = some (.int w0) ∧ Fr n0 L ∧ h = h0
set_option maxRecDepth 65536 in
set_option maxHeartbeats 40000000 in
theorem own_rm11 (l : Launch) (Z : State) (aA : Array Value) (hw : ∀ d ∈ tables_1, d.before aA Z = true) (ws : List Jvm.Cond) (a0 : Addr) (w0 : Int32) (h0 : Heap) (n0 : Nat) (Z0 : n0 ≤ h0.size) (pre0 : Fld Z h0 a0 "com/example/nodeset/nodeset/StoredNode" "depth" "I" (.int w0)) :
    MetFree l (⟨"com/example/nodeset/nodeset/StoredNode", "depth", "()I"⟩ : MethodName) (head1 (Jvm.Cond.code (⟨"com/example/nodeset/nodeset/StoredNode", "depth", "()I"⟩ : MethodName) prog_76_method_16_code 1 (some .int) :: ws) ({ frames := 0, cells := 0, slots := 0, locals := 0 } : Room)) (fun a U => a = #[(.ref a0)] ∧ Z.Warmed39 U.vm ∧ U.heap = h0) (fun _ _ _ _ _ => True) (fun _ U o U' => ∃ v L, o = .returned v ∧ own_Q11 Z a0 w0 h0 n0 v U'.heap L ∧ FrameEnd U o U' L ({ frames := 0, cells := 0, slots := 0, locals := 0 } : Room).cells ({ frames := 0, cells := 0, slots := 0, locals := 0 } : Room).slots) := by
  refine MetFree.of_bodySF (plainFor_of_name own_pn76) hisR ?_
  intro p e s m args below meth c s₁ Bd hml0 hP hK
  obtain ⟨rfl, hZ, hh⟩ := hP
  have hx := Bd.exec
  have hby := Bd.bytes
  have hlk : meth.locks = false := Bd.notSynchronized
  have hml : c.maxLocals = 1 := hml0
  have hown : s.vm.findClass "com/example/nodeset/nodeset/StoredNode" = some m.cls := findClass_of_methodNamed Bd.named
  have hnm := (name_of_methodNamed Bd.named Bd.method).1
  have X0 : Stand p l e ({ frames := 0, cells := 0, slots := 0, locals := 0 } : Room) s m #[(.ref a0)] below meth c s₁ [] 0 0 := Stand.of_body Bd
  have e0 : s₁.heap = h0 := by rw [← hh, Bd.state]; rfl
  have N0 := Fr.nil n0
  show OG p e below (FE s ({ frames := 0, cells := 0, slots := 0, locals := 0 } : Room).cells ({ frames := 0, cells := 0, slots := 0, locals := 0 } : Room).slots) (own_Q11 Z a0 w0 h0 n0) (s₁.setTop (entryFrame m #[(.ref a0)] 1))
  refine og_of (fun _ k => castTop (own_ef11 m a0) k) ?_
  refine o_aloadN X0 hx rfl (hb hby own_d11_0) rfl rfl ?_
  obtain ⟨T1, X1, e1, st1⟩ := getF X0 hx hZ hown (host := "") (Or.inl (hw _ (List.mem_of_getElem? (i := 29) rfl))) Via.refl e0 pre0 (g := (mkF m 1 #[.val (.ref a0)] [(.ref a0)])) rfl rfl (hb hby own_d11_1)
  refine og_of st1 ?_
  show OG p e below _ _ (T1.setTop (mkF m 4 #[.val (.ref a0)] [(.int w0)]))
  exact o_retI X1 hx Bd.returns (own_lv X1 hlk (by decide) (by decide)) (hb hby own_d11_4) ⟨rfl, N0, e1⟩
theorem own_d12_0 : decode prog_76_method_17_code 0 = .ok (.aload_n 0, 1) := by decide +kernel
theorem own_d12_1 : decode prog_76_method_17_code 1 = .ok (.getfield 27, 3) := by decide +kernel
theorem own_d12_4 : decode prog_76_method_17_code 4 = .ok (.lreturn, 1) := by decide +kernel
theorem own_ef12 (m : MethodId) (a0 : Addr) : entryFrame m #[(.ref a0)] 1 = mkF m 0 #[.val (.ref a0)] [] := by first | (simp [entryFrame, mkF, argsToLocals, Value.category]; done) | rfl
def own_Q12 (Z : State) (a0 : Addr) (w0 : Int64) (h0 : Heap) (n0 : Nat) (v : Option Value) (h : Heap) (L : List Loc) : Prop := v = some (.long w0) ∧ Fr n0 L ∧ h = h0
set_option maxRecDepth 65536 in
set_option maxHeartbeats 40000000 in
theorem own_rm12 (l : Launch) (Z : State) (aA : Array Value) (hw : ∀ d ∈ tables_1, d.before aA Z = true) (ws : List Jvm.Cond) (a0 : Addr) (w0 : Int64) (h0 : Heap) (n0 : Nat) (Z0 : n0 ≤ h0.size) (pre0 : Fld Z h0 a0 "com/example/nodeset/nodeset/StoredNode" "textPlace" "J" (.long w0)) :
    MetFree l (⟨"com/example/nodeset/nodeset/StoredNode", "textPlace", "()J"⟩ : MethodName) (head1 (Jvm.Cond.code (⟨"com/example/nodeset/nodeset/StoredNode", "textPlace", "()J"⟩ : MethodName) prog_76_method_17_code 1 (some .long) :: ws) ({ frames := 0, cells := 0, slots := 0, locals := 0 } : Room)) (fun a U => a = #[(.ref a0)] ∧ Z.Warmed39 U.vm ∧ U.heap = h0) (fun _ _ _ _ _ => True) (fun _ U o U' => ∃ v L, o = .returned v ∧ own_Q12 Z a0 w0 h0 n0 v U'.heap L ∧ FrameEnd U o U' L ({ frames := 0, cells := 0, slots := 0, locals := 0 } : Room).cells ({ frames := 0, cells := 0, slots := 0, locals := 0 } : Room).slots) := by
  refine MetFree.of_bodySF (plainFor_of_name own_pn76) hisR ?_
  intro p e s m args below meth c s₁ Bd hml0 hP hK
  obtain ⟨rfl, hZ, hh⟩ := hP
  have hx := Bd.exec
  have hby := Bd.bytes
  have hlk : meth.locks = false := Bd.notSynchronized
  have hml : c.maxLocals = 1 := hml0
  have hown : s.vm.findClass "com/example/nodeset/nodeset/StoredNode" = some m.cls := findClass_of_methodNamed Bd.named
  have hnm := (name_of_methodNamed Bd.named Bd.method).1
  have X0 : Stand p l e ({ frames := 0, cells := 0, slots := 0, locals := 0 } : Room) s m #[(.ref a0)] below meth c s₁ [] 0 0 := Stand.of_body Bd
  have e0 : s₁.heap = h0 := by rw [← hh, Bd.state]; rfl
  have N0 := Fr.nil n0
  show OG p e below (FE s ({ frames := 0, cells := 0, slots := 0, locals := 0 } : Room).cells ({ frames := 0, cells := 0, slots := 0, locals := 0 } : Room).slots) (own_Q12 Z a0 w0 h0 n0) (s₁.setTop (entryFrame m #[(.ref a0)] 1))
  refine og_of (fun _ k => castTop (own_ef12 m a0) k) ?_
  refine o_aloadN X0 hx rfl (hb hby own_d12_0) rfl rfl ?_
  obtain ⟨T1, X1, e1, st1⟩ := getF X0 hx hZ hown (host := "") (Or.inl (hw _ (List.mem_of_getElem? (i := 31) rfl))) Via.refl e0 pre0 (g := (mkF m 1 #[.val (.ref a0)] [(.ref a0)])) rfl rfl (hb hby own_d12_1)
  refine og_of st1 ?_
  show OG p e below _ _ (T1.setTop (mkF m 4 #[.val (.ref a0)] [(.long w0)]))
  exact o_retL X1 hx Bd.returns (own_lv X1 hlk (by decide) (by decide)) (hb hby own_d12_4) ⟨rfl, N0, e1⟩
theorem own_pd4 : parseMethodDescriptor "()J" = some ⟨[], some .long⟩ := by decide +kernel
theorem own_pd5 : parseMethodDescriptor "()I" = some ⟨[], some .int⟩ := by decide +kernel
theorem own_d6_0 : decode prog_32_method_2_code 0 = .ok (.aload_n 0, 1) := by decide +kernel
theorem own_d6_1 : decode prog_32_method_2_code 1 = .ok (.aload_n 1, 1) := by decide +kernel
theorem own_d6_2 : decode prog_32_method_2_code 2 = .ok (.invokevirtual 7, 3) := by decide +kernel
theorem own_d6_5 : decode prog_32_method_2_code 5 = .ok (.putfield 13, 3) := by decide +kernel
theorem own_d6_8 : decode prog_32_method_2_code 8 = .ok (.aload_n 0, 1) := by decide +kernel
theorem own_d6_9 : decode prog_32_method_2_code 9 = .ok (.aload_n 1, 1) := by decide +kernel
theorem own_d6_10 : decode prog_32_method_2_code 10 = .ok (.invokevirtual 18, 3) := by decide +kernel
theorem own_d6_13 : decode prog_32_method_2_code 13 = .ok (.putfield 22, 3) := by decide +kernel
theorem own_d6_16 : decode prog_32_method_2_code 16 = .ok (.aload_n 0, 1) := by decide +kernel
theorem own_d6_17 : decode prog_32_method_2_code 17 = .ok (.aload_n 1, 1) := by decide +kernel
theorem own_d6_18 : decode prog_32_method_2_code 18 = .ok (.invokevirtual 25, 3) := by decide +kernel
theorem own_d6_21 : decode prog_32_method_2_code 21 = .ok (.putfield 28, 3) := by decide +kernel
theorem own_d6_24 : decode prog_32_method_2_code 24 = .ok (.aload_n 0, 1) := by decide +kernel
theorem own_d6_25 : decode prog_32_method_2_code 25 = .ok (.aload_n 1, 1) := by decide +kernel
theorem own_d6_26 : decode prog_32_method_2_code 26 = .ok (.invokevirtual 30, 3) := by decide +kernel
theorem own_d6_29 : decode prog_32_method_2_code 29 = .ok (.putfield 34, 3) := by decide +kernel
theorem own_d6_32 : decode prog_32_method_2_code 32 = .ok (.aload_n 0, 1) := by decide +kernel
theorem own_d6_33 : decode prog_32_method_2_code 33 = .ok (.aload_n 1, 1) := by decide +kernel
theorem own_d6_34 : decode prog_32_method_2_code 34 = .ok (.invokevirtual 37, 3) := by decide +kernel
theorem own_d6_37 : decode prog_32_method_2_code 37 = .ok (.putfield 40, 3) := by decide +kernel
theorem own_d6_40 : decode prog_32_method_2_code 40 = .ok (.return_, 1) := by decide +kernel
theorem own_ef6 (m : MethodId) (a0 : Addr) (a1 : Addr) : entryFrame m #[(.ref a0), (.ref a1)] 2 = mkF m 0 #[.val (.ref a0), .val (.ref a1)] [] := by first | (simp [entryFrame, mkF, argsToLocals, Value.category]; done) | rfl
def own_Q6 (Z : State) (a0 : Addr) (a1 : Addr) (nm : Addr) (kk : Addr) (x1 : Int64) (x2 : Int64) (x3 : Int32) (x4 : Int64) (o0 : Value) (o1 : Int64) (o2 : Int64) (o3 : Int32) (o4 : Int64) (h0 : Heap) (n0 : Nat) (v : Option Value) (h : Heap) (L : List Loc) : Prop := v = none ∧ Fr n0 L ∧ Keep h0 h [a0] ∧ Fld Z h a0 "com/example/nodeset/nodeset/MutableLabel" "kind" "Lcom/example/nodeset/nodeset/NodeKind;" (.ref kk) ∧ Fld Z h a0 "com/example/nodeset/nodeset/MutableLabel" "start" "J" (.long x1) ∧ Fld Z h a0 "com/example/nodeset/nodeset/MutableLabel" "end" "J" (.long x2) ∧ Fld Z h a0 "com/example/nodeset/nodeset/MutableLabel" "depth" "I" (.int x3) ∧ Fld Z h a0 "com/example/nodeset/nodeset/MutableLabel" "textPlace" "J" (.long x4)
set_option maxRecDepth 65536 in
set_option maxHeartbeats 40000000 in
theorem own_rm6 (l : Launch) (Z : State) (aA : Array Value) (hw : ∀ d ∈ tables_1, d.before aA Z = true) (ws : List Jvm.Cond) (a0 : Addr) (a1 : Addr) (nm : Addr) (kk : Addr) (x1 : Int64) (x2 : Int64) (x3 : Int32) (x4 : Int64) (o0 : Value) (o1 : Int64) (o2 : Int64) (o3 : Int32) (o4 : Int64) (h0 : Heap) (n0 : Nat) (Z0 : n0 ≤ h0.size) (pre0 : Exa Z h0 a1 "com/example/nodeset/nodeset/StoredNode") (pre1 : Fld Z h0 a1 "com/example/nodeset/nodeset/StoredNode" "name" "Lcom/example/nodeset/nodeset/NodeName;" (.ref nm)) (pre2 : Exa Z h0 nm "com/example/nodeset/nodeset/NodeName") (pre3 : Fld Z h0 nm "com/example/nodeset/nodeset/NodeName" "kind" "Lcom/example/nodeset/nodeset/NodeKind;" (.ref kk)) (pre4 : Fld Z h0 a1 "com/example/nodeset/nodeset/StoredNode" "start" "J" (.long x1)) (pre5 : Fld Z h0 a1 "com/example/nodeset/nodeset/StoredNode" "end" "J" (.long x2)) (pre6 : Fld Z h0 a1 "com/example/nodeset/nodeset/StoredNode" "depth" "I" (.int x3)) (pre7 : Fld Z h0 a1 "com/example/nodeset/nodeset/StoredNode" "textPlace" "J" (.long x4)) (pre8 : Exa Z h0 a0 "com/example/nodeset/nodeset/MutableLabel") (pre9 : n0 ≤ a0) (pre10 : Fld Z h0 a0 "com/example/nodeset/nodeset/MutableLabel" "kind" "Lcom/example/nodeset/nodeset/NodeKind;" o0) (pre11 : Fld Z h0 a0 "com/example/nodeset/nodeset/MutableLabel" "start" "J" (.long o1)) (pre12 : Fld Z h0 a0 "com/example/nodeset/nodeset/MutableLabel" "end" "J" (.long o2)) (pre13 : Fld Z h0 a0 "com/example/nodeset/nodeset/MutableLabel" "depth" "I" (.int o3)) (pre14 : Fld Z h0 a0 "com/example/nodeset/nodeset/MutableLabel" "textPlace" "J" (.long o4)) (pre15 : a1 ≠ a0) (pre16 : nm ≠ a0) (pre17 : kk ≠ a0) :
    MetFree l (⟨"com/example/nodeset/nodeset/MutableLabel", "set", "(Lcom/example/nodeset/nodeset/StoredNode;)V"⟩ : MethodName) (head1 (Jvm.Cond.code (⟨"com/example/nodeset/nodeset/MutableLabel", "set", "(Lcom/example/nodeset/nodeset/StoredNode;)V"⟩ : MethodName) prog_32_method_2_code 2 none :: ws) ({ frames := 2, cells := 0, slots := 0, locals := 25 } : Room)) (fun a U => a = #[(.ref a0), (.ref a1)] ∧ Z.Warmed39 U.vm ∧ U.heap = h0) (fun _ _ _ _ _ => True) (fun _ U o U' => ∃ v L, o = .returned v ∧ own_Q6 Z a0 a1 nm kk x1 x2 x3 x4 o0 o1 o2 o3 o4 h0 n0 v U'.heap L ∧ FrameEnd U o U' L ({ frames := 2, cells := 0, slots := 0, locals := 25 } : Room).cells ({ frames := 2, cells := 0, slots := 0, locals := 25 } : Room).slots) := by
  refine MetFree.of_bodySF (plainFor_of_name own_pn80) hisR ?_
  intro p e s m args below meth c s₁ Bd hml0 hP hK
  obtain ⟨rfl, hZ, hh⟩ := hP
  have hx := Bd.exec
  have hby := Bd.bytes
  have hlk : meth.locks = false := Bd.notSynchronized
  have hml : c.maxLocals = 2 := hml0
  have hown : s.vm.findClass "com/example/nodeset/nodeset/MutableLabel" = some m.cls := findClass_of_methodNamed Bd.named
  have hnm := (name_of_methodNamed Bd.named Bd.method).1
  have X0 : Stand p l e ({ frames := 2, cells := 0, slots := 0, locals := 25 } : Room) s m #[(.ref a0), (.ref a1)] below meth c s₁ [] 0 0 := Stand.of_body Bd
  have e0 : s₁.heap = h0 := by rw [← hh, Bd.state]; rfl
  have N0 := Fr.nil n0
  show OG p e below (FE s ({ frames := 2, cells := 0, slots := 0, locals := 25 } : Room).cells ({ frames := 2, cells := 0, slots := 0, locals := 25 } : Room).slots) (own_Q6 Z a0 a1 nm kk x1 x2 x3 x4 o0 o1 o2 o3 o4 h0 n0) (s₁.setTop (entryFrame m #[(.ref a0), (.ref a1)] 2))
  refine og_of (fun _ k => castTop (own_ef6 m a0 a1) k) ?_
  refine o_aloadN X0 hx rfl (hb hby own_d6_0) rfl rfl ?_
  refine o_aloadN X0 hx rfl (hb hby own_d6_1) rfl rfl ?_
  obtain ⟨cq1, kq1, q1a, q1b, q1c⟩ := isOf hZ e0 pre0
  obtain ⟨_, _, ⟨T1, L1, k1, n1⟩, -, X1, ⟨Lc1, hQ1, l1, y1, z1⟩, st1⟩ := X0.virtualBack hx (y := (⟨"com/example/nodeset/nodeset/StoredNode", "kind", "()Lcom/example/nodeset/nodeset/NodeKind;"⟩ : MethodName)) (z := (⟨"com/example/nodeset/nodeset/StoredNode", "kind", "()Lcom/example/nodeset/nodeset/NodeKind;"⟩ : MethodName)) hown (mvT hZ (hw _ (List.mem_of_getElem? (i := 51) rfl))) (mvT hZ (hw _ (List.mem_of_getElem? (i := 52) rfl))) (notFace_of_selects (args := #[]) (mvT hZ (hw _ (List.mem_of_getElem? (i := 54) rfl)))) (mvT hZ (hw _ (List.mem_of_getElem? (i := 54) rfl))) (mvT hZ (hw _ (List.mem_of_getElem? (i := 53) rfl))) (by decide) (backOf (W := 1) (own_rm7 l Z aA hw [] a1 nm kk h0 n0 Z0 pre1 pre2 pre3) hZ (hw _ (List.mem_of_getElem? (i := 55) rfl)) (hw _ (List.mem_of_getElem? (i := 9) rfl)) (by decide) (by decide)) q1a q1c (g := (mkF m 2 #[.val (.ref a0), .val (.ref a1)] [(.ref a1), (.ref a0)])) rfl (by rw [hml]; rfl) (Steps.refl _) (argsL := []) (rest := [(.ref a0)]) (lenOf own_pd3 rfl) rfl (by show 2 * 0 + _ ≤ _; exact Nat.le_of_eq rfl) (hb hby own_d6_2) (fun _ _ => ⟨rfl, e0, Nat.le_of_ble_eq_true rfl, Nat.le_of_ble_eq_true rfl⟩)
  dsimp only [Pt.U, Pt.locs, Pt.cells, Pt.slots] at X1 l1 y1 z1 st1 hQ1
  subst l1 y1 z1
  obtain ⟨rfl, N1q, ee1⟩ := hQ1
  have N2 := Fr.app N0 N1q
  refine og_tr st1 ?_
  show OG p e below _ _ (T1.setTop (mkF m 5 #[.val (.ref a0), .val (.ref a1)] [(.ref kk), (.ref a0)]))
  obtain ⟨T3, h3, X3, e3, W3, st3⟩ := putF X1 hx hZ hown (host := "") (Or.inl (hw _ (List.mem_of_getElem? (i := 65) rfl))) Via.refl ee1 pre10 pre8 (Or.inl (hw _ (List.mem_of_getElem? (i := 66) rfl))) (hw _ (List.mem_of_getElem? (i := 40) rfl)) (ty := (.object "com/example/nodeset/nodeset/NodeKind")) (by decide) rfl rfl (g := (mkF m 5 #[.val (.ref a0), .val (.ref a1)] [(.ref kk), (.ref a0)])) rfl rfl (hb hby own_d6_5)
  have Fw3 := pre10.same W3
  have N3 := Fr.snoc X3 N2 pre9
  have Kp4 : Keep h0 h3 [a0] := (Keep.refl h0 [a0]).wr W3 (Or.inl (List.mem_of_getElem? (i := 0) rfl))
  refine og_of st3 ?_
  show OG p e below _ _ (T3.setTop (mkF m 8 #[.val (.ref a0), .val (.ref a1)] []))
  refine o_aloadN X3 hx rfl (hb hby own_d6_8) rfl rfl ?_
  refine o_aloadN X3 hx rfl (hb hby own_d6_9) rfl rfl ?_
  have Fc6 : Fld Z h3 a1 "com/example/nodeset/nodeset/StoredNode" "start" "J" (.long x1) := (Fld.other W3 pre4 (Or.inl pre15))
  have Fc7 : Exa Z h3 a1 "com/example/nodeset/nodeset/StoredNode" := (Exa.wr W3 pre0)
  obtain ⟨cq5, kq5, q5a, q5b, q5c⟩ := isOf hZ e3 Fc7
  obtain ⟨_, _, ⟨T5, L5, k5, n5⟩, -, X5, ⟨Lc5, hQ5, l5, y5, z5⟩, st5⟩ := X3.virtualBack hx (y := (⟨"com/example/nodeset/nodeset/StoredNode", "start", "()J"⟩ : MethodName)) (z := (⟨"com/example/nodeset/nodeset/StoredNode", "start", "()J"⟩ : MethodName)) hown (mvT hZ (hw _ (List.mem_of_getElem? (i := 67) rfl))) (mvT hZ (hw _ (List.mem_of_getElem? (i := 68) rfl))) (notFace_of_selects (args := #[]) (mvT hZ (hw _ (List.mem_of_getElem? (i := 70) rfl)))) (mvT hZ (hw _ (List.mem_of_getElem? (i := 70) rfl))) (mvT hZ (hw _ (List.mem_of_getElem? (i := 69) rfl))) (by decide) (backOf (W := 1) (own_rm9 l Z aA hw [] a1 x1 h3 n0 (Nat.le_trans Z0 (Keep.of_wr W3).1) Fc6) hZ (hw _ (List.mem_of_getElem? (i := 71) rfl)) (hw _ (List.mem_of_getElem? (i := 9) rfl)) (by decide) (by decide)) q5a q5c (g := (mkF m 10 #[.val (.ref a0), .val (.ref a1)] [(.ref a1), (.ref a0)])) rfl (by rw [hml]; rfl) (Steps.refl _) (argsL := []) (rest := [(.ref a0)]) (lenOf own_pd4 rfl) rfl (by show 2 * 0 + _ ≤ _; exact Nat.le_of_eq rfl) (hb hby own_d6_10) (fun _ _ => ⟨rfl, e3, Nat.le_of_ble_eq_true rfl, Nat.le_of_ble_eq_true rfl⟩)
  dsimp only [Pt.U, Pt.locs, Pt.cells, Pt.slots] at X5 l5 y5 z5 st5 hQ5
  subst l5 y5 z5
  obtain ⟨rfl, N5q, ee5⟩ := hQ5
  have N8 := Fr.app N3 N5q
  refine og_tr st5 ?_
  show OG p e below _ _ (T5.setTop (mkF m 13 #[.val (.ref a0), .val (.ref a1)] [(.long x1), (.ref a0)]))
  have Fc9 : Exa Z h3 a0 "com/example/nodeset/nodeset/MutableLabel" := (Exa.wr W3 pre8)
  have Fc10 : Fld Z h3 a0 "com/example/nodeset/nodeset/MutableLabel" "start" "J" (.long o1) := (Fld.other W3 pre11 (Or.inr (slot_ne (Or.inl (hw _ (List.mem_of_getElem? (i := 73) rfl))) (Or.inl (hw _ (List.mem_of_getElem? (i := 66) rfl))) (by decide) (t := .long) (t' := (.object "com/example/nodeset/nodeset/NodeKind")) (by decide) (by decide))))
  obtain ⟨T11, h11, X11, e11, W11, st11⟩ := putF X5 hx hZ hown (host := "") (Or.inl (hw _ (List.mem_of_getElem? (i := 72) rfl))) Via.refl ee5 Fc10 Fc9 (Or.inl (hw _ (List.mem_of_getElem? (i := 73) rfl))) (hw _ (List.mem_of_getElem? (i := 40) rfl)) (ty := .long) (by decide) rfl rfl (g := (mkF m 13 #[.val (.ref a0), .val (.ref a1)] [(.long x1), (.ref a0)])) rfl rfl (hb hby own_d6_13)
  have Fw11 := Fc10.same W11
  have N11 := Fr.snoc X11 N8 pre9
  have Kp12 : Keep h0 h11 [a0] := Kp4.wr W11 (Or.inl (List.mem_of_getElem? (i := 0) rfl))
  refine og_of st11 ?_
  show OG p e below _ _ (T11.setTop (mkF m 16 #[.val (.ref a0), .val (.ref a1)] []))
  refine o_aloadN X11 hx rfl (hb hby own_d6_16) rfl rfl ?_
  refine o_aloadN X11 hx rfl (hb hby own_d6_17) rfl rfl ?_
  have Fc14 : Fld Z h11 a1 "com/example/nodeset/nodeset/StoredNode" "end" "J" (.long x2) := (Fld.other W11 (Fld.other W3 pre5 (Or.inl pre15)) (Or.inl pre15))
  have Fc15 : Exa Z h11 a1 "com/example/nodeset/nodeset/StoredNode" := (Exa.wr W11 Fc7)
  obtain ⟨cq13, kq13, q13a, q13b, q13c⟩ := isOf hZ e11 Fc15
  obtain ⟨_, _, ⟨T13, L13, k13, n13⟩, -, X13, ⟨Lc13, hQ13, l13, y13, z13⟩, st13⟩ := X11.virtualBack hx (y := (⟨"com/example/nodeset/nodeset/StoredNode", "end", "()J"⟩ : MethodName)) (z := (⟨"com/example/nodeset/nodeset/StoredNode", "end", "()J"⟩ : MethodName)) hown (mvT hZ (hw _ (List.mem_of_getElem? (i := 74) rfl))) (mvT hZ (hw _ (List.mem_of_getElem? (i := 75) rfl))) (notFace_of_selects (args := #[]) (mvT hZ (hw _ (List.mem_of_getElem? (i := 77) rfl)))) (mvT hZ (hw _ (List.mem_of_getElem? (i := 77) rfl))) (mvT hZ (hw _ (List.mem_of_getElem? (i := 76) rfl))) (by decide) (backOf (W := 1) (own_rm10 l Z aA hw [] a1 x2 h11 n0 (Nat.le_trans (Nat.le_trans Z0 (Keep.of_wr W3).1) (Keep.of_wr W11).1) Fc14) hZ (hw _ (List.mem_of_getElem? (i := 78) rfl)) (hw _ (List.mem_of_getElem? (i := 9) rfl)) (by decide) (by decide)) q13a q13c (g := (mkF m 18 #[.val (.ref a0), .val (.ref a1)] [(.ref a1), (.ref a0)])) rfl (by rw [hml]; rfl) (Steps.refl _) (argsL := []) (rest := [(.ref a0)]) (lenOf own_pd4 rfl) rfl (by show 2 * 0 + _ ≤ _; exact Nat.le_of_eq rfl) (hb hby own_d6_18) (fun _ _ => ⟨rfl, e11, Nat.le_of_ble_eq_true rfl, Nat.le_of_ble_eq_true rfl⟩)
  dsimp only [Pt.U, Pt.locs, Pt.cells, Pt.slots] at X13 l13 y13 z13 st13 hQ13
  subst l13 y13 z13
  obtain ⟨rfl, N13q, ee13⟩ := hQ13
  have N16 := Fr.app N11 N13q
  refine og_tr st13 ?_
  show OG p e below _ _ (T13.setTop (mkF m 21 #[.val (.ref a0), .val (.ref a1)] [(.long x2), (.ref a0)]))
  have Fc17 : Exa Z h11 a0 "com/example/nodeset/nodeset/MutableLabel" := (Exa.wr W11 Fc9)
  have Fc18 : Fld Z h11 a0 "com/example/nodeset/nodeset/MutableLabel" "end" "J" (.long o2) := (Fld.other W11 (Fld.other W3 pre12 (Or.inr (slot_ne (Or.inl (hw _ (List.mem_of_getElem? (i := 80) rfl))) (Or.inl (hw _ (List.mem_of_getElem? (i := 66) rfl))) (by decide) (t := .long) (t' := (.object "com/example/nodeset/nodeset/NodeKind")) (by decide) (by decide)))) (Or.inr (slot_ne (Or.inl (hw _ (List.mem_of_getElem? (i := 80) rfl))) (Or.inl (hw _ (List.mem_of_getElem? (i := 73) rfl))) (by decide) (t := .long) (t' := .long) (by decide) (by decide))))
  obtain ⟨T19, h19, X19, e19, W19, st19⟩ := putF X13 hx hZ hown (host := "") (Or.inl (hw _ (List.mem_of_getElem? (i := 79) rfl))) Via.refl ee13 Fc18 Fc17 (Or.inl (hw _ (List.mem_of_getElem? (i := 80) rfl))) (hw _ (List.mem_of_getElem? (i := 40) rfl)) (ty := .long) (by decide) rfl rfl (g := (mkF m 21 #[.val (.ref a0), .val (.ref a1)] [(.long x2), (.ref a0)])) rfl rfl (hb hby own_d6_21)
  have Fw19 := Fc18.same W19
  have N19 := Fr.snoc X19 N16 pre9
  have Kp20 : Keep h0 h19 [a0] := Kp12.wr W19 (Or.inl (List.mem_of_getElem? (i := 0) rfl))
  refine og_of st19 ?_
  show OG p e below _ _ (T19.setTop (mkF m 24 #[.val (.ref a0), .val (.ref a1)] []))
  refine o_aloadN X19 hx rfl (hb hby own_d6_24) rfl rfl ?_
  refine o_aloadN X19 hx rfl (hb hby own_d6_25) rfl rfl ?_
  have Fc22 : Fld Z h19 a1 "com/example/nodeset/nodeset/StoredNode" "depth" "I" (.int x3) := (Fld.other W19 (Fld.other W11 (Fld.other W3 pre6 (Or.inl pre15)) (Or.inl pre15)) (Or.inl pre15))
  have Fc23 : Exa Z h19 a1 "com/example/nodeset/nodeset/StoredNode" := (Exa.wr W19 Fc15)
  obtain ⟨cq21, kq21, q21a, q21b, q21c⟩ := isOf hZ e19 Fc23
  obtain ⟨_, _, ⟨T21, L21, k21, n21⟩, -, X21, ⟨Lc21, hQ21, l21, y21, z21⟩, st21⟩ := X19.virtualBack hx (y := (⟨"com/example/nodeset/nodeset/StoredNode", "depth", "()I"⟩ : MethodName)) (z := (⟨"com/example/nodeset/nodeset/StoredNode", "depth", "()I"⟩ : MethodName)) hown (mvT hZ (hw _ (List.mem_of_getElem? (i := 81) rfl))) (mvT hZ (hw _ (List.mem_of_getElem? (i := 82) rfl))) (notFace_of_selects (args := #[]) (mvT hZ (hw _ (List.mem_of_getElem? (i := 84) rfl)))) (mvT hZ (hw _ (List.mem_of_getElem? (i := 84) rfl))) (mvT hZ (hw _ (List.mem_of_getElem? (i := 83) rfl))) (by decide) (backOf (W := 1) (own_rm11 l Z aA hw [] a1 x3 h19 n0 (Nat.le_trans (Nat.le_trans (Nat.le_trans Z0 (Keep.of_wr W3).1) (Keep.of_wr W11).1) (Keep.of_wr W19).1) Fc22) hZ (hw _ (List.mem_of_getElem? (i := 85) rfl)) (hw _ (List.mem_of_getElem? (i := 9) rfl)) (by decide) (by decide)) q21a q21c (g := (mkF m 26 #[.val (.ref a0), .val (.ref a1)] [(.ref a1), (.ref a0)])) rfl (by rw [hml]; rfl) (Steps.refl _) (argsL := []) (rest := [(.ref a0)]) (lenOf own_pd5 rfl) rfl (by show 2 * 0 + _ ≤ _; exact Nat.le_of_eq rfl) (hb hby own_d6_26) (fun _ _ => ⟨rfl, e19, Nat.le_of_ble_eq_true rfl, Nat.le_of_ble_eq_true rfl⟩)
  dsimp only [Pt.U, Pt.locs, Pt.cells, Pt.slots] at X21 l21 y21 z21 st21 hQ21
  subst l21 y21 z21
  obtain ⟨rfl, N21q, ee21⟩ := hQ21
  have N24 := Fr.app N19 N21q
  refine og_tr st21 ?_
  show OG p e below _ _ (T21.setTop (mkF m 29 #[.val (.ref a0), .val (.ref a1)] [(.int x3), (.ref a0)]))
  have Fc25 : Exa Z h19 a0 "com/example/nodeset/nodeset/MutableLabel" := (Exa.wr W19 Fc17)
  have Fc26 : Fld Z h19 a0 "com/example/nodeset/nodeset/MutableLabel" "depth" "I" (.int o3) := (Fld.other W19 (Fld.other W11 (Fld.other W3 pre13 (Or.inr (slot_ne (Or.inl (hw _ (List.mem_of_getElem? (i := 87) rfl))) (Or.inl (hw _ (List.mem_of_getElem? (i := 66) rfl))) (by decide) (t := .int) (t' := (.object "com/example/nodeset/nodeset/NodeKind")) (by decide) (by decide)))) (Or.inr (slot_ne (Or.inl (hw _ (List.mem_of_getElem? (i := 87) rfl))) (Or.inl (hw _ (List.mem_of_getElem? (i := 73) rfl))) (by decide) (t := .int) (t' := .long) (by decide) (by decide)))) (Or.inr (slot_ne (Or.inl (hw _ (List.mem_of_getElem? (i := 87) rfl))) (Or.inl (hw _ (List.mem_of_getElem? (i := 80) rfl))) (by decide) (t := .int) (t' := .long) (by decide) (by decide))))
  obtain ⟨T27, h27, X27, e27, W27, st27⟩ := putF X21 hx hZ hown (host := "") (Or.inl (hw _ (List.mem_of_getElem? (i := 86) rfl))) Via.refl ee21 Fc26 Fc25 (Or.inl (hw _ (List.mem_of_getElem? (i := 87) rfl))) (hw _ (List.mem_of_getElem? (i := 40) rfl)) (ty := .int) (by decide) rfl rfl (g := (mkF m 29 #[.val (.ref a0), .val (.ref a1)] [(.int x3), (.ref a0)])) rfl rfl (hb hby own_d6_29)
  have Fw27 := Fc26.same W27
  have N27 := Fr.snoc X27 N24 pre9
  have Kp28 : Keep h0 h27 [a0] := Kp20.wr W27 (Or.inl (List.mem_of_getElem? (i := 0) rfl))
  refine og_of st27 ?_
  show OG p e below _ _ (T27.setTop (mkF m 32 #[.val (.ref a0), .val (.ref a1)] []))
  refine o_aloadN X27 hx rfl (hb hby own_d6_32) rfl rfl ?_
  refine o_aloadN X27 hx rfl (hb hby own_d6_33) rfl rfl ?_
  have Fc30 : Fld Z h27 a1 "com/example/nodeset/nodeset/StoredNode" "textPlace" "J" (.long x4) := (Fld.other W27 (Fld.other W19 (Fld.other W11 (Fld.other W3 pre7 (Or.inl pre15)) (Or.inl pre15)) (Or.inl pre15)) (Or.inl pre15))
  have Fc31 : Exa Z h27 a1 "com/example/nodeset/nodeset/StoredNode" := (Exa.wr W27 Fc23)
  obtain ⟨cq29, kq29, q29a, q29b, q29c⟩ := isOf hZ e27 Fc31
  obtain ⟨_, _, ⟨T29, L29, k29, n29⟩, -, X29, ⟨Lc29, hQ29, l29, y29, z29⟩, st29⟩ := X27.virtualBack hx (y := (⟨"com/example/nodeset/nodeset/StoredNode", "textPlace", "()J"⟩ : MethodName)) (z := (⟨"com/example/nodeset/nodeset/StoredNode", "textPlace", "()J"⟩ : MethodName)) hown (mvT hZ (hw _ (List.mem_of_getElem? (i := 88) rfl))) (mvT hZ (hw _ (List.mem_of_getElem? (i := 89) rfl))) (notFace_of_selects (args := #[]) (mvT hZ (hw _ (List.mem_of_getElem? (i := 91) rfl)))) (mvT hZ (hw _ (List.mem_of_getElem? (i := 91) rfl))) (mvT hZ (hw _ (List.mem_of_getElem? (i := 90) rfl))) (by decide) (backOf (W := 1) (own_rm12 l Z aA hw [] a1 x4 h27 n0 (Nat.le_trans (Nat.le_trans (Nat.le_trans (Nat.le_trans Z0 (Keep.of_wr W3).1) (Keep.of_wr W11).1) (Keep.of_wr W19).1) (Keep.of_wr W27).1) Fc30) hZ (hw _ (List.mem_of_getElem? (i := 92) rfl)) (hw _ (List.mem_of_getElem? (i := 9) rfl)) (by decide) (by decide)) q29a q29c (g := (mkF m 34 #[.val (.ref a0), .val (.ref a1)] [(.ref a1), (.ref a0)])) rfl (by rw [hml]; rfl) (Steps.refl _) (argsL := []) (rest := [(.ref a0)]) (lenOf own_pd4 rfl) rfl (by show 2 * 0 + _ ≤ _; exact Nat.le_of_eq rfl) (hb hby own_d6_34) (fun _ _ => ⟨rfl, e27, Nat.le_of_ble_eq_true rfl, Nat.le_of_ble_eq_true rfl⟩)
  dsimp only [Pt.U, Pt.locs, Pt.cells, Pt.slots] at X29 l29 y29 z29 st29 hQ29
  subst l29 y29 z29
  obtain ⟨rfl, N29q, ee29⟩ := hQ29
  have N32 := Fr.app N27 N29q
  refine og_tr st29 ?_
  show OG p e below _ _ (T29.setTop (mkF m 37 #[.val (.ref a0), .val (.ref a1)] [(.long x4), (.ref a0)]))
  have Fc33 : Exa Z h27 a0 "com/example/nodeset/nodeset/MutableLabel" := (Exa.wr W27 Fc25)
  have Fc34 : Fld Z h27 a0 "com/example/nodeset/nodeset/MutableLabel" "textPlace" "J" (.long o4) := (Fld.other W27 (Fld.other W19 (Fld.other W11 (Fld.other W3 pre14 (Or.inr (slot_ne (Or.inl (hw _ (List.mem_of_getElem? (i := 94) rfl))) (Or.inl (hw _ (List.mem_of_getElem? (i := 66) rfl))) (by decide) (t := .long) (t' := (.object "com/example/nodeset/nodeset/NodeKind")) (by decide) (by decide)))) (Or.inr (slot_ne (Or.inl (hw _ (List.mem_of_getElem? (i := 94) rfl))) (Or.inl (hw _ (List.mem_of_getElem? (i := 73) rfl))) (by decide) (t := .long) (t' := .long) (by decide) (by decide)))) (Or.inr (slot_ne (Or.inl (hw _ (List.mem_of_getElem? (i := 94) rfl))) (Or.inl (hw _ (List.mem_of_getElem? (i := 80) rfl))) (by decide) (t := .long) (t' := .long) (by decide) (by decide)))) (Or.inr (slot_ne (Or.inl (hw _ (List.mem_of_getElem? (i := 94) rfl))) (Or.inl (hw _ (List.mem_of_getElem? (i := 87) rfl))) (by decide) (t := .long) (t' := .int) (by decide) (by decide))))
  obtain ⟨T35, h35, X35, e35, W35, st35⟩ := putF X29 hx hZ hown (host := "") (Or.inl (hw _ (List.mem_of_getElem? (i := 93) rfl))) Via.refl ee29 Fc34 Fc33 (Or.inl (hw _ (List.mem_of_getElem? (i := 94) rfl))) (hw _ (List.mem_of_getElem? (i := 40) rfl)) (ty := .long) (by decide) rfl rfl (g := (mkF m 37 #[.val (.ref a0), .val (.ref a1)] [(.long x4), (.ref a0)])) rfl rfl (hb hby own_d6_37)
  have Fw35 := Fc34.same W35
  have N35 := Fr.snoc X35 N32 pre9
  have Kp36 : Keep h0 h35 [a0] := Kp28.wr W35 (Or.inl (List.mem_of_getElem? (i := 0) rfl))
  refine og_of st35 ?_
  show OG p e below _ _ (T35.setTop (mkF m 40 #[.val (.ref a0), .val (.ref a1)] []))
  have Fc37 : Fld Z h35 a0 "com/example/nodeset/nodeset/MutableLabel" "kind" "Lcom/example/nodeset/nodeset/NodeKind;" (.ref kk) := (Fld.other W35 (Fld.other W27 (Fld.other W19 (Fld.other W11 Fw3 (Or.inr (slot_ne (Or.inl (hw _ (List.mem_of_getElem? (i := 66) rfl))) (Or.inl (hw _ (List.mem_of_getElem? (i := 73) rfl))) (by decide) (t := (.object "com/example/nodeset/nodeset/NodeKind")) (t' := .long) (by decide) (by decide)))) (Or.inr (slot_ne (Or.inl (hw _ (List.mem_of_getElem? (i := 66) rfl))) (Or.inl (hw _ (List.mem_of_getElem? (i := 80) rfl))) (by decide) (t := (.object "com/example/nodeset/nodeset/NodeKind")) (t' := .long) (by decide) (by decide)))) (Or.inr (slot_ne (Or.inl (hw _ (List.mem_of_getElem? (i := 66) rfl))) (Or.inl (hw _ (List.mem_of_getElem? (i := 87) rfl))) (by decide) (t := (.object "com/example/nodeset/nodeset/NodeKind")) (t' := .int) (by decide) (by decide)))) (Or.inr (slot_ne (Or.inl (hw _ (List.mem_of_getElem? (i := 66) rfl))) (Or.inl (hw _ (List.mem_of_getElem? (i := 94) rfl))) (by decide) (t := (.object "com/example/nodeset/nodeset/NodeKind")) (t' := .long) (by decide) (by decide))))
  have Fc38 : Fld Z h35 a0 "com/example/nodeset/nodeset/MutableLabel" "start" "J" (.long x1) := (Fld.other W35 (Fld.other W27 (Fld.other W19 Fw11 (Or.inr (slot_ne (Or.inl (hw _ (List.mem_of_getElem? (i := 73) rfl))) (Or.inl (hw _ (List.mem_of_getElem? (i := 80) rfl))) (by decide) (t := .long) (t' := .long) (by decide) (by decide)))) (Or.inr (slot_ne (Or.inl (hw _ (List.mem_of_getElem? (i := 73) rfl))) (Or.inl (hw _ (List.mem_of_getElem? (i := 87) rfl))) (by decide) (t := .long) (t' := .int) (by decide) (by decide)))) (Or.inr (slot_ne (Or.inl (hw _ (List.mem_of_getElem? (i := 73) rfl))) (Or.inl (hw _ (List.mem_of_getElem? (i := 94) rfl))) (by decide) (t := .long) (t' := .long) (by decide) (by decide))))
  have Fc39 : Fld Z h35 a0 "com/example/nodeset/nodeset/MutableLabel" "end" "J" (.long x2) := (Fld.other W35 (Fld.other W27 Fw19 (Or.inr (slot_ne (Or.inl (hw _ (List.mem_of_getElem? (i := 80) rfl))) (Or.inl (hw _ (List.mem_of_getElem? (i := 87) rfl))) (by decide) (t := .long) (t' := .int) (by decide) (by decide)))) (Or.inr (slot_ne (Or.inl (hw _ (List.mem_of_getElem? (i := 80) rfl))) (Or.inl (hw _ (List.mem_of_getElem? (i := 94) rfl))) (by decide) (t := .long) (t' := .long) (by decide) (by decide))))
  have Fc40 : Fld Z h35 a0 "com/example/nodeset/nodeset/MutableLabel" "depth" "I" (.int x3) := (Fld.other W35 Fw27 (Or.inr (slot_ne (Or.inl (hw _ (List.mem_of_getElem? (i := 87) rfl))) (Or.inl (hw _ (List.mem_of_getElem? (i := 94) rfl))) (by decide) (t := .int) (t' := .long) (by decide) (by decide))))
  exact o_ret0 X35 hx Bd.returns (own_lv X35 hlk (by decide) (by decide)) (hb hby own_d6_40) ⟨rfl, N35, (by rw [e35]; exact Kp36), (by rw [e35]; exact Fc37), (by rw [e35]; exact Fc38), (by rw [e35]; exact Fc39), (by rw [e35]; exact Fc40), (by rw [e35]; exact Fw35)⟩
theorem own_d16_0 : decode prog_39_method_4_code 0 = .ok (.aload_n 0, 1) := by decide +kernel
theorem own_d16_1 : decode prog_39_method_4_code 1 = .ok (.getfield 41, 3) := by decide +kernel
theorem own_d16_4 : decode prog_39_method_4_code 4 = .ok (.ireturn, 1) := by decide +kernel
theorem own_ef16 (m : MethodId) (a0 : Addr) : entryFrame m #[(.ref a0)] 1 = mkF m 0 #[.val (.ref a0)] [] := by first | (simp [entryFrame, mkF, argsToLocals, Value.category]; done) | rfl
def own_Q16 (Z : State) (a0 : Addr) (w0 : Int32) (h0 : Heap) (n0 : Nat) (v : Option Value) (h : Heap) (L : List Loc) : Prop := v = some (.int w0) ∧ Fr n0 L ∧ h = h0
theorem own_pn124 : plainName "com/example/nodeset/nodeset/NodeKind" = true := by first | (simp [plainName, overriddenIn]; done) | decide +kernel
set_option maxRecDepth 65536 in
set_option maxHeartbeats 40000000 in
theorem own_rm16 (l : Launch) (Z : State) (aA : Array Value) (hw : ∀ d ∈ tables_1, d.before aA Z = true) (ws : List Jvm.Cond) (a0 : Addr) (w0 : Int32) (h0 : Heap) (n0 : Nat) (Z0 : n0 ≤ h0.size) (pre0 : Fld Z h0 a0 "com/example/nodeset/nodeset/NodeKind" "numbered" "Z" (.int w0)) (hb0 : w0 = 0 ∨ w0 = 1) :
    MetFree l (⟨"com/example/nodeset/nodeset/NodeKind", "numbered", "()Z"⟩ : MethodName) (head1 (Jvm.Cond.code (⟨"com/example/nodeset/nodeset/NodeKind", "numbered", "()Z"⟩ : MethodName) prog_39_method_4_code 1 (some .boolean) :: ws) ({ frames := 0, cells := 0, slots := 0, locals := 0 } : Room)) (fun a U => a = #[(.ref a0)] ∧ Z.Warmed39 U.vm ∧ U.heap = h0) (fun _ _ _ _ _ => True) (fun _ U o U' => ∃ v L, o = .returned v ∧ own_Q16 Z a0 w0 h0 n0 v U'.heap L ∧ FrameEnd U o U' L ({ frames := 0, cells := 0, slots := 0, locals := 0 } : Room).cells ({ frames := 0, cells := 0, slots := 0, locals := 0 } : Room).slots) := by
  refine MetFree.of_bodySF (plainFor_of_name own_pn124) hisR ?_
  intro p e s m args below meth c s₁ Bd hml0 hP hK
  obtain ⟨rfl, hZ, hh⟩ := hP
  have hx := Bd.exec
  have hby := Bd.bytes
  have hlk : meth.locks = false := Bd.notSynchronized
  have hml : c.maxLocals = 1 := hml0
  have hown : s.vm.findClass "com/example/nodeset/nodeset/NodeKind" = some m.cls := findClass_of_methodNamed Bd.named
  have hnm := (name_of_methodNamed Bd.named Bd.method).1
  have X0 : Stand p l e ({ frames := 0, cells := 0, slots := 0, locals := 0 } : Room) s m #[(.ref a0)] below meth c s₁ [] 0 0 := Stand.of_body Bd
  have e0 : s₁.heap = h0 := by rw [← hh, Bd.state]; rfl
  have N0 := Fr.nil n0
  show OG p e below (FE s ({ frames := 0, cells := 0, slots := 0, locals := 0 } : Room).cells ({ frames := 0, cells := 0, slots := 0, locals := 0 } : Room).slots) (own_Q16 Z a0 w0 h0 n0) (s₁.setTop (entryFrame m #[(.ref a0)] 1))
  refine og_of (fun _ k => castTop (own_ef16 m a0) k) ?_
  refine o_aloadN X0 hx rfl (hb hby own_d16_0) rfl rfl ?_
  obtain ⟨T1, X1, e1, st1⟩ := getF X0 hx hZ hown (host := "") (Or.inl (hw _ (List.mem_of_getElem? (i := 118) rfl))) Via.refl e0 pre0 (g := (mkF m 1 #[.val (.ref a0)] [(.ref a0)])) rfl rfl (hb hby own_d16_1)
  refine og_of st1 ?_
  show OG p e below _ _ (T1.setTop (mkF m 4 #[.val (.ref a0)] [(.int w0)]))
  exact o_retB X1 hx Bd.returns (own_lv X1 hlk (by decide) (by decide)) (hb hby own_d16_4) hb0 ⟨rfl, N0, e1⟩
theorem own_pd6 : parseMethodDescriptor "()Z" = some ⟨[], some .boolean⟩ := by decide +kernel
theorem own_d15_0 : decode prog_76_method_9_code 0 = .ok (.aload_n 0, 1) := by decide +kernel
theorem own_d15_1 : decode prog_76_method_9_code 1 = .ok (.invokevirtual 56, 3) := by decide +kernel
theorem own_d15_4 : decode prog_76_method_9_code 4 = .ok (.ifCond .eq 11, 3) := by decide +kernel
theorem own_d15_7 : decode prog_76_method_9_code 7 = .ok (.ldc2_w 89, 3) := by decide +kernel
theorem own_d15_10 : decode prog_76_method_9_code 10 = .ok (.lload_n 1, 1) := by decide +kernel
theorem own_d15_11 : decode prog_76_method_9_code 11 = .ok (.lmul, 1) := by decide +kernel
theorem own_d15_12 : decode prog_76_method_9_code 12 = .ok (.goto 10, 3) := by decide +kernel
theorem own_d15_15 : decode prog_76_method_9_code 15 = .ok (.ldc2_w 89, 3) := by decide +kernel
theorem own_d15_18 : decode prog_76_method_9_code 18 = .ok (.lload_n 3, 1) := by decide +kernel
theorem own_d15_19 : decode prog_76_method_9_code 19 = .ok (.lmul, 1) := by decide +kernel
theorem own_d15_20 : decode prog_76_method_9_code 20 = .ok (.lconst 1, 1) := by decide +kernel
theorem own_d15_21 : decode prog_76_method_9_code 21 = .ok (.ladd, 1) := by decide +kernel
theorem own_d15_22 : decode prog_76_method_9_code 22 = .ok (.lreturn, 1) := by decide +kernel
def own_f15 (a0 : Addr) (q1 : Int64) (q2 : Int64) (w0 : Int32) : Int64 := (if w0 = (0 : Int32) then (((2 : Int64) * q2) + (1 : Int64)) else ((2 : Int64) * q1))
theorem own_ef15 (m : MethodId) (a0 : Addr) (q1 : Int64) (q2 : Int64) : entryFrame m #[(.ref a0), (.long q1), (.long q2)] 5 = mkF m 0 #[.val (.ref a0), .val (.long q1), .second, .val (.long q2), .second] [] := by first | (simp [entryFrame, mkF, argsToLocals, Value.category]; done) | rfl
def own_Q15 (Z : State) (a0 : Addr) (q1 : Int64) (q2 : Int64) (w0 : Int32) (h0 : Heap) (n0 : Nat) (v : Option Value) (h : Heap) (L : List Loc) : Prop := v = some (.long (own_f15 a0 q1 q2 w0)) ∧ Fr n0 L ∧ h = h0
set_option maxRecDepth 65536 in
set_option maxHeartbeats 40000000 in
theorem own_rm15 (l : Launch) (Z : State) (aA : Array Value) (hw : ∀ d ∈ tables_1, d.before aA Z = true) (ws : List Jvm.Cond) (a0 : Addr) (q1 : Int64) (q2 : Int64) (w0 : Int32) (h0 : Heap) (n0 : Nat) (Z0 : n0 ≤ h0.size) (pre0 : Exa Z h0 a0 "com/example/nodeset/nodeset/NodeKind") (pre1 : Fld Z h0 a0 "com/example/nodeset/nodeset/NodeKind" "numbered" "Z" (.int w0)) (hb0 : w0 = 0 ∨ w0 = 1) :
    MetFree l (⟨"com/example/nodeset/nodeset/StoredNode", "position", "(Lcom/example/nodeset/nodeset/NodeKind;JJ)J"⟩ : MethodName) (head1 (Jvm.Cond.code (⟨"com/example/nodeset/nodeset/StoredNode", "position", "(Lcom/example/nodeset/nodeset/NodeKind;JJ)J"⟩ : MethodName) prog_76_method_9_code 5 (some .long) :: ws) ({ frames := 1, cells := 0, slots := 0, locals := 12 } : Room)) (fun a U => a = #[(.ref a0), (.long q1), (.long q2)] ∧ Z.Warmed39 U.vm ∧ U.heap = h0) (fun _ _ _ _ _ => True) (fun _ U o U' => ∃ v L, o = .returned v ∧ own_Q15 Z a0 q1 q2 w0 h0 n0 v U'.heap L ∧ FrameEnd U o U' L ({ frames := 1, cells := 0, slots := 0, locals := 12 } : Room).cells ({ frames := 1, cells := 0, slots := 0, locals := 12 } : Room).slots) := by
  refine MetFree.of_bodySF (plainFor_of_name own_pn76) hisR ?_
  intro p e s m args below meth c s₁ Bd hml0 hP hK
  obtain ⟨rfl, hZ, hh⟩ := hP
  have hx := Bd.exec
  have hby := Bd.bytes
  have hlk : meth.locks = false := Bd.notSynchronized
  have hml : c.maxLocals = 5 := hml0
  have hown : s.vm.findClass "com/example/nodeset/nodeset/StoredNode" = some m.cls := findClass_of_methodNamed Bd.named
  have hnm := (name_of_methodNamed Bd.named Bd.method).1
  have X0 : Stand p l e ({ frames := 1, cells := 0, slots := 0, locals := 12 } : Room) s m #[(.ref a0), (.long q1), (.long q2)] below meth c s₁ [] 0 0 := Stand.of_body Bd
  have e0 : s₁.heap = h0 := by rw [← hh, Bd.state]; rfl
  have N0 := Fr.nil n0
  show OG p e below (FE s ({ frames := 1, cells := 0, slots := 0, locals := 12 } : Room).cells ({ frames := 1, cells := 0, slots := 0, locals := 12 } : Room).slots) (own_Q15 Z a0 q1 q2 w0 h0 n0) (s₁.setTop (entryFrame m #[(.ref a0), (.long q1), (.long q2)] 5))
  refine og_of (fun _ k => castTop (own_ef15 m a0 q1 q2) k) ?_
  refine o_aloadN X0 hx rfl (hb hby own_d15_0) rfl rfl ?_
  have hw_2 : w0 = 0 ∨ w0 = 1 := hb0
  obtain ⟨cq1, kq1, q1a, q1b, q1c⟩ := isOf hZ e0 pre0
  obtain ⟨_, _, ⟨T1, L1, k1, n1⟩, -, X1, ⟨Lc1, hQ1, l1, y1, z1⟩, st1⟩ := X0.virtualBack hx (y := (⟨"com/example/nodeset/nodeset/NodeKind", "numbered", "()Z"⟩ : MethodName)) (z := (⟨"com/example/nodeset/nodeset/NodeKind", "numbered", "()Z"⟩ : MethodName)) hown (mvT hZ (hw _ (List.mem_of_getElem? (i := 113) rfl))) (mvT hZ (hw _ (List.mem_of_getElem? (i := 114) rfl))) (notFace_of_selects (args := #[]) (mvT hZ (hw _ (List.mem_of_getElem? (i := 116) rfl)))) (mvT hZ (hw _ (List.mem_of_getElem? (i := 116) rfl))) (mvT hZ (hw _ (List.mem_of_getElem? (i := 115) rfl))) (by decide) (backOf (W := 0) (own_rm16 l Z aA hw [] a0 w0 h0 n0 Z0 pre1 hw_2) hZ (hw _ (List.mem_of_getElem? (i := 117) rfl)) (hw _ (List.mem_of_getElem? (i := 63) rfl)) (by decide) (by decide)) q1a q1c (g := (mkF m 1 #[.val (.ref a0), .val (.long q1), .second, .val (.long q2), .second] [(.ref a0)])) rfl (by rw [hml]; rfl) (Steps.refl _) (argsL := []) (rest := []) (lenOf own_pd6 rfl) rfl (by show 2 * 0 + _ ≤ _; exact Nat.le_of_eq rfl) (hb hby own_d15_1) (fun _ _ => ⟨rfl, e0, Nat.le_of_ble_eq_true rfl, Nat.le_of_ble_eq_true rfl⟩)
  dsimp only [Pt.U, Pt.locs, Pt.cells, Pt.slots] at X1 l1 y1 z1 st1 hQ1
  subst l1 y1 z1
  obtain ⟨rfl, N1q, ee1⟩ := hQ1
  have N3 := Fr.app N0 N1q
  refine og_tr st1 ?_
  show OG p e below _ _ (T1.setTop (mkF m 4 #[.val (.ref a0), .val (.long q1), .second, .val (.long q2), .second] [(.int w0)]))
  by_cases hc4 : w0 = (0 : Int32)
  · skip
    refine o_ifY (pc' := 15) X1 hx (hb hby own_d15_4) ((if0 _ _).trans (teq hc4).1) (by decide) (by decide) ?_
    refine o_ldc2L X1 hx rfl (hb hby own_d15_15) hZ hown (hw _ (List.mem_of_getElem? (i := 120) rfl)) ?_
    refine o_lloadN X1 hx rfl (hb hby own_d15_18) rfl ?_
    obtain ⟨z5, hz5⟩ : ∃ z : Int64, (2 : Int64) * q2 = z := ⟨_, rfl⟩
    refine o_lmul (z := z5) X1 hx rfl (hb hby own_d15_19) hz5 ?_
    refine o_lconst (z := (1 : Int64)) X1 hx rfl (hb hby own_d15_20) (by decide) ?_
    obtain ⟨z6, hz6⟩ : ∃ z : Int64, z5 + (1 : Int64) = z := ⟨_, rfl⟩
    refine o_ladd (z := z6) X1 hx rfl (hb hby own_d15_21) hz6 ?_
    subst hz5 hz6
    exact o_retL X1 hx Bd.returns (own_lv X1 hlk (by decide) (by decide)) (hb hby own_d15_22) ⟨(by rw [own_f15, if_pos hc4]), N3, ee1⟩
  · skip
    refine o_ifN (pc' := 7) X1 hx rfl (hb hby own_d15_4) ((if0 _ _).trans (feq hc4).1) ?_
    refine o_ldc2L X1 hx rfl (hb hby own_d15_7) hZ hown (hw _ (List.mem_of_getElem? (i := 120) rfl)) ?_
    refine o_lloadN X1 hx rfl (hb hby own_d15_10) rfl ?_
    obtain ⟨z7, hz7⟩ : ∃ z : Int64, (2 : Int64) * q1 = z := ⟨_, rfl⟩
    refine o_lmul (z := z7) X1 hx rfl (hb hby own_d15_11) hz7 ?_
    refine o_goto (pc' := 22) X1 hx (hb hby own_d15_12) (by decide) (by decide) ?_
    subst hz7
    exact o_retL X1 hx Bd.returns (own_lv X1 hlk (by decide) (by decide)) (hb hby own_d15_22) ⟨(by rw [own_f15, if_neg hc4]), N3, ee1⟩
theorem own_pd7 : parseMethodDescriptor "(Lcom/example/nodeset/nodeset/NodeKind;JJ)J" = some ⟨[(.object "com/example/nodeset/nodeset/NodeKind"), .long, .long], some .long⟩ := by decide +kernel
theorem own_d14_0 : decode prog_32_method_4_code 0 = .ok (.aload_n 0, 1) := by decide +kernel
theorem own_d14_1 : decode prog_32_method_4_code 1 = .ok (.getfield 13, 3) := by decide +kernel
theorem own_d14_4 : decode prog_32_method_4_code 4 = .ok (.aload_n 0, 1) := by decide +kernel
theorem own_d14_5 : decode prog_32_method_4_code 5 = .ok (.getfield 22, 3) := by decide +kernel
theorem own_d14_8 : decode prog_32_method_4_code 8 = .ok (.aload_n 0, 1) := by decide +kernel
theorem own_d14_9 : decode prog_32_method_4_code 9 = .ok (.getfield 28, 3) := by decide +kernel
theorem own_d14_12 : decode prog_32_method_4_code 12 = .ok (.invokestatic 42, 3) := by decide +kernel
theorem own_d14_15 : decode prog_32_method_4_code 15 = .ok (.lreturn, 1) := by decide +kernel
def own_f14 (a0 : Addr) (kk : Addr) (x1 : Int64) (x2 : Int64) (w0 : Int32) : Int64 := (own_f15 kk x1 x2 w0)
theorem own_ef14 (m : MethodId) (a0 : Addr) : entryFrame m #[(.ref a0)] 1 = mkF m 0 #[.val (.ref a0)] [] := by first | (simp [entryFrame, mkF, argsToLocals, Value.category]; done) | rfl
def own_Q14 (Z : State) (a0 : Addr) (kk : Addr) (x1 : Int64) (x2 : Int64) (w0 : Int32) (h0 : Heap) (n0 : Nat) (v : Option Value) (h : Heap) (L : List Loc) : Prop := v = some (.long (own_f14 a0 kk x1 x2 w0)) ∧ Fr n0 L ∧ h = h0
set_option maxRecDepth 65536 in
set_option maxHeartbeats 40000000 in
theorem own_rm14 (l : Launch) (Z : State) (aA : Array Value) (hw : ∀ d ∈ tables_1, d.before aA Z = true) (ws : List Jvm.Cond) (a0 : Addr) (kk : Addr) (x1 : Int64) (x2 : Int64) (w0 : Int32) (h0 : Heap) (n0 : Nat) (Z0 : n0 ≤ h0.size) (pre0 : Fld Z h0 a0 "com/example/nodeset/nodeset/MutableLabel" "kind" "Lcom/example/nodeset/nodeset/NodeKind;" (.ref kk)) (pre1 : Fld Z h0 a0 "com/example/nodeset/nodeset/MutableLabel" "start" "J" (.long x1)) (pre2 : Fld Z h0 a0 "com/example/nodeset/nodeset/MutableLabel" "end" "J" (.long x2)) (pre3 : Exa Z h0 kk "com/example/nodeset/nodeset/NodeKind") (pre4 : Fld Z h0 kk "com/example/nodeset/nodeset/NodeKind" "numbered" "Z" (.int w0)) (hb0 : w0 = 0 ∨ w0 = 1) :
    MetFree l (⟨"com/example/nodeset/nodeset/MutableLabel", "place", "()J"⟩ : MethodName) (head1 (Jvm.Cond.code (⟨"com/example/nodeset/nodeset/MutableLabel", "place", "()J"⟩ : MethodName) prog_32_method_4_code 1 (some .long) :: ws) ({ frames := 2, cells := 0, slots := 0, locals := 28 } : Room)) (fun a U => a = #[(.ref a0)] ∧ Z.Warmed39 U.vm ∧ U.heap = h0) (fun _ _ _ _ _ => True) (fun _ U o U' => ∃ v L, o = .returned v ∧ own_Q14 Z a0 kk x1 x2 w0 h0 n0 v U'.heap L ∧ FrameEnd U o U' L ({ frames := 2, cells := 0, slots := 0, locals := 28 } : Room).cells ({ frames := 2, cells := 0, slots := 0, locals := 28 } : Room).slots) := by
  refine MetFree.of_bodySF (plainFor_of_name own_pn80) hisR ?_
  intro p e s m args below meth c s₁ Bd hml0 hP hK
  obtain ⟨rfl, hZ, hh⟩ := hP
  have hx := Bd.exec
  have hby := Bd.bytes
  have hlk : meth.locks = false := Bd.notSynchronized
  have hml : c.maxLocals = 1 := hml0
  have hown : s.vm.findClass "com/example/nodeset/nodeset/MutableLabel" = some m.cls := findClass_of_methodNamed Bd.named
  have hnm := (name_of_methodNamed Bd.named Bd.method).1
  have X0 : Stand p l e ({ frames := 2, cells := 0, slots := 0, locals := 28 } : Room) s m #[(.ref a0)] below meth c s₁ [] 0 0 := Stand.of_body Bd
  have e0 : s₁.heap = h0 := by rw [← hh, Bd.state]; rfl
  have N0 := Fr.nil n0
  show OG p e below (FE s ({ frames := 2, cells := 0, slots := 0, locals := 28 } : Room).cells ({ frames := 2, cells := 0, slots := 0, locals := 28 } : Room).slots) (own_Q14 Z a0 kk x1 x2 w0 h0 n0) (s₁.setTop (entryFrame m #[(.ref a0)] 1))
  refine og_of (fun _ k => castTop (own_ef14 m a0) k) ?_
  refine o_aloadN X0 hx rfl (hb hby own_d14_0) rfl rfl ?_
  obtain ⟨T1, X1, e1, st1⟩ := getF X0 hx hZ hown (host := "") (Or.inl (hw _ (List.mem_of_getElem? (i := 65) rfl))) Via.refl e0 pre0 (g := (mkF m 1 #[.val (.ref a0)] [(.ref a0)])) rfl rfl (hb hby own_d14_1)
  refine og_of st1 ?_
  show OG p e below _ _ (T1.setTop (mkF m 4 #[.val (.ref a0)] [(.ref kk)]))
  refine o_aloadN X1 hx rfl (hb hby own_d14_4) rfl rfl ?_
  obtain ⟨T2, X2, e2, st2⟩ := getF X1 hx hZ hown (host := "") (Or.inl (hw _ (List.mem_of_getElem? (i := 72) rfl))) Via.refl e1 pre1 (g := (mkF m 5 #[.val (.ref a0)] [(.ref a0), (.ref kk)])) rfl rfl (hb hby own_d14_5)
  refine og_of st2 ?_
  show OG p e below _ _ (T2.setTop (mkF m 8 #[.val (.ref a0)] [(.long x1), (.ref kk)]))
  refine o_aloadN X2 hx rfl (hb hby own_d14_8) rfl rfl ?_
  obtain ⟨T3, X3, e3, st3⟩ := getF X2 hx hZ hown (host := "") (Or.inl (hw _ (List.mem_of_getElem? (i := 79) rfl))) Via.refl e2 pre2 (g := (mkF m 9 #[.val (.ref a0)] [(.ref a0), (.long x1), (.ref kk)])) rfl rfl (hb hby own_d14_9)
  refine og_of st3 ?_
  show OG p e below _ _ (T3.setTop (mkF m 12 #[.val (.ref a0)] [(.long x2), (.long x1), (.ref kk)]))
  have hw_5 : w0 = 0 ∨ w0 = 1 := hb0
  obtain ⟨_, _, ⟨T4, L4, k4, n4⟩, -, X4, ⟨Lc4, hQ4, l4, y4, z4⟩, st4⟩ := Jvm.LawKit.callS X3 hx (y := (⟨"com/example/nodeset/nodeset/StoredNode", "position", "(Lcom/example/nodeset/nodeset/NodeKind;JJ)J"⟩ : MethodName)) hown (mvT hZ (hw _ (List.mem_of_getElem? (i := 110) rfl))) (mvT hZ (hw _ (List.mem_of_getElem? (i := 111) rfl))) (mvT hZ (hw _ (List.mem_of_getElem? (i := 9) rfl))) (mvT hZ (hw _ (List.mem_of_getElem? (i := 112) rfl))) (by decide) (backOf (W := 0) (own_rm15 l Z aA hw [] kk x1 x2 w0 h0 n0 Z0 pre3 pre4 hw_5) hZ (hw _ (List.mem_of_getElem? (i := 112) rfl)) (hw _ (List.mem_of_getElem? (i := 9) rfl)) (by decide) (by decide)) (g := (mkF m 12 #[.val (.ref a0)] [(.long x2), (.long x1), (.ref kk)])) rfl (by rw [hml]; rfl) (argsL := [(.ref kk), (.long x1), (.long x2)]) (rest := []) (lenOf own_pd7 rfl) rfl (by show 2 * 0 + _ ≤ _; exact Nat.le_of_eq rfl) (hb hby own_d14_12) (fun _ _ => ⟨rfl, e3, Nat.le_of_ble_eq_true rfl, Nat.le_of_ble_eq_true rfl⟩)
  dsimp only [Pt.U, Pt.locs, Pt.cells, Pt.slots] at X4 l4 y4 z4 st4 hQ4
  subst l4 y4 z4
  obtain ⟨rfl, N4q, ee4⟩ := hQ4
  have N6 := Fr.app N0 N4q
  refine og_of st4 ?_
  show OG p e below _ _ (T4.setTop (mkF m 15 #[.val (.ref a0)] [(.long (own_f15 kk x1 x2 w0))]))
  exact o_retL X4 hx Bd.returns (own_lv X4 hlk (by decide) (by decide)) (hb hby own_d14_15) ⟨rfl, N6, ee4⟩
theorem own_d13_0 : decode method_3_code 0 = .ok (.iload_n 2, 1) := by decide +kernel
theorem own_d13_1 : decode method_3_code 1 = .ok (.ifCond .eq 11, 3) := by decide +kernel
theorem own_d13_4 : decode method_3_code 4 = .ok (.ldc2_w 25, 3) := by decide +kernel
theorem own_d13_7 : decode method_3_code 7 = .ok (.lload_n 3, 1) := by decide +kernel
theorem own_d13_8 : decode method_3_code 8 = .ok (.lmul, 1) := by decide +kernel
theorem own_d13_9 : decode method_3_code 9 = .ok (.goto 11, 3) := by decide +kernel
theorem own_d13_12 : decode method_3_code 12 = .ok (.ldc2_w 25, 3) := by decide +kernel
theorem own_d13_15 : decode method_3_code 15 = .ok (.lload 5, 2) := by decide +kernel
theorem own_d13_17 : decode method_3_code 17 = .ok (.lmul, 1) := by decide +kernel
theorem own_d13_18 : decode method_3_code 18 = .ok (.lconst 1, 1) := by decide +kernel
theorem own_d13_19 : decode method_3_code 19 = .ok (.ladd, 1) := by decide +kernel
theorem own_d13_20 : decode method_3_code 20 = .ok (.lstore 10, 2) := by decide +kernel
theorem own_d13_22 : decode method_3_code 22 = .ok (.aload_n 0, 1) := by decide +kernel
theorem own_d13_23 : decode method_3_code 23 = .ok (.getfield 27, 3) := by decide +kernel
theorem own_d13_26 : decode method_3_code 26 = .ok (.aload_n 1, 1) := by decide +kernel
theorem own_d13_27 : decode method_3_code 27 = .ok (.invokevirtual 33, 3) := by decide +kernel
theorem own_d13_30 : decode method_3_code 30 = .ok (.if_acmp .ne 55, 3) := by decide +kernel
theorem own_d13_33 : decode method_3_code 33 = .ok (.aload_n 0, 1) := by decide +kernel
theorem own_d13_34 : decode method_3_code 34 = .ok (.getfield 36, 3) := by decide +kernel
theorem own_d13_37 : decode method_3_code 37 = .ok (.lload_n 3, 1) := by decide +kernel
theorem own_d13_38 : decode method_3_code 38 = .ok (.lcmp, 1) := by decide +kernel
theorem own_d13_39 : decode method_3_code 39 = .ok (.ifCond .ne 46, 3) := by decide +kernel
theorem own_d13_42 : decode method_3_code 42 = .ok (.aload_n 0, 1) := by decide +kernel
theorem own_d13_43 : decode method_3_code 43 = .ok (.getfield 40, 3) := by decide +kernel
theorem own_d13_46 : decode method_3_code 46 = .ok (.lload 5, 2) := by decide +kernel
theorem own_d13_48 : decode method_3_code 48 = .ok (.lcmp, 1) := by decide +kernel
theorem own_d13_49 : decode method_3_code 49 = .ok (.ifCond .ne 36, 3) := by decide +kernel
theorem own_d13_52 : decode method_3_code 52 = .ok (.aload_n 0, 1) := by decide +kernel
theorem own_d13_53 : decode method_3_code 53 = .ok (.getfield 43, 3) := by decide +kernel
theorem own_d13_56 : decode method_3_code 56 = .ok (.iload 7, 2) := by decide +kernel
theorem own_d13_58 : decode method_3_code 58 = .ok (.if_icmp .ne 27, 3) := by decide +kernel
theorem own_d13_61 : decode method_3_code 61 = .ok (.aload_n 0, 1) := by decide +kernel
theorem own_d13_62 : decode method_3_code 62 = .ok (.getfield 47, 3) := by decide +kernel
theorem own_d13_65 : decode method_3_code 65 = .ok (.lload 8, 2) := by decide +kernel
theorem own_d13_67 : decode method_3_code 67 = .ok (.lcmp, 1) := by decide +kernel
theorem own_d13_68 : decode method_3_code 68 = .ok (.ifCond .ne 17, 3) := by decide +kernel
theorem own_d13_71 : decode method_3_code 71 = .ok (.aload_n 0, 1) := by decide +kernel
theorem own_d13_72 : decode method_3_code 72 = .ok (.invokevirtual 50, 3) := by decide +kernel
theorem own_d13_75 : decode method_3_code 75 = .ok (.lload 10, 2) := by decide +kernel
theorem own_d13_77 : decode method_3_code 77 = .ok (.lcmp, 1) := by decide +kernel
theorem own_d13_78 : decode method_3_code 78 = .ok (.ifCond .ne 7, 3) := by decide +kernel
theorem own_d13_81 : decode method_3_code 81 = .ok (.iconst 1, 1) := by decide +kernel
theorem own_d13_82 : decode method_3_code 82 = .ok (.goto 4, 3) := by decide +kernel
theorem own_d13_86 : decode method_3_code 86 = .ok (.ireturn, 1) := by decide +kernel
theorem own_ef13 (m : MethodId) (a0 : Addr) (a1 : Addr) (p2 : Int32) (x1 : Int64) (x2 : Int64) (x3 : Int32) (x4 : Int64) : entryFrame m #[(.ref a0), (.ref a1), (.int p2), (.long x1), (.long x2), (.int x3), (.long x4)] 12 = mkF m 0 #[.val (.ref a0), .val (.ref a1), .val (.int p2), .val (.long x1), .second, .val (.long x2), .second, .val (.int x3), .val (.long x4), .second, .unset, .unset] [] := by first | (simp [entryFrame, mkF, argsToLocals, Value.category]; done) | rfl
def own_Q13 (Z : State) (a0 : Addr) (a1 : Addr) (p2 : Int32) (x1 : Int64) (x2 : Int64) (x3 : Int32) (x4 : Int64) (kk : Addr) (w0 : Int32) (h0 : Heap) (n0 : Nat) (v : Option Value) (h : Heap) (L : List Loc) : Prop := v = some (.int (1 : Int32)) ∧ Fr n0 L ∧ h = h0
set_option maxRecDepth 65536 in
set_option maxHeartbeats 40000000 in
theorem own_rm13 (l : Launch) (Z : State) (aA : Array Value) (hw : ∀ d ∈ tables_1, d.before aA Z = true) (ws : List Jvm.Cond) (a0 : Addr) (a1 : Addr) (p2 : Int32) (x1 : Int64) (x2 : Int64) (x3 : Int32) (x4 : Int64) (kk : Addr) (w0 : Int32) (h0 : Heap) (n0 : Nat) (Z0 : n0 ≤ h0.size) (pre0 : Fld Z h0 a0 "com/example/nodeset/nodeset/MutableLabel" "kind" "Lcom/example/nodeset/nodeset/NodeKind;" (.ref kk)) (pre1 : Fld Z h0 a0 "com/example/nodeset/nodeset/MutableLabel" "start" "J" (.long x1)) (pre2 : Fld Z h0 a0 "com/example/nodeset/nodeset/MutableLabel" "end" "J" (.long x2)) (pre3 : Fld Z h0 a0 "com/example/nodeset/nodeset/MutableLabel" "depth" "I" (.int x3)) (pre4 : Fld Z h0 a0 "com/example/nodeset/nodeset/MutableLabel" "textPlace" "J" (.long x4)) (pre5 : Exa Z h0 a0 "com/example/nodeset/nodeset/MutableLabel") (pre6 : Exa Z h0 a1 "com/example/nodeset/nodeset/NodeName") (pre7 : Fld Z h0 a1 "com/example/nodeset/nodeset/NodeName" "kind" "Lcom/example/nodeset/nodeset/NodeKind;" (.ref kk)) (pre8 : Exa Z h0 kk "com/example/nodeset/nodeset/NodeKind") (pre9 : Fld Z h0 kk "com/example/nodeset/nodeset/NodeKind" "numbered" "Z" (.int w0)) (hb0 : w0 = 0 ∨ w0 = 1) (hp : p2 = w0) :
    MetFree l (⟨"com/example/nodeset/nodeset/MutableLabelSetPinLaw", "matches", "(Lcom/example/nodeset/nodeset/MutableLabel;Lcom/example/nodeset/nodeset/NodeName;ZJJIJ)Z"⟩ : MethodName) (head1 (Jvm.Cond.code (⟨"com/example/nodeset/nodeset/MutableLabelSetPinLaw", "matches", "(Lcom/example/nodeset/nodeset/MutableLabel;Lcom/example/nodeset/nodeset/NodeName;ZJJIJ)Z"⟩ : MethodName) method_3_code 12 (some .boolean) :: ws) ({ frames := 3, cells := 0, slots := 0, locals := 40 } : Room)) (fun a U => a = #[(.ref a0), (.ref a1), (.int p2), (.long x1), (.long x2), (.int x3), (.long x4)] ∧ Z.Warmed39 U.vm ∧ U.heap = h0) (fun _ _ _ _ _ => True) (fun _ U o U' => ∃ v L, o = .returned v ∧ own_Q13 Z a0 a1 p2 x1 x2 x3 x4 kk w0 h0 n0 v U'.heap L ∧ FrameEnd U o U' L ({ frames := 3, cells := 0, slots := 0, locals := 40 } : Room).cells ({ frames := 3, cells := 0, slots := 0, locals := 40 } : Room).slots) := by
  refine MetFree.of_bodySF (plainFor_of_name own_pn45) hisR ?_
  intro p e s m args below meth c s₁ Bd hml0 hP hK
  obtain ⟨rfl, hZ, hh⟩ := hP
  have hx := Bd.exec
  have hby := Bd.bytes
  have hlk : meth.locks = false := Bd.notSynchronized
  have hml : c.maxLocals = 12 := hml0
  have hown : s.vm.findClass "com/example/nodeset/nodeset/MutableLabelSetPinLaw" = some m.cls := findClass_of_methodNamed Bd.named
  have hnm := (name_of_methodNamed Bd.named Bd.method).1
  have X0 : Stand p l e ({ frames := 3, cells := 0, slots := 0, locals := 40 } : Room) s m #[(.ref a0), (.ref a1), (.int p2), (.long x1), (.long x2), (.int x3), (.long x4)] below meth c s₁ [] 0 0 := Stand.of_body Bd
  have e0 : s₁.heap = h0 := by rw [← hh, Bd.state]; rfl
  have N0 := Fr.nil n0
  show OG p e below (FE s ({ frames := 3, cells := 0, slots := 0, locals := 40 } : Room).cells ({ frames := 3, cells := 0, slots := 0, locals := 40 } : Room).slots) (own_Q13 Z a0 a1 p2 x1 x2 x3 x4 kk w0 h0 n0) (s₁.setTop (entryFrame m #[(.ref a0), (.ref a1), (.int p2), (.long x1), (.long x2), (.int x3), (.long x4)] 12))
  refine og_of (fun _ k => castTop (own_ef13 m a0 a1 p2 x1 x2 x3 x4) k) ?_
  refine o_iloadN X0 hx rfl (hb hby own_d13_0) rfl ?_
  obtain ⟨ph2, hph2⟩ : ∃ z : Int64, (if p2 = (0 : Int32) then (((2 : Int64) * x2) + (1 : Int64)) else ((2 : Int64) * x1)) = z := ⟨_, rfl⟩
  have J3 : OG p e below (FE s ({ frames := 3, cells := 0, slots := 0, locals := 40 } : Room).cells ({ frames := 3, cells := 0, slots := 0, locals := 40 } : Room).slots) (own_Q13 Z a0 a1 p2 x1 x2 x3 x4 kk w0 h0 n0) (s₁.setTop (mkF m 20 #[.val (.ref a0), .val (.ref a1), .val (.int p2), .val (.long x1), .second, .val (.long x2), .second, .val (.int x3), .val (.long x4), .second, .unset, .unset] [(.long ph2)])) := by
    refine o_lstore X0 hx rfl (hb hby own_d13_20) (L' := #[.val (.ref a0), .val (.ref a1), .val (.int p2), .val (.long x1), .second, .val (.long x2), .second, .val (.int x3), .val (.long x4), .second, .val (.long ph2), .second]) rfl ?_
    refine o_aloadN X0 hx rfl (hb hby own_d13_22) rfl rfl ?_
    obtain ⟨T4, X4, e4, st4⟩ := getF X0 hx hZ hown (host := "") (Or.inl (hw _ (List.mem_of_getElem? (i := 99) rfl))) Via.refl e0 pre0 (g := (mkF m 23 #[.val (.ref a0), .val (.ref a1), .val (.int p2), .val (.long x1), .second, .val (.long x2), .second, .val (.int x3), .val (.long x4), .second, .val (.long ph2), .second] [(.ref a0)])) rfl rfl (hb hby own_d13_23)
    refine og_of st4 ?_
    show OG p e below _ _ (T4.setTop (mkF m 26 #[.val (.ref a0), .val (.ref a1), .val (.int p2), .val (.long x1), .second, .val (.long x2), .second, .val (.int x3), .val (.long x4), .second, .val (.long ph2), .second] [(.ref kk)]))
    refine o_aloadN X4 hx rfl (hb hby own_d13_26) rfl rfl ?_
    obtain ⟨cq5, kq5, q5a, q5b, q5c⟩ := isOf hZ e4 pre6
    obtain ⟨_, _, ⟨T5, L5, k5, n5⟩, -, X5, ⟨Lc5, hQ5, l5, y5, z5⟩, st5⟩ := X4.virtualBack hx (y := (⟨"com/example/nodeset/nodeset/NodeName", "kind", "()Lcom/example/nodeset/nodeset/NodeKind;"⟩ : MethodName)) (z := (⟨"com/example/nodeset/nodeset/NodeName", "kind", "()Lcom/example/nodeset/nodeset/NodeKind;"⟩ : MethodName)) hown (mvT hZ (hw _ (List.mem_of_getElem? (i := 100) rfl))) (mvT hZ (hw _ (List.mem_of_getElem? (i := 57) rfl))) (notFace_of_selects (args := #[]) (mvT hZ (hw _ (List.mem_of_getElem? (i := 59) rfl)))) (mvT hZ (hw _ (List.mem_of_getElem? (i := 59) rfl))) (mvT hZ (hw _ (List.mem_of_getElem? (i := 58) rfl))) (by decide) (backOf (W := 1) (own_rm8 l Z aA hw [] a1 kk h0 n0 Z0 pre7) hZ (hw _ (List.mem_of_getElem? (i := 60) rfl)) (hw _ (List.mem_of_getElem? (i := 5) rfl)) (by decide) (by decide)) q5a q5c (g := (mkF m 27 #[.val (.ref a0), .val (.ref a1), .val (.int p2), .val (.long x1), .second, .val (.long x2), .second, .val (.int x3), .val (.long x4), .second, .val (.long ph2), .second] [(.ref a1), (.ref kk)])) rfl (by rw [hml]; rfl) (Steps.refl _) (argsL := []) (rest := [(.ref kk)]) (lenOf own_pd3 rfl) rfl (by show 2 * 0 + _ ≤ _; exact Nat.le_of_eq rfl) (hb hby own_d13_27) (fun _ _ => ⟨rfl, e4, Nat.le_of_ble_eq_true rfl, Nat.le_of_ble_eq_true rfl⟩)
    dsimp only [Pt.U, Pt.locs, Pt.cells, Pt.slots] at X5 l5 y5 z5 st5 hQ5
    subst l5 y5 z5
    obtain ⟨rfl, N5q, ee5⟩ := hQ5
    have N6 := Fr.app N0 N5q
    refine og_tr st5 ?_
    show OG p e below _ _ (T5.setTop (mkF m 30 #[.val (.ref a0), .val (.ref a1), .val (.int p2), .val (.long x1), .second, .val (.long x2), .second, .val (.int x3), .val (.long x4), .second, .val (.long ph2), .second] [(.ref kk), (.ref kk)]))
    refine o_acmpN X5 hx rfl (hb hby own_d13_30) (by simp [if_acmp.holds]) ?_
    refine o_aloadN X5 hx rfl (hb hby own_d13_33) rfl rfl ?_
    obtain ⟨T7, X7, e7, st7⟩ := getF X5 hx hZ hown (host := "") (Or.inl (hw _ (List.mem_of_getElem? (i := 101) rfl))) Via.refl ee5 pre1 (g := (mkF m 34 #[.val (.ref a0), .val (.ref a1), .val (.int p2), .val (.long x1), .second, .val (.long x2), .second, .val (.int x3), .val (.long x4), .second, .val (.long ph2), .second] [(.ref a0)])) rfl rfl (hb hby own_d13_34)
    refine og_of st7 ?_
    show OG p e below _ _ (T7.setTop (mkF m 37 #[.val (.ref a0), .val (.ref a1), .val (.int p2), .val (.long x1), .second, .val (.long x2), .second, .val (.int x3), .val (.long x4), .second, .val (.long ph2), .second] [(.long x1)]))
    refine o_lloadN X7 hx rfl (hb hby own_d13_37) rfl ?_
    refine o_lcmp X7 hx rfl (hb hby own_d13_38) ?_
    have hk8 : x1 = x1 := rfl
    refine o_ifN (pc' := 42) X7 hx rfl (hb hby own_d13_39) (lcY_eq hk8).2 ?_
    refine o_aloadN X7 hx rfl (hb hby own_d13_42) rfl rfl ?_
    obtain ⟨T9, X9, e9, st9⟩ := getF X7 hx hZ hown (host := "") (Or.inl (hw _ (List.mem_of_getElem? (i := 102) rfl))) Via.refl e7 pre2 (g := (mkF m 43 #[.val (.ref a0), .val (.ref a1), .val (.int p2), .val (.long x1), .second, .val (.long x2), .second, .val (.int x3), .val (.long x4), .second, .val (.long ph2), .second] [(.ref a0)])) rfl rfl (hb hby own_d13_43)
    refine og_of st9 ?_
    show OG p e below _ _ (T9.setTop (mkF m 46 #[.val (.ref a0), .val (.ref a1), .val (.int p2), .val (.long x1), .second, .val (.long x2), .second, .val (.int x3), .val (.long x4), .second, .val (.long ph2), .second] [(.long x2)]))
    refine o_lload X9 hx rfl (hb hby own_d13_46) rfl ?_
    refine o_lcmp X9 hx rfl (hb hby own_d13_48) ?_
    have hk10 : x2 = x2 := rfl
    refine o_ifN (pc' := 52) X9 hx rfl (hb hby own_d13_49) (lcY_eq hk10).2 ?_
    refine o_aloadN X9 hx rfl (hb hby own_d13_52) rfl rfl ?_
    obtain ⟨T11, X11, e11, st11⟩ := getF X9 hx hZ hown (host := "") (Or.inl (hw _ (List.mem_of_getElem? (i := 103) rfl))) Via.refl e9 pre3 (g := (mkF m 53 #[.val (.ref a0), .val (.ref a1), .val (.int p2), .val (.long x1), .second, .val (.long x2), .second, .val (.int x3), .val (.long x4), .second, .val (.long ph2), .second] [(.ref a0)])) rfl rfl (hb hby own_d13_53)
    refine og_of st11 ?_
    show OG p e below _ _ (T11.setTop (mkF m 56 #[.val (.ref a0), .val (.ref a1), .val (.int p2), .val (.long x1), .second, .val (.long x2), .second, .val (.int x3), .val (.long x4), .second, .val (.long ph2), .second] [(.int x3)]))
    refine o_iload X11 hx rfl (hb hby own_d13_56) rfl ?_
    have hk12 : x3 = x3 := rfl
    refine o_icmpN (pc' := 61) X11 hx rfl (hb hby own_d13_58) (teq hk12).2 ?_
    refine o_aloadN X11 hx rfl (hb hby own_d13_61) rfl rfl ?_
    obtain ⟨T13, X13, e13, st13⟩ := getF X11 hx hZ hown (host := "") (Or.inl (hw _ (List.mem_of_getElem? (i := 104) rfl))) Via.refl e11 pre4 (g := (mkF m 62 #[.val (.ref a0), .val (.ref a1), .val (.int p2), .val (.long x1), .second, .val (.long x2), .second, .val (.int x3), .val (.long x4), .second, .val (.long ph2), .second] [(.ref a0)])) rfl rfl (hb hby own_d13_62)
    refine og_of st13 ?_
    show OG p e below _ _ (T13.setTop (mkF m 65 #[.val (.ref a0), .val (.ref a1), .val (.int p2), .val (.long x1), .second, .val (.long x2), .second, .val (.int x3), .val (.long x4), .second, .val (.long ph2), .second] [(.long x4)]))
    refine o_lload X13 hx rfl (hb hby own_d13_65) rfl ?_
    refine o_lcmp X13 hx rfl (hb hby own_d13_67) ?_
    have hk14 : x4 = x4 := rfl
    refine o_ifN (pc' := 71) X13 hx rfl (hb hby own_d13_68) (lcY_eq hk14).2 ?_
    refine o_aloadN X13 hx rfl (hb hby own_d13_71) rfl rfl ?_
    have hw_16 : w0 = 0 ∨ w0 = 1 := hb0
    obtain ⟨cq15, kq15, q15a, q15b, q15c⟩ := isOf hZ e13 pre5
    obtain ⟨_, _, ⟨T15, L15, k15, n15⟩, -, X15, ⟨Lc15, hQ15, l15, y15, z15⟩, st15⟩ := X13.virtualBack hx (y := (⟨"com/example/nodeset/nodeset/MutableLabel", "place", "()J"⟩ : MethodName)) (z := (⟨"com/example/nodeset/nodeset/MutableLabel", "place", "()J"⟩ : MethodName)) hown (mvT hZ (hw _ (List.mem_of_getElem? (i := 105) rfl))) (mvT hZ (hw _ (List.mem_of_getElem? (i := 106) rfl))) (notFace_of_selects (args := #[]) (mvT hZ (hw _ (List.mem_of_getElem? (i := 108) rfl)))) (mvT hZ (hw _ (List.mem_of_getElem? (i := 108) rfl))) (mvT hZ (hw _ (List.mem_of_getElem? (i := 107) rfl))) (by decide) (backOf (W := 0) (own_rm14 l Z aA hw [] a0 kk x1 x2 w0 h0 n0 Z0 pre0 pre1 pre2 pre8 pre9 hw_16) hZ (hw _ (List.mem_of_getElem? (i := 109) rfl)) (hw _ (List.mem_of_getElem? (i := 41) rfl)) (by decide) (by decide)) q15a q15c (g := (mkF m 72 #[.val (.ref a0), .val (.ref a1), .val (.int p2), .val (.long x1), .second, .val (.long x2), .second, .val (.int x3), .val (.long x4), .second, .val (.long ph2), .second] [(.ref a0)])) rfl (by rw [hml]; rfl) (Steps.refl _) (argsL := []) (rest := []) (lenOf own_pd4 rfl) rfl (by show 2 * 0 + _ ≤ _; exact Nat.le_of_eq rfl) (hb hby own_d13_72) (fun _ _ => ⟨rfl, e13, Nat.le_of_ble_eq_true rfl, Nat.le_of_ble_eq_true rfl⟩)
    dsimp only [Pt.U, Pt.locs, Pt.cells, Pt.slots] at X15 l15 y15 z15 st15 hQ15
    subst l15 y15 z15
    obtain ⟨rfl, N15q, ee15⟩ := hQ15
    have N17 := Fr.app N6 N15q
    refine og_tr st15 ?_
    show OG p e below _ _ (T15.setTop (mkF m 75 #[.val (.ref a0), .val (.ref a1), .val (.int p2), .val (.long x1), .second, .val (.long x2), .second, .val (.int x3), .val (.long x4), .second, .val (.long ph2), .second] [(.long (own_f14 a0 kk x1 x2 w0))]))
    refine o_lload X15 hx rfl (hb hby own_d13_75) rfl ?_
    refine o_lcmp X15 hx rfl (hb hby own_d13_77) ?_
    have hk18 : (own_f14 a0 kk x1 x2 w0) = ph2 := by subst hph2; rw [hp]; rfl
    refine o_ifN (pc' := 81) X15 hx rfl (hb hby own_d13_78) (lcY_eq hk18).2 ?_
    refine o_iconst (z := (1 : Int32)) X15 hx rfl (hb hby own_d13_81) (by decide) ?_
    refine o_goto (pc' := 86) X15 hx (hb hby own_d13_82) (by decide) (by decide) ?_
    subst hph2
    exact o_retB X15 hx Bd.returns (own_lv X15 hlk (by decide) (by decide)) (hb hby own_d13_86) (by decide) ⟨rfl, N17, ee15⟩
  by_cases hc19 : p2 = (0 : Int32)
  · skip
    refine o_ifY (pc' := 12) X0 hx (hb hby own_d13_1) ((if0 _ _).trans (teq hc19).1) (by decide) (by decide) ?_
    refine o_ldc2L X0 hx rfl (hb hby own_d13_12) hZ hown (hw _ (List.mem_of_getElem? (i := 98) rfl)) ?_
    refine o_lload X0 hx rfl (hb hby own_d13_15) rfl ?_
    refine o_lmul (z := ((2 : Int64) * x2)) X0 hx rfl (hb hby own_d13_17) rfl ?_
    refine o_lconst (z := (1 : Int64)) X0 hx rfl (hb hby own_d13_18) (by decide) ?_
    refine o_ladd (z := (((2 : Int64) * x2) + (1 : Int64))) X0 hx rfl (hb hby own_d13_19) rfl ?_
    have q20 : ph2 = (((2 : Int64) * x2) + (1 : Int64)) := by
      rw [← hph2]
      simp only [if_pos hc19]
    rw [q20] at J3
    exact J3
  · skip
    refine o_ifN (pc' := 4) X0 hx rfl (hb hby own_d13_1) ((if0 _ _).trans (feq hc19).1) ?_
    refine o_ldc2L X0 hx rfl (hb hby own_d13_4) hZ hown (hw _ (List.mem_of_getElem? (i := 98) rfl)) ?_
    refine o_lloadN X0 hx rfl (hb hby own_d13_7) rfl ?_
    refine o_lmul (z := ((2 : Int64) * x1)) X0 hx rfl (hb hby own_d13_8) rfl ?_
    refine o_goto (pc' := 20) X0 hx (hb hby own_d13_9) (by decide) (by decide) ?_
    have q21 : ph2 = ((2 : Int64) * x1) := by
      rw [← hph2]
      simp only [if_neg hc19]
    rw [q21] at J3
    exact J3
theorem own_d17_0 : decode prog_32_method_5_code 0 = .ok (.aload_n 0, 1) := by decide +kernel
theorem own_d17_1 : decode prog_32_method_5_code 1 = .ok (.getfield 13, 3) := by decide +kernel
theorem own_d17_4 : decode prog_32_method_5_code 4 = .ok (.aload_n 1, 1) := by decide +kernel
theorem own_d17_5 : decode prog_32_method_5_code 5 = .ok (.invokevirtual 7, 3) := by decide +kernel
theorem own_d17_8 : decode prog_32_method_5_code 8 = .ok (.if_acmp .ne 54, 3) := by decide +kernel
theorem own_d17_11 : decode prog_32_method_5_code 11 = .ok (.aload_n 0, 1) := by decide +kernel
theorem own_d17_12 : decode prog_32_method_5_code 12 = .ok (.getfield 22, 3) := by decide +kernel
theorem own_d17_15 : decode prog_32_method_5_code 15 = .ok (.aload_n 1, 1) := by decide +kernel
theorem own_d17_16 : decode prog_32_method_5_code 16 = .ok (.invokevirtual 18, 3) := by decide +kernel
theorem own_d17_19 : decode prog_32_method_5_code 19 = .ok (.lcmp, 1) := by decide +kernel
theorem own_d17_20 : decode prog_32_method_5_code 20 = .ok (.ifCond .ne 42, 3) := by decide +kernel
theorem own_d17_23 : decode prog_32_method_5_code 23 = .ok (.aload_n 0, 1) := by decide +kernel
theorem own_d17_24 : decode prog_32_method_5_code 24 = .ok (.getfield 28, 3) := by decide +kernel
theorem own_d17_27 : decode prog_32_method_5_code 27 = .ok (.aload_n 1, 1) := by decide +kernel
theorem own_d17_28 : decode prog_32_method_5_code 28 = .ok (.invokevirtual 25, 3) := by decide +kernel
theorem own_d17_31 : decode prog_32_method_5_code 31 = .ok (.lcmp, 1) := by decide +kernel
theorem own_d17_32 : decode prog_32_method_5_code 32 = .ok (.ifCond .ne 30, 3) := by decide +kernel
theorem own_d17_35 : decode prog_32_method_5_code 35 = .ok (.aload_n 0, 1) := by decide +kernel
theorem own_d17_36 : decode prog_32_method_5_code 36 = .ok (.getfield 34, 3) := by decide +kernel
theorem own_d17_39 : decode prog_32_method_5_code 39 = .ok (.aload_n 1, 1) := by decide +kernel
theorem own_d17_40 : decode prog_32_method_5_code 40 = .ok (.invokevirtual 30, 3) := by decide +kernel
theorem own_d17_43 : decode prog_32_method_5_code 43 = .ok (.if_icmp .ne 19, 3) := by decide +kernel
theorem own_d17_46 : decode prog_32_method_5_code 46 = .ok (.aload_n 0, 1) := by decide +kernel
theorem own_d17_47 : decode prog_32_method_5_code 47 = .ok (.getfield 40, 3) := by decide +kernel
theorem own_d17_50 : decode prog_32_method_5_code 50 = .ok (.aload_n 1, 1) := by decide +kernel
theorem own_d17_51 : decode prog_32_method_5_code 51 = .ok (.invokevirtual 37, 3) := by decide +kernel
theorem own_d17_54 : decode prog_32_method_5_code 54 = .ok (.lcmp, 1) := by decide +kernel
theorem own_d17_55 : decode prog_32_method_5_code 55 = .ok (.ifCond .ne 7, 3) := by decide +kernel
theorem own_d17_58 : decode prog_32_method_5_code 58 = .ok (.iconst 1, 1) := by decide +kernel
theorem own_d17_59 : decode prog_32_method_5_code 59 = .ok (.goto 4, 3) := by decide +kernel
theorem own_d17_63 : decode prog_32_method_5_code 63 = .ok (.ireturn, 1) := by decide +kernel
theorem own_ef17 (m : MethodId) (a0 : Addr) (a1 : Addr) : entryFrame m #[(.ref a0), (.ref a1)] 2 = mkF m 0 #[.val (.ref a0), .val (.ref a1)] [] := by first | (simp [entryFrame, mkF, argsToLocals, Value.category]; done) | rfl
def own_Q17 (Z : State) (a0 : Addr) (a1 : Addr) (nm : Addr) (kk : Addr) (x1 : Int64) (x2 : Int64) (x3 : Int32) (x4 : Int64) (h0 : Heap) (n0 : Nat) (v : Option Value) (h : Heap) (L : List Loc) : Prop := v = some (.int (1 : Int32)) ∧ Fr n0 L ∧ h = h0
set_option maxRecDepth 65536 in
set_option maxHeartbeats 40000000 in
theorem own_rm17 (l : Launch) (Z : State) (aA : Array Value) (hw : ∀ d ∈ tables_1, d.before aA Z = true) (ws : List Jvm.Cond) (a0 : Addr) (a1 : Addr) (nm : Addr) (kk : Addr) (x1 : Int64) (x2 : Int64) (x3 : Int32) (x4 : Int64) (h0 : Heap) (n0 : Nat) (Z0 : n0 ≤ h0.size) (pre0 : Exa Z h0 a1 "com/example/nodeset/nodeset/StoredNode") (pre1 : Fld Z h0 a1 "com/example/nodeset/nodeset/StoredNode" "name" "Lcom/example/nodeset/nodeset/NodeName;" (.ref nm)) (pre2 : Exa Z h0 nm "com/example/nodeset/nodeset/NodeName") (pre3 : Fld Z h0 nm "com/example/nodeset/nodeset/NodeName" "kind" "Lcom/example/nodeset/nodeset/NodeKind;" (.ref kk)) (pre4 : Fld Z h0 a1 "com/example/nodeset/nodeset/StoredNode" "start" "J" (.long x1)) (pre5 : Fld Z h0 a1 "com/example/nodeset/nodeset/StoredNode" "end" "J" (.long x2)) (pre6 : Fld Z h0 a1 "com/example/nodeset/nodeset/StoredNode" "depth" "I" (.int x3)) (pre7 : Fld Z h0 a1 "com/example/nodeset/nodeset/StoredNode" "textPlace" "J" (.long x4)) (pre8 : Fld Z h0 a0 "com/example/nodeset/nodeset/MutableLabel" "kind" "Lcom/example/nodeset/nodeset/NodeKind;" (.ref kk)) (pre9 : Fld Z h0 a0 "com/example/nodeset/nodeset/MutableLabel" "start" "J" (.long x1)) (pre10 : Fld Z h0 a0 "com/example/nodeset/nodeset/MutableLabel" "end" "J" (.long x2)) (pre11 : Fld Z h0 a0 "com/example/nodeset/nodeset/MutableLabel" "depth" "I" (.int x3)) (pre12 : Fld Z h0 a0 "com/example/nodeset/nodeset/MutableLabel" "textPlace" "J" (.long x4)) :
    MetFree l (⟨"com/example/nodeset/nodeset/MutableLabel", "labels", "(Lcom/example/nodeset/nodeset/StoredNode;)Z"⟩ : MethodName) (head1 (Jvm.Cond.code (⟨"com/example/nodeset/nodeset/MutableLabel", "labels", "(Lcom/example/nodeset/nodeset/StoredNode;)Z"⟩ : MethodName) prog_32_method_5_code 2 (some .boolean) :: ws) ({ frames := 2, cells := 0, slots := 0, locals := 25 } : Room)) (fun a U => a = #[(.ref a0), (.ref a1)] ∧ Z.Warmed39 U.vm ∧ U.heap = h0) (fun _ _ _ _ _ => True) (fun _ U o U' => ∃ v L, o = .returned v ∧ own_Q17 Z a0 a1 nm kk x1 x2 x3 x4 h0 n0 v U'.heap L ∧ FrameEnd U o U' L ({ frames := 2, cells := 0, slots := 0, locals := 25 } : Room).cells ({ frames := 2, cells := 0, slots := 0, locals := 25 } : Room).slots) := by
  refine MetFree.of_bodySF (plainFor_of_name own_pn80) hisR ?_
  intro p e s m args below meth c s₁ Bd hml0 hP hK
  obtain ⟨rfl, hZ, hh⟩ := hP
  have hx := Bd.exec
  have hby := Bd.bytes
  have hlk : meth.locks = false := Bd.notSynchronized
  have hml : c.maxLocals = 2 := hml0
  have hown : s.vm.findClass "com/example/nodeset/nodeset/MutableLabel" = some m.cls := findClass_of_methodNamed Bd.named
  have hnm := (name_of_methodNamed Bd.named Bd.method).1
  have X0 : Stand p l e ({ frames := 2, cells := 0, slots := 0, locals := 25 } : Room) s m #[(.ref a0), (.ref a1)] below meth c s₁ [] 0 0 := Stand.of_body Bd
  have e0 : s₁.heap = h0 := by rw [← hh, Bd.state]; rfl
  have N0 := Fr.nil n0
  show OG p e below (FE s ({ frames := 2, cells := 0, slots := 0, locals := 25 } : Room).cells ({ frames := 2, cells := 0, slots := 0, locals := 25 } : Room).slots) (own_Q17 Z a0 a1 nm kk x1 x2 x3 x4 h0 n0) (s₁.setTop (entryFrame m #[(.ref a0), (.ref a1)] 2))
  refine og_of (fun _ k => castTop (own_ef17 m a0 a1) k) ?_
  refine o_aloadN X0 hx rfl (hb hby own_d17_0) rfl rfl ?_
  obtain ⟨T1, X1, e1, st1⟩ := getF X0 hx hZ hown (host := "") (Or.inl (hw _ (List.mem_of_getElem? (i := 65) rfl))) Via.refl e0 pre8 (g := (mkF m 1 #[.val (.ref a0), .val (.ref a1)] [(.ref a0)])) rfl rfl (hb hby own_d17_1)
  refine og_of st1 ?_
  show OG p e below _ _ (T1.setTop (mkF m 4 #[.val (.ref a0), .val (.ref a1)] [(.ref kk)]))
  refine o_aloadN X1 hx rfl (hb hby own_d17_4) rfl rfl ?_
  obtain ⟨cq2, kq2, q2a, q2b, q2c⟩ := isOf hZ e1 pre0
  obtain ⟨_, _, ⟨T2, L2, k2, n2⟩, -, X2, ⟨Lc2, hQ2, l2, y2, z2⟩, st2⟩ := X1.virtualBack hx (y := (⟨"com/example/nodeset/nodeset/StoredNode", "kind", "()Lcom/example/nodeset/nodeset/NodeKind;"⟩ : MethodName)) (z := (⟨"com/example/nodeset/nodeset/StoredNode", "kind", "()Lcom/example/nodeset/nodeset/NodeKind;"⟩ : MethodName)) hown (mvT hZ (hw _ (List.mem_of_getElem? (i := 51) rfl))) (mvT hZ (hw _ (List.mem_of_getElem? (i := 52) rfl))) (notFace_of_selects (args := #[]) (mvT hZ (hw _ (List.mem_of_getElem? (i := 54) rfl)))) (mvT hZ (hw _ (List.mem_of_getElem? (i := 54) rfl))) (mvT hZ (hw _ (List.mem_of_getElem? (i := 53) rfl))) (by decide) (backOf (W := 1) (own_rm7 l Z aA hw [] a1 nm kk h0 n0 Z0 pre1 pre2 pre3) hZ (hw _ (List.mem_of_getElem? (i := 55) rfl)) (hw _ (List.mem_of_getElem? (i := 9) rfl)) (by decide) (by decide)) q2a q2c (g := (mkF m 5 #[.val (.ref a0), .val (.ref a1)] [(.ref a1), (.ref kk)])) rfl (by rw [hml]; rfl) (Steps.refl _) (argsL := []) (rest := [(.ref kk)]) (lenOf own_pd3 rfl) rfl (by show 2 * 0 + _ ≤ _; exact Nat.le_of_eq rfl) (hb hby own_d17_5) (fun _ _ => ⟨rfl, e1, Nat.le_of_ble_eq_true rfl, Nat.le_of_ble_eq_true rfl⟩)
  dsimp only [Pt.U, Pt.locs, Pt.cells, Pt.slots] at X2 l2 y2 z2 st2 hQ2
  subst l2 y2 z2
  obtain ⟨rfl, N2q, ee2⟩ := hQ2
  have N3 := Fr.app N0 N2q
  refine og_tr st2 ?_
  show OG p e below _ _ (T2.setTop (mkF m 8 #[.val (.ref a0), .val (.ref a1)] [(.ref kk), (.ref kk)]))
  refine o_acmpN X2 hx rfl (hb hby own_d17_8) (by simp [if_acmp.holds]) ?_
  refine o_aloadN X2 hx rfl (hb hby own_d17_11) rfl rfl ?_
  obtain ⟨T4, X4, e4, st4⟩ := getF X2 hx hZ hown (host := "") (Or.inl (hw _ (List.mem_of_getElem? (i := 72) rfl))) Via.refl ee2 pre9 (g := (mkF m 12 #[.val (.ref a0), .val (.ref a1)] [(.ref a0)])) rfl rfl (hb hby own_d17_12)
  refine og_of st4 ?_
  show OG p e below _ _ (T4.setTop (mkF m 15 #[.val (.ref a0), .val (.ref a1)] [(.long x1)]))
  refine o_aloadN X4 hx rfl (hb hby own_d17_15) rfl rfl ?_
  obtain ⟨cq5, kq5, q5a, q5b, q5c⟩ := isOf hZ e4 pre0
  obtain ⟨_, _, ⟨T5, L5, k5, n5⟩, -, X5, ⟨Lc5, hQ5, l5, y5, z5⟩, st5⟩ := X4.virtualBack hx (y := (⟨"com/example/nodeset/nodeset/StoredNode", "start", "()J"⟩ : MethodName)) (z := (⟨"com/example/nodeset/nodeset/StoredNode", "start", "()J"⟩ : MethodName)) hown (mvT hZ (hw _ (List.mem_of_getElem? (i := 67) rfl))) (mvT hZ (hw _ (List.mem_of_getElem? (i := 68) rfl))) (notFace_of_selects (args := #[]) (mvT hZ (hw _ (List.mem_of_getElem? (i := 70) rfl)))) (mvT hZ (hw _ (List.mem_of_getElem? (i := 70) rfl))) (mvT hZ (hw _ (List.mem_of_getElem? (i := 69) rfl))) (by decide) (backOf (W := 2) (own_rm9 l Z aA hw [] a1 x1 h0 n0 Z0 pre4) hZ (hw _ (List.mem_of_getElem? (i := 71) rfl)) (hw _ (List.mem_of_getElem? (i := 9) rfl)) (by decide) (by decide)) q5a q5c (g := (mkF m 16 #[.val (.ref a0), .val (.ref a1)] [(.ref a1), (.long x1)])) rfl (by rw [hml]; rfl) (Steps.refl _) (argsL := []) (rest := [(.long x1)]) (lenOf own_pd4 rfl) rfl (by show 2 * 0 + _ ≤ _; exact Nat.le_of_eq rfl) (hb hby own_d17_16) (fun _ _ => ⟨rfl, e4, Nat.le_of_ble_eq_true rfl, Nat.le_of_ble_eq_true rfl⟩)
  dsimp only [Pt.U, Pt.locs, Pt.cells, Pt.slots] at X5 l5 y5 z5 st5 hQ5
  subst l5 y5 z5
  obtain ⟨rfl, N5q, ee5⟩ := hQ5
  have N6 := Fr.app N3 N5q
  refine og_tr st5 ?_
  show OG p e below _ _ (T5.setTop (mkF m 19 #[.val (.ref a0), .val (.ref a1)] [(.long x1), (.long x1)]))
  refine o_lcmp X5 hx rfl (hb hby own_d17_19) ?_
  have hk7 : x1 = x1 := rfl
  refine o_ifN (pc' := 23) X5 hx rfl (hb hby own_d17_20) (lcY_eq hk7).2 ?_
  refine o_aloadN X5 hx rfl (hb hby own_d17_23) rfl rfl ?_
  obtain ⟨T8, X8, e8, st8⟩ := getF X5 hx hZ hown (host := "") (Or.inl (hw _ (List.mem_of_getElem? (i := 79) rfl))) Via.refl ee5 pre10 (g := (mkF m 24 #[.val (.ref a0), .val (.ref a1)] [(.ref a0)])) rfl rfl (hb hby own_d17_24)
  refine og_of st8 ?_
  show OG p e below _ _ (T8.setTop (mkF m 27 #[.val (.ref a0), .val (.ref a1)] [(.long x2)]))
  refine o_aloadN X8 hx rfl (hb hby own_d17_27) rfl rfl ?_
  obtain ⟨cq9, kq9, q9a, q9b, q9c⟩ := isOf hZ e8 pre0
  obtain ⟨_, _, ⟨T9, L9, k9, n9⟩, -, X9, ⟨Lc9, hQ9, l9, y9, z9⟩, st9⟩ := X8.virtualBack hx (y := (⟨"com/example/nodeset/nodeset/StoredNode", "end", "()J"⟩ : MethodName)) (z := (⟨"com/example/nodeset/nodeset/StoredNode", "end", "()J"⟩ : MethodName)) hown (mvT hZ (hw _ (List.mem_of_getElem? (i := 74) rfl))) (mvT hZ (hw _ (List.mem_of_getElem? (i := 75) rfl))) (notFace_of_selects (args := #[]) (mvT hZ (hw _ (List.mem_of_getElem? (i := 77) rfl)))) (mvT hZ (hw _ (List.mem_of_getElem? (i := 77) rfl))) (mvT hZ (hw _ (List.mem_of_getElem? (i := 76) rfl))) (by decide) (backOf (W := 2) (own_rm10 l Z aA hw [] a1 x2 h0 n0 Z0 pre5) hZ (hw _ (List.mem_of_getElem? (i := 78) rfl)) (hw _ (List.mem_of_getElem? (i := 9) rfl)) (by decide) (by decide)) q9a q9c (g := (mkF m 28 #[.val (.ref a0), .val (.ref a1)] [(.ref a1), (.long x2)])) rfl (by rw [hml]; rfl) (Steps.refl _) (argsL := []) (rest := [(.long x2)]) (lenOf own_pd4 rfl) rfl (by show 2 * 0 + _ ≤ _; exact Nat.le_of_eq rfl) (hb hby own_d17_28) (fun _ _ => ⟨rfl, e8, Nat.le_of_ble_eq_true rfl, Nat.le_of_ble_eq_true rfl⟩)
  dsimp only [Pt.U, Pt.locs, Pt.cells, Pt.slots] at X9 l9 y9 z9 st9 hQ9
  subst l9 y9 z9
  obtain ⟨rfl, N9q, ee9⟩ := hQ9
  have N10 := Fr.app N6 N9q
  refine og_tr st9 ?_
  show OG p e below _ _ (T9.setTop (mkF m 31 #[.val (.ref a0), .val (.ref a1)] [(.long x2), (.long x2)]))
  refine o_lcmp X9 hx rfl (hb hby own_d17_31) ?_
  have hk11 : x2 = x2 := rfl
  refine o_ifN (pc' := 35) X9 hx rfl (hb hby own_d17_32) (lcY_eq hk11).2 ?_
  refine o_aloadN X9 hx rfl (hb hby own_d17_35) rfl rfl ?_
  obtain ⟨T12, X12, e12, st12⟩ := getF X9 hx hZ hown (host := "") (Or.inl (hw _ (List.mem_of_getElem? (i := 86) rfl))) Via.refl ee9 pre11 (g := (mkF m 36 #[.val (.ref a0), .val (.ref a1)] [(.ref a0)])) rfl rfl (hb hby own_d17_36)
  refine og_of st12 ?_
  show OG p e below _ _ (T12.setTop (mkF m 39 #[.val (.ref a0), .val (.ref a1)] [(.int x3)]))
  refine o_aloadN X12 hx rfl (hb hby own_d17_39) rfl rfl ?_
  obtain ⟨cq13, kq13, q13a, q13b, q13c⟩ := isOf hZ e12 pre0
  obtain ⟨_, _, ⟨T13, L13, k13, n13⟩, -, X13, ⟨Lc13, hQ13, l13, y13, z13⟩, st13⟩ := X12.virtualBack hx (y := (⟨"com/example/nodeset/nodeset/StoredNode", "depth", "()I"⟩ : MethodName)) (z := (⟨"com/example/nodeset/nodeset/StoredNode", "depth", "()I"⟩ : MethodName)) hown (mvT hZ (hw _ (List.mem_of_getElem? (i := 81) rfl))) (mvT hZ (hw _ (List.mem_of_getElem? (i := 82) rfl))) (notFace_of_selects (args := #[]) (mvT hZ (hw _ (List.mem_of_getElem? (i := 84) rfl)))) (mvT hZ (hw _ (List.mem_of_getElem? (i := 84) rfl))) (mvT hZ (hw _ (List.mem_of_getElem? (i := 83) rfl))) (by decide) (backOf (W := 1) (own_rm11 l Z aA hw [] a1 x3 h0 n0 Z0 pre6) hZ (hw _ (List.mem_of_getElem? (i := 85) rfl)) (hw _ (List.mem_of_getElem? (i := 9) rfl)) (by decide) (by decide)) q13a q13c (g := (mkF m 40 #[.val (.ref a0), .val (.ref a1)] [(.ref a1), (.int x3)])) rfl (by rw [hml]; rfl) (Steps.refl _) (argsL := []) (rest := [(.int x3)]) (lenOf own_pd5 rfl) rfl (by show 2 * 0 + _ ≤ _; exact Nat.le_of_eq rfl) (hb hby own_d17_40) (fun _ _ => ⟨rfl, e12, Nat.le_of_ble_eq_true rfl, Nat.le_of_ble_eq_true rfl⟩)
  dsimp only [Pt.U, Pt.locs, Pt.cells, Pt.slots] at X13 l13 y13 z13 st13 hQ13
  subst l13 y13 z13
  obtain ⟨rfl, N13q, ee13⟩ := hQ13
  have N14 := Fr.app N10 N13q
  refine og_tr st13 ?_
  show OG p e below _ _ (T13.setTop (mkF m 43 #[.val (.ref a0), .val (.ref a1)] [(.int x3), (.int x3)]))
  have hk15 : x3 = x3 := rfl
  refine o_icmpN (pc' := 46) X13 hx rfl (hb hby own_d17_43) (teq hk15).2 ?_
  refine o_aloadN X13 hx rfl (hb hby own_d17_46) rfl rfl ?_
  obtain ⟨T16, X16, e16, st16⟩ := getF X13 hx hZ hown (host := "") (Or.inl (hw _ (List.mem_of_getElem? (i := 93) rfl))) Via.refl ee13 pre12 (g := (mkF m 47 #[.val (.ref a0), .val (.ref a1)] [(.ref a0)])) rfl rfl (hb hby own_d17_47)
  refine og_of st16 ?_
  show OG p e below _ _ (T16.setTop (mkF m 50 #[.val (.ref a0), .val (.ref a1)] [(.long x4)]))
  refine o_aloadN X16 hx rfl (hb hby own_d17_50) rfl rfl ?_
  obtain ⟨cq17, kq17, q17a, q17b, q17c⟩ := isOf hZ e16 pre0
  obtain ⟨_, _, ⟨T17, L17, k17, n17⟩, -, X17, ⟨Lc17, hQ17, l17, y17, z17⟩, st17⟩ := X16.virtualBack hx (y := (⟨"com/example/nodeset/nodeset/StoredNode", "textPlace", "()J"⟩ : MethodName)) (z := (⟨"com/example/nodeset/nodeset/StoredNode", "textPlace", "()J"⟩ : MethodName)) hown (mvT hZ (hw _ (List.mem_of_getElem? (i := 88) rfl))) (mvT hZ (hw _ (List.mem_of_getElem? (i := 89) rfl))) (notFace_of_selects (args := #[]) (mvT hZ (hw _ (List.mem_of_getElem? (i := 91) rfl)))) (mvT hZ (hw _ (List.mem_of_getElem? (i := 91) rfl))) (mvT hZ (hw _ (List.mem_of_getElem? (i := 90) rfl))) (by decide) (backOf (W := 2) (own_rm12 l Z aA hw [] a1 x4 h0 n0 Z0 pre7) hZ (hw _ (List.mem_of_getElem? (i := 92) rfl)) (hw _ (List.mem_of_getElem? (i := 9) rfl)) (by decide) (by decide)) q17a q17c (g := (mkF m 51 #[.val (.ref a0), .val (.ref a1)] [(.ref a1), (.long x4)])) rfl (by rw [hml]; rfl) (Steps.refl _) (argsL := []) (rest := [(.long x4)]) (lenOf own_pd4 rfl) rfl (by show 2 * 0 + _ ≤ _; exact Nat.le_of_eq rfl) (hb hby own_d17_51) (fun _ _ => ⟨rfl, e16, Nat.le_of_ble_eq_true rfl, Nat.le_of_ble_eq_true rfl⟩)
  dsimp only [Pt.U, Pt.locs, Pt.cells, Pt.slots] at X17 l17 y17 z17 st17 hQ17
  subst l17 y17 z17
  obtain ⟨rfl, N17q, ee17⟩ := hQ17
  have N18 := Fr.app N14 N17q
  refine og_tr st17 ?_
  show OG p e below _ _ (T17.setTop (mkF m 54 #[.val (.ref a0), .val (.ref a1)] [(.long x4), (.long x4)]))
  refine o_lcmp X17 hx rfl (hb hby own_d17_54) ?_
  have hk19 : x4 = x4 := rfl
  refine o_ifN (pc' := 58) X17 hx rfl (hb hby own_d17_55) (lcY_eq hk19).2 ?_
  refine o_iconst (z := (1 : Int32)) X17 hx rfl (hb hby own_d17_58) (by decide) ?_
  refine o_goto (pc' := 63) X17 hx (hb hby own_d17_59) (by decide) (by decide) ?_
  exact o_retB X17 hx Bd.returns (own_lv X17 hlk (by decide) (by decide)) (hb hby own_d17_63) (by decide) ⟨rfl, N18, ee17⟩
theorem own_num01 (p : Int32) (t0 t1 t2 kp k0 k1 k2 : Addr) : own_f1_num p t0 t1 t2 kp k0 k1 k2 = (if p = (1 : Int32) then (1 : Int32) else (0 : Int32)) := by
  unfold own_f1_num
  by_cases h0 : p = (0 : Int32)
  · subst h0; decide
  · by_cases h1 : p = (1 : Int32)
    · subst h1; decide
    · simp [h0, h1]
theorem own_b01 (p : Int32) (t0 t1 t2 kp k0 k1 k2 : Addr) : own_f1_num p t0 t1 t2 kp k0 k1 k2 = 0 ∨ own_f1_num p t0 t1 t2 kp k0 k1 k2 = 1 := by
  rw [own_num01]; split
  · exact Or.inr rfl
  · exact Or.inl rfl
theorem own_pd8 : parseMethodDescriptor "(I)Lcom/example/nodeset/nodeset/NodeName;" = some ⟨[.int], some (.object "com/example/nodeset/nodeset/NodeName")⟩ := by decide +kernel
theorem own_pd9 : parseMethodDescriptor "(Lcom/example/nodeset/nodeset/NodeName;IJJIJJJJ)V" = some ⟨[(.object "com/example/nodeset/nodeset/NodeName"), .int, .long, .long, .int, .long, .long, .long, .long], none⟩ := by decide +kernel
theorem own_pd10 : parseMethodDescriptor "(Lcom/example/nodeset/nodeset/StoredNode;)V" = some ⟨[(.object "com/example/nodeset/nodeset/StoredNode")], none⟩ := by decide +kernel
theorem own_pd11 : parseMethodDescriptor "(Lcom/example/nodeset/nodeset/MutableLabel;Lcom/example/nodeset/nodeset/NodeName;ZJJIJ)Z" = some ⟨[(.object "com/example/nodeset/nodeset/MutableLabel"), (.object "com/example/nodeset/nodeset/NodeName"), .boolean, .long, .long, .int, .long], some .boolean⟩ := by decide +kernel
theorem own_pd12 : parseMethodDescriptor "(Lcom/example/nodeset/nodeset/StoredNode;)Z" = some ⟨[(.object "com/example/nodeset/nodeset/StoredNode")], some .boolean⟩ := by decide +kernel
theorem own_ef0 (m : MethodId) (p0 : Int32) (q1 : Int64) (q2 : Int64) (p3 : Int32) (q4 : Int64) (q5 : Int64) : entryFrame m #[(.int p0), (.long q1), (.long q2), (.int p3), (.long q4), (.long q5)] maxLocals = mkF m 0 #[.val (.int p0), .val (.long q1), .second, .val (.long q2), .second, .val (.int p3), .val (.long q4), .second, .val (.long q5), .second, .unset, .unset, .unset, .unset, .unset, .unset, .unset, .unset, .unset] [] := by first | (simp [entryFrame, mkF, argsToLocals, Value.category, maxLocals]; done) | rfl
def own_Q0 (Z : State) (p0 : Int32) (q1 : Int64) (q2 : Int64) (p3 : Int32) (q4 : Int64) (q5 : Int64) (t0 : Addr) (t1 : Addr) (t2 : Addr) (kp : Addr) (k0 : Addr) (k1 : Addr) (k2 : Addr) (h0 : Heap) (n0 : Nat) (v : Option Value) (h : Heap) (L : List Loc) : Prop := v = some (.int (1 : Int32)) ∧ Fr n0 L
set_option maxRecDepth 65536 in
set_option maxHeartbeats 40000000 in
theorem own_rm0 (l : Launch) (Z : State) (aA : Array Value) (hw : ∀ d ∈ tables_1, d.before aA Z = true) (ws : List Jvm.Cond) (p0 : Int32) (q1 : Int64) (q2 : Int64) (p3 : Int32) (q4 : Int64) (q5 : Int64) (t0 : Addr) (t1 : Addr) (t2 : Addr) (kp : Addr) (k0 : Addr) (k1 : Addr) (k2 : Addr) (h0 : Heap) (n0 : Nat) (Z0 : n0 ≤ h0.size) (pre0 : Sta Z h0 "com/example/nodeset/nodeset/NodeName" "TEXT" "Lcom/example/nodeset/nodeset/NodeName;" (.ref t0)) (pre1 : Sta Z h0 "com/example/nodeset/nodeset/NodeName" "DOCUMENT" "Lcom/example/nodeset/nodeset/NodeName;" (.ref t1)) (pre2 : Sta Z h0 "com/example/nodeset/nodeset/NodeName" "COMMENT" "Lcom/example/nodeset/nodeset/NodeName;" (.ref t2)) (pre3 : Sta Z h0 "com/example/nodeset/nodeset/NodeKind" "PROCESSING_INSTRUCTION" "Lcom/example/nodeset/nodeset/NodeKind;" (.ref kp)) (pre4 : Exa Z h0 t0 "com/example/nodeset/nodeset/NodeName") (pre5 : Exa Z h0 t1 "com/example/nodeset/nodeset/NodeName") (pre6 : Exa Z h0 t2 "com/example/nodeset/nodeset/NodeName") (pre7 : Fld Z h0 t0 "com/example/nodeset/nodeset/NodeName" "kind" "Lcom/example/nodeset/nodeset/NodeKind;" (.ref k0)) (pre8 : Fld Z h0 t1 "com/example/nodeset/nodeset/NodeName" "kind" "Lcom/example/nodeset/nodeset/NodeKind;" (.ref k1)) (pre9 : Fld Z h0 t2 "com/example/nodeset/nodeset/NodeName" "kind" "Lcom/example/nodeset/nodeset/NodeKind;" (.ref k2)) (pre10 : Exa Z h0 k0 "com/example/nodeset/nodeset/NodeKind") (pre11 : Exa Z h0 k1 "com/example/nodeset/nodeset/NodeKind") (pre12 : Exa Z h0 k2 "com/example/nodeset/nodeset/NodeKind") (pre13 : Exa Z h0 kp "com/example/nodeset/nodeset/NodeKind") (pre14 : Fld Z h0 k0 "com/example/nodeset/nodeset/NodeKind" "numbered" "Z" (.int (0 : Int32))) (pre15 : Fld Z h0 k1 "com/example/nodeset/nodeset/NodeKind" "numbered" "Z" (.int (1 : Int32))) (pre16 : Fld Z h0 k2 "com/example/nodeset/nodeset/NodeKind" "numbered" "Z" (.int (0 : Int32))) (pre17 : Fld Z h0 kp "com/example/nodeset/nodeset/NodeKind" "numbered" "Z" (.int (0 : Int32))) :
    MetFree l x (head1 (Jvm.Cond.code x code maxLocals ret :: ws) room_1) (fun a U => a = #[(.int p0), (.long q1), (.long q2), (.int p3), (.long q4), (.long q5)] ∧ Z.Warmed39 U.vm ∧ U.heap = h0) (fun _ _ _ _ _ => True) (fun _ U o U' => ∃ v L, o = .returned v ∧ own_Q0 Z p0 q1 q2 p3 q4 q5 t0 t1 t2 kp k0 k1 k2 h0 n0 v U'.heap L ∧ ReturnedEndW U o U' L room_1.cells room_1.slots) := by
  refine MetFree.of_bodySF (plainFor_of_name own_pn45) hisR ?_
  intro p e s m args below meth c s₁ Bd hml0 hP hK
  obtain ⟨rfl, hZ, hh⟩ := hP
  have hx := Bd.exec
  have hby := Bd.bytes
  have hlk : meth.locks = false := Bd.notSynchronized
  have hml : c.maxLocals = 19 := hml0
  have hown : s.vm.findClass "com/example/nodeset/nodeset/MutableLabelSetPinLaw" = some m.cls := findClass_of_methodNamed Bd.named
  have hnm := (name_of_methodNamed Bd.named Bd.method).1
  have X0 : Stand p l e room_1 s m #[(.int p0), (.long q1), (.long q2), (.int p3), (.long q4), (.long q5)] below meth c s₁ [] 0 0 := Stand.of_body Bd
  have e0 : s₁.heap = h0 := by rw [← hh, Bd.state]; rfl
  have N0 := Fr.nil n0
  replace X0 : Stand p l e room_1 (s.setVm s.vm) m #[(.int p0), (.long q1), (.long q2), (.int p3), (.long q4), (.long q5)] below meth c s₁ [] 0 0 := X0
  replace hZ : Z.Warmed39 (s.setVm s.vm).vm := hZ
  replace hown : (s.setVm s.vm).vm.findClass "com/example/nodeset/nodeset/MutableLabelSetPinLaw" = some m.cls := hown
  have hS0 : s.Since s.vm h0.size := (State.WarmedH.refl s).since _
  show OG p e below (FEW s room_1.cells room_1.slots) (own_Q0 Z p0 q1 q2 p3 q4 q5 t0 t1 t2 kp k0 k1 k2 h0 n0) (s₁.setTop (entryFrame m #[(.int p0), (.long q1), (.long q2), (.int p3), (.long q4), (.long q5)] maxLocals))
  refine og_of (fun _ k => castTop (own_ef0 m p0 q1 q2 p3 q4 q5) k) ?_
  refine o_iloadN X0 hx rfl (hb hby at_0) rfl ?_
  refine o_iconst (z := (3 : Int32)) X0 hx rfl (hb hby at_1) (by decide) ?_
  obtain ⟨z1, hz1⟩ : ∃ z : Int32, p0 &&& (3 : Int32) = z := ⟨_, rfl⟩
  refine o_iand (z := z1) X0 hx rfl (hb hby at_2) hz1 ?_
  refine o_istore X0 hx rfl (hb hby at_3) (L' := #[.val (.int p0), .val (.long q1), .second, .val (.long q2), .second, .val (.int p3), .val (.long q4), .second, .val (.long q5), .second, .val (.int z1), .unset, .unset, .unset, .unset, .unset, .unset, .unset, .unset]) rfl ?_
  refine o_iloadN X0 hx rfl (hb hby at_5) rfl ?_
  refine o_iconst (z := (2 : Int32)) X0 hx rfl (hb hby at_6) (by decide) ?_
  obtain ⟨z2, hz2⟩ : ∃ z : Int32, (p0.toUInt32 >>> ((2 : Int32) &&& 31).toUInt32).toInt32 = z := ⟨_, rfl⟩
  refine o_iushr (z := z2) X0 hx rfl (hb hby at_7) hz2 ?_
  refine o_iconst (z := (3 : Int32)) X0 hx rfl (hb hby at_8) (by decide) ?_
  obtain ⟨z3, hz3⟩ : ∃ z : Int32, z2 &&& (3 : Int32) = z := ⟨_, rfl⟩
  refine o_iand (z := z3) X0 hx rfl (hb hby at_9) hz3 ?_
  refine o_istore X0 hx rfl (hb hby at_10) (L' := #[.val (.int p0), .val (.long q1), .second, .val (.long q2), .second, .val (.int p3), .val (.long q4), .second, .val (.long q5), .second, .val (.int z1), .val (.int z3), .unset, .unset, .unset, .unset, .unset, .unset, .unset]) rfl ?_
  refine o_iload X0 hx rfl (hb hby at_12) rfl ?_
  obtain ⟨_, _, ⟨T4, L4, k4, n4⟩, -, X4, hS4', hg4', ⟨Lc4, hQ4, l4, y4, z4⟩, st4⟩ := callSS X0 hx (y := (⟨"com/example/nodeset/nodeset/MutableLabelSetPinLaw", "name", "(I)Lcom/example/nodeset/nodeset/NodeName;"⟩ : MethodName)) hown (mvT hZ (hw _ (List.mem_of_getElem? (i := 0) rfl))) (mvT hZ (hw _ (List.mem_of_getElem? (i := 1) rfl))) (mvT hZ (hw _ (List.mem_of_getElem? (i := 2) rfl))) (mvT hZ (hw _ (List.mem_of_getElem? (i := 3) rfl))) (by decide) (backOfS (W := 0) (own_rm1 l Z aA hw [] z1 t0 t1 t2 kp k0 k1 k2 h0 n0 Z0 pre0 pre1 pre2 pre3 pre4 pre5 pre6 pre7 pre8 pre9 pre10 pre11 pre12 pre13 pre14 pre15 pre16 pre17) hZ (hw _ (List.mem_of_getElem? (i := 3) rfl)) (hw _ (List.mem_of_getElem? (i := 2) rfl)) (by decide) (by decide)) (g := (mkF m 14 #[.val (.int p0), .val (.long q1), .second, .val (.long q2), .second, .val (.int p3), .val (.long q4), .second, .val (.long q5), .second, .val (.int z1), .val (.int z3), .unset, .unset, .unset, .unset, .unset, .unset, .unset] [(.int z1)])) rfl (by rw [hml]; rfl) (argsL := [(.int z1)]) (rest := []) (lenOf own_pd8 rfl) rfl (by show 2 * 0 + _ ≤ _; exact Nat.le_of_eq rfl) (hb hby at_14) (fun _ _ => ⟨rfl, e0, Nat.le_of_ble_eq_true rfl, Nat.le_of_ble_eq_true rfl⟩)
  dsimp only [Pt.U, Pt.locs, Pt.cells, Pt.slots] at X4 l4 y4 z4 st4 hQ4 hS4' hg4'
  subst l4 y4 z4
  obtain ⟨X4, hS4, hZ, hown⟩ := rebS hS0 (Nat.le_trans (Nat.le_refl h0.size) (Nat.le_of_eq (congrArg Array.size e0.symm))) X4 hS4' hg4' hZ hown
  obtain ⟨b4_0, b4_1, rfl, N4q, K4, f4_0, f4_1, f4_2, f4_3⟩ := hQ4
  have N5 := Fr.app N0 N4q
  have Kp6 : Keep h0 T4.heap [] := (Keep.refl h0 []).trans K4 all0
  refine og_tr st4 ?_
  show OG p e below _ _ (T4.setTop (mkF m 17 #[.val (.int p0), .val (.long q1), .second, .val (.long q2), .second, .val (.int p3), .val (.long q4), .second, .val (.long q5), .second, .val (.int z1), .val (.int z3), .unset, .unset, .unset, .unset, .unset, .unset, .unset] [(.ref b4_0)]))
  refine o_astore X4 hx rfl (hb hby at_17) rfl (L' := #[.val (.int p0), .val (.long q1), .second, .val (.long q2), .second, .val (.int p3), .val (.long q4), .second, .val (.long q5), .second, .val (.int z1), .val (.int z3), .val (.ref b4_0), .unset, .unset, .unset, .unset, .unset, .unset]) rfl ?_
  refine o_iload X4 hx rfl (hb hby at_19) rfl ?_
  have Fc8 : Sta Z T4.heap "com/example/nodeset/nodeset/NodeName" "TEXT" "Lcom/example/nodeset/nodeset/NodeName;" (.ref t0) := (own_staK pre0 Kp6)
  have Fc9 : Sta Z T4.heap "com/example/nodeset/nodeset/NodeName" "DOCUMENT" "Lcom/example/nodeset/nodeset/NodeName;" (.ref t1) := (own_staK pre1 Kp6)
  have Fc10 : Sta Z T4.heap "com/example/nodeset/nodeset/NodeName" "COMMENT" "Lcom/example/nodeset/nodeset/NodeName;" (.ref t2) := (own_staK pre2 Kp6)
  have Fc11 : Sta Z T4.heap "com/example/nodeset/nodeset/NodeKind" "PROCESSING_INSTRUCTION" "Lcom/example/nodeset/nodeset/NodeKind;" (.ref kp) := (own_staK pre3 Kp6)
  have Fc12 : Exa Z T4.heap t0 "com/example/nodeset/nodeset/NodeName" := (pre4.keep K4)
  have Fc13 : Exa Z T4.heap t1 "com/example/nodeset/nodeset/NodeName" := (pre5.keep K4)
  have Fc14 : Exa Z T4.heap t2 "com/example/nodeset/nodeset/NodeName" := (pre6.keep K4)
  have Fc15 : Fld Z T4.heap t0 "com/example/nodeset/nodeset/NodeName" "kind" "Lcom/example/nodeset/nodeset/NodeKind;" (.ref k0) := (pre7.keep K4 nin0)
  have Fc16 : Fld Z T4.heap t1 "com/example/nodeset/nodeset/NodeName" "kind" "Lcom/example/nodeset/nodeset/NodeKind;" (.ref k1) := (pre8.keep K4 nin0)
  have Fc17 : Fld Z T4.heap t2 "com/example/nodeset/nodeset/NodeName" "kind" "Lcom/example/nodeset/nodeset/NodeKind;" (.ref k2) := (pre9.keep K4 nin0)
  have Fc18 : Exa Z T4.heap k0 "com/example/nodeset/nodeset/NodeKind" := (pre10.keep K4)
  have Fc19 : Exa Z T4.heap k1 "com/example/nodeset/nodeset/NodeKind" := (pre11.keep K4)
  have Fc20 : Exa Z T4.heap k2 "com/example/nodeset/nodeset/NodeKind" := (pre12.keep K4)
  have Fc21 : Exa Z T4.heap kp "com/example/nodeset/nodeset/NodeKind" := (pre13.keep K4)
  have Fc22 : Fld Z T4.heap k0 "com/example/nodeset/nodeset/NodeKind" "numbered" "Z" (.int (0 : Int32)) := (pre14.keep K4 nin0)
  have Fc23 : Fld Z T4.heap k1 "com/example/nodeset/nodeset/NodeKind" "numbered" "Z" (.int (1 : Int32)) := (pre15.keep K4 nin0)
  have Fc24 : Fld Z T4.heap k2 "com/example/nodeset/nodeset/NodeKind" "numbered" "Z" (.int (0 : Int32)) := (pre16.keep K4 nin0)
  have Fc25 : Fld Z T4.heap kp "com/example/nodeset/nodeset/NodeKind" "numbered" "Z" (.int (0 : Int32)) := (pre17.keep K4 nin0)
  obtain ⟨_, _, ⟨T7, L7, k7, n7⟩, -, X7, hS7', hg7', ⟨Lc7, hQ7, l7, y7, z7⟩, st7⟩ := callSS X4 hx (y := (⟨"com/example/nodeset/nodeset/MutableLabelSetPinLaw", "name", "(I)Lcom/example/nodeset/nodeset/NodeName;"⟩ : MethodName)) hown (mvT hZ (hw _ (List.mem_of_getElem? (i := 0) rfl))) (mvT hZ (hw _ (List.mem_of_getElem? (i := 1) rfl))) (mvT hZ (hw _ (List.mem_of_getElem? (i := 2) rfl))) (mvT hZ (hw _ (List.mem_of_getElem? (i := 3) rfl))) (by decide) (backOfS (W := 0) (own_rm1 l Z aA hw [] z3 t0 t1 t2 kp k0 k1 k2 T4.heap n0 (Nat.le_trans Z0 K4.1) Fc8 Fc9 Fc10 Fc11 Fc12 Fc13 Fc14 Fc15 Fc16 Fc17 Fc18 Fc19 Fc20 Fc21 Fc22 Fc23 Fc24 Fc25) hZ (hw _ (List.mem_of_getElem? (i := 3) rfl)) (hw _ (List.mem_of_getElem? (i := 2) rfl)) (by decide) (by decide)) (g := (mkF m 21 #[.val (.int p0), .val (.long q1), .second, .val (.long q2), .second, .val (.int p3), .val (.long q4), .second, .val (.long q5), .second, .val (.int z1), .val (.int z3), .val (.ref b4_0), .unset, .unset, .unset, .unset, .unset, .unset] [(.int z3)])) rfl (by rw [hml]; rfl) (argsL := [(.int z3)]) (rest := []) (lenOf own_pd8 rfl) rfl (by show 2 * 0 + _ ≤ _; exact Nat.le_of_eq rfl) (hb hby at_21) (fun _ _ => ⟨rfl, rfl, Nat.le_of_ble_eq_true rfl, Nat.le_of_ble_eq_true rfl⟩)
  dsimp only [Pt.U, Pt.locs, Pt.cells, Pt.slots] at X7 l7 y7 z7 st7 hQ7 hS7' hg7'
  subst l7 y7 z7
  obtain ⟨X7, hS7, hZ, hown⟩ := rebS hS4 (Nat.le_trans (Nat.le_refl _) (Nat.le_of_eq rfl)) X7 hS7' hg7' hZ hown
  obtain ⟨b7_0, b7_1, rfl, N7q, K7, f7_0, f7_1, f7_2, f7_3⟩ := hQ7
  have N26 := Fr.app N5 N7q
  have Kp27 : Keep h0 T7.heap [] := Kp6.trans K7 all0
  refine og_tr st7 ?_
  show OG p e below _ _ (T7.setTop (mkF m 24 #[.val (.int p0), .val (.long q1), .second, .val (.long q2), .second, .val (.int p3), .val (.long q4), .second, .val (.long q5), .second, .val (.int z1), .val (.int z3), .val (.ref b4_0), .unset, .unset, .unset, .unset, .unset, .unset] [(.ref b7_0)]))
  refine o_astore X7 hx rfl (hb hby at_24) rfl (L' := #[.val (.int p0), .val (.long q1), .second, .val (.long q2), .second, .val (.int p3), .val (.long q4), .second, .val (.long q5), .second, .val (.int z1), .val (.int z3), .val (.ref b4_0), .val (.ref b7_0), .unset, .unset, .unset, .unset, .unset]) rfl ?_
  obtain ⟨T28, h28, X28, e28, E28, A28, D28, -, st28⟩ := newO X7 hx hZ hown (hw _ (List.mem_of_getElem? (i := 7) rfl)) (hw _ (List.mem_of_getElem? (i := 8) rfl)) (hw _ (List.mem_of_getElem? (i := 9) rfl)) rfl (g := (mkF m 26 #[.val (.int p0), .val (.long q1), .second, .val (.long q2), .second, .val (.int p3), .val (.long q4), .second, .val (.long q5), .second, .val (.int z1), .val (.int z3), .val (.ref b4_0), .val (.ref b7_0), .unset, .unset, .unset, .unset, .unset] [])) rfl (hb hby at_26) (by decide) (by decide)
  obtain ⟨b28, g28⟩ : ∃ z, z = T7.heap.size := ⟨_, rfl⟩
  rw [← g28] at A28 D28 st28
  have Fc29 : Exa Z T7.heap t0 "com/example/nodeset/nodeset/NodeName" := (Fc12.keep K7)
  have ne30 : t0 ≠ b28 := Nat.ne_of_lt (Nat.lt_of_lt_of_le Fc29.lt (Nat.le_of_eq g28.symm))
  have Fc31 : Exa Z T7.heap t1 "com/example/nodeset/nodeset/NodeName" := (Fc13.keep K7)
  have ne32 : t1 ≠ b28 := Nat.ne_of_lt (Nat.lt_of_lt_of_le Fc31.lt (Nat.le_of_eq g28.symm))
  have Fc33 : Exa Z T7.heap t2 "com/example/nodeset/nodeset/NodeName" := (Fc14.keep K7)
  have ne34 : t2 ≠ b28 := Nat.ne_of_lt (Nat.lt_of_lt_of_le Fc33.lt (Nat.le_of_eq g28.symm))
  have Fc35 : Exa Z T7.heap k0 "com/example/nodeset/nodeset/NodeKind" := (Fc18.keep K7)
  have ne36 : k0 ≠ b28 := Nat.ne_of_lt (Nat.lt_of_lt_of_le Fc35.lt (Nat.le_of_eq g28.symm))
  have Fc37 : Exa Z T7.heap k1 "com/example/nodeset/nodeset/NodeKind" := (Fc19.keep K7)
  have ne38 : k1 ≠ b28 := Nat.ne_of_lt (Nat.lt_of_lt_of_le Fc37.lt (Nat.le_of_eq g28.symm))
  have Fc39 : Exa Z T7.heap k2 "com/example/nodeset/nodeset/NodeKind" := (Fc20.keep K7)
  have ne40 : k2 ≠ b28 := Nat.ne_of_lt (Nat.lt_of_lt_of_le Fc39.lt (Nat.le_of_eq g28.symm))
  have Fc41 : Exa Z T7.heap kp "com/example/nodeset/nodeset/NodeKind" := (Fc21.keep K7)
  have ne42 : kp ≠ b28 := Nat.ne_of_lt (Nat.lt_of_lt_of_le Fc41.lt (Nat.le_of_eq g28.symm))
  have Fc43 : Exa Z T7.heap b4_0 "com/example/nodeset/nodeset/NodeName" := (f4_0.keep K7)
  have ne44 : b4_0 ≠ b28 := Nat.ne_of_lt (Nat.lt_of_lt_of_le Fc43.lt (Nat.le_of_eq g28.symm))
  have Fc45 : Exa Z T7.heap b4_1 "com/example/nodeset/nodeset/NodeKind" := (f4_2.keep K7)
  have ne46 : b4_1 ≠ b28 := Nat.ne_of_lt (Nat.lt_of_lt_of_le Fc45.lt (Nat.le_of_eq g28.symm))
  have ne47 : b7_0 ≠ b28 := Nat.ne_of_lt (Nat.lt_of_lt_of_le f7_0.lt (Nat.le_of_eq g28.symm))
  have ne48 : b7_1 ≠ b28 := Nat.ne_of_lt (Nat.lt_of_lt_of_le f7_2.lt (Nat.le_of_eq g28.symm))
  have gn28 : n0 ≤ b28 := Nat.le_trans (Nat.le_trans (Nat.le_trans Z0 K4.1) K7.1) (Nat.le_of_eq g28.symm)
  have sz28 : h0.size ≤ b28 := Nat.le_trans Kp27.1 (Nat.le_of_eq g28.symm)
  have Kp49 : Keep h0 h28 [] := Kp27.ext E28
  have F28_22 : Fld Z h28 b28 "com/example/nodeset/nodeset/StoredNode" "name" "Lcom/example/nodeset/nodeset/NodeName;" .null := D28 (Or.inr (hw _ (List.mem_of_getElem? (i := 22) rfl))) (ty := (.object "com/example/nodeset/nodeset/NodeName")) (by decide)
  have F28_24 : Fld Z h28 b28 "com/example/nodeset/nodeset/StoredNode" "document" "I" (.int (0 : Int32)) := D28 (Or.inr (hw _ (List.mem_of_getElem? (i := 24) rfl))) (ty := .int) (by decide)
  have F28_26 : Fld Z h28 b28 "com/example/nodeset/nodeset/StoredNode" "start" "J" (.long (0 : Int64)) := D28 (Or.inr (hw _ (List.mem_of_getElem? (i := 26) rfl))) (ty := .long) (by decide)
  have F28_28 : Fld Z h28 b28 "com/example/nodeset/nodeset/StoredNode" "end" "J" (.long (0 : Int64)) := D28 (Or.inr (hw _ (List.mem_of_getElem? (i := 28) rfl))) (ty := .long) (by decide)
  have F28_30 : Fld Z h28 b28 "com/example/nodeset/nodeset/StoredNode" "depth" "I" (.int (0 : Int32)) := D28 (Or.inr (hw _ (List.mem_of_getElem? (i := 30) rfl))) (ty := .int) (by decide)
  have F28_32 : Fld Z h28 b28 "com/example/nodeset/nodeset/StoredNode" "textPlace" "J" (.long (0 : Int64)) := D28 (Or.inr (hw _ (List.mem_of_getElem? (i := 32) rfl))) (ty := .long) (by decide)
  have F28_34 : Fld Z h28 b28 "com/example/nodeset/nodeset/StoredNode" "valueFrom" "J" (.long (0 : Int64)) := D28 (Or.inr (hw _ (List.mem_of_getElem? (i := 34) rfl))) (ty := .long) (by decide)
  have F28_36 : Fld Z h28 b28 "com/example/nodeset/nodeset/StoredNode" "valueTo" "J" (.long (0 : Int64)) := D28 (Or.inr (hw _ (List.mem_of_getElem? (i := 36) rfl))) (ty := .long) (by decide)
  have F28_38 : Fld Z h28 b28 "com/example/nodeset/nodeset/StoredNode" "record" "J" (.long (0 : Int64)) := D28 (Or.inr (hw _ (List.mem_of_getElem? (i := 38) rfl))) (ty := .long) (by decide)
  refine og_of st28 ?_
  show OG p e below _ _ (T28.setTop (mkF m 29 #[.val (.int p0), .val (.long q1), .second, .val (.long q2), .second, .val (.int p3), .val (.long q4), .second, .val (.long q5), .second, .val (.int z1), .val (.int z3), .val (.ref b4_0), .val (.ref b7_0), .unset, .unset, .unset, .unset, .unset] [(.ref b28)]))
  refine o_dup X28 hx rfl (hb hby at_29) rfl ?_
  refine o_aload X28 hx rfl (hb hby at_30) rfl rfl ?_
  refine o_iloadN X28 hx rfl (hb hby at_32) rfl ?_
  refine o_lloadN X28 hx rfl (hb hby at_33) rfl ?_
  refine o_lloadN X28 hx rfl (hb hby at_34) rfl ?_
  refine o_iload X28 hx rfl (hb hby at_35) rfl ?_
  refine o_lload X28 hx rfl (hb hby at_37) rfl ?_
  refine o_lload X28 hx rfl (hb hby at_39) rfl ?_
  refine o_lloadN X28 hx rfl (hb hby at_41) rfl ?_
  refine o_lloadN X28 hx rfl (hb hby at_42) rfl ?_
  obtain ⟨_, _, ⟨T50, L50, k50, n50⟩, -, X50, ⟨Lc50, hQ50, l50, y50, z50⟩, st50⟩ := X28.specialBack hx (y := (⟨"com/example/nodeset/nodeset/StoredNode", "<init>", "(Lcom/example/nodeset/nodeset/NodeName;IJJIJJJJ)V"⟩ : MethodName)) rfl hown (mvT hZ (hw _ (List.mem_of_getElem? (i := 10) rfl))) (mvT hZ (hw _ (List.mem_of_getElem? (i := 11) rfl))) (mvT hZ (hw _ (List.mem_of_getElem? (i := 12) rfl))) (by decide) (backOf (W := 1) (own_rm2 l Z aA hw [] b28 b4_0 p0 q1 q2 p3 q4 q5 q2 q1 h28 n0 (Nat.le_trans (Nat.le_trans (Nat.le_trans Z0 K4.1) K7.1) E28.1) A28 gn28 F28_22 F28_24 F28_26 F28_28 F28_30 F28_32 F28_34 F28_36 F28_38) hZ (hw _ (List.mem_of_getElem? (i := 12) rfl)) (hw _ (List.mem_of_getElem? (i := 9) rfl)) (by decide) (by decide)) (g := (mkF m 43 #[.val (.int p0), .val (.long q1), .second, .val (.long q2), .second, .val (.int p3), .val (.long q4), .second, .val (.long q5), .second, .val (.int z1), .val (.int z3), .val (.ref b4_0), .val (.ref b7_0), .unset, .unset, .unset, .unset, .unset] [(.long q1), (.long q2), (.long q5), (.long q4), (.int p3), (.long q2), (.long q1), (.int p0), (.ref b4_0), (.ref b28), (.ref b28)])) rfl (by rw [hml]; rfl) (Steps.refl _) (a := b28) (argsL := [(.ref b4_0), (.int p0), (.long q1), (.long q2), (.int p3), (.long q4), (.long q5), (.long q2), (.long q1)]) (rest := [(.ref b28)]) (lenOf own_pd9 rfl) rfl (by show 2 * 0 + _ ≤ _; exact Nat.le_of_eq rfl) (hb hby at_43) (fun _ _ => ⟨rfl, e28, Nat.le_of_ble_eq_true rfl, Nat.le_of_ble_eq_true rfl⟩)
  dsimp only [Pt.U, Pt.locs, Pt.cells, Pt.slots] at X50 l50 y50 z50 st50 hQ50
  subst l50 y50 z50
  obtain ⟨rfl, N50q, K50, f50_0, f50_1, f50_2, f50_3, f50_4, f50_5, f50_6, f50_7, f50_8⟩ := hQ50
  have N51 := Fr.app N26 N50q
  have Kp52 : Keep h0 T50.heap [] := Kp49.trans K50 (allS (Or.inr sz28) all0)
  refine og_tr st50 ?_
  show OG p e below _ _ (T50.setTop (mkF m 46 #[.val (.int p0), .val (.long q1), .second, .val (.long q2), .second, .val (.int p3), .val (.long q4), .second, .val (.long q5), .second, .val (.int z1), .val (.int z3), .val (.ref b4_0), .val (.ref b7_0), .unset, .unset, .unset, .unset, .unset] [(.ref b28)]))
  refine o_astore X50 hx rfl (hb hby at_46) rfl (L' := #[.val (.int p0), .val (.long q1), .second, .val (.long q2), .second, .val (.int p3), .val (.long q4), .second, .val (.long q5), .second, .val (.int z1), .val (.int z3), .val (.ref b4_0), .val (.ref b7_0), .val (.ref b28), .unset, .unset, .unset, .unset]) rfl ?_
  obtain ⟨T53, h53, X53, e53, E53, A53, D53, -, st53⟩ := newO X50 hx hZ hown (hw _ (List.mem_of_getElem? (i := 7) rfl)) (hw _ (List.mem_of_getElem? (i := 8) rfl)) (hw _ (List.mem_of_getElem? (i := 9) rfl)) rfl (g := (mkF m 48 #[.val (.int p0), .val (.long q1), .second, .val (.long q2), .second, .val (.int p3), .val (.long q4), .second, .val (.long q5), .second, .val (.int z1), .val (.int z3), .val (.ref b4_0), .val (.ref b7_0), .val (.ref b28), .unset, .unset, .unset, .unset] [])) rfl (hb hby at_48) (by decide) (by decide)
  obtain ⟨b53, g53⟩ : ∃ z, z = T50.heap.size := ⟨_, rfl⟩
  rw [← g53] at A53 D53 st53
  have Fc54 : Exa Z T50.heap t0 "com/example/nodeset/nodeset/NodeName" := ((Exa.ext E28 Fc29).keep K50)
  have ne55 : t0 ≠ b53 := Nat.ne_of_lt (Nat.lt_of_lt_of_le Fc54.lt (Nat.le_of_eq g53.symm))
  have Fc56 : Exa Z T50.heap t1 "com/example/nodeset/nodeset/NodeName" := ((Exa.ext E28 Fc31).keep K50)
  have ne57 : t1 ≠ b53 := Nat.ne_of_lt (Nat.lt_of_lt_of_le Fc56.lt (Nat.le_of_eq g53.symm))
  have Fc58 : Exa Z T50.heap t2 "com/example/nodeset/nodeset/NodeName" := ((Exa.ext E28 Fc33).keep K50)
  have ne59 : t2 ≠ b53 := Nat.ne_of_lt (Nat.lt_of_lt_of_le Fc58.lt (Nat.le_of_eq g53.symm))
  have Fc60 : Exa Z T50.heap k0 "com/example/nodeset/nodeset/NodeKind" := ((Exa.ext E28 Fc35).keep K50)
  have ne61 : k0 ≠ b53 := Nat.ne_of_lt (Nat.lt_of_lt_of_le Fc60.lt (Nat.le_of_eq g53.symm))
  have Fc62 : Exa Z T50.heap k1 "com/example/nodeset/nodeset/NodeKind" := ((Exa.ext E28 Fc37).keep K50)
  have ne63 : k1 ≠ b53 := Nat.ne_of_lt (Nat.lt_of_lt_of_le Fc62.lt (Nat.le_of_eq g53.symm))
  have Fc64 : Exa Z T50.heap k2 "com/example/nodeset/nodeset/NodeKind" := ((Exa.ext E28 Fc39).keep K50)
  have ne65 : k2 ≠ b53 := Nat.ne_of_lt (Nat.lt_of_lt_of_le Fc64.lt (Nat.le_of_eq g53.symm))
  have Fc66 : Exa Z T50.heap kp "com/example/nodeset/nodeset/NodeKind" := ((Exa.ext E28 Fc41).keep K50)
  have ne67 : kp ≠ b53 := Nat.ne_of_lt (Nat.lt_of_lt_of_le Fc66.lt (Nat.le_of_eq g53.symm))
  have Fc68 : Exa Z T50.heap b4_0 "com/example/nodeset/nodeset/NodeName" := ((Exa.ext E28 Fc43).keep K50)
  have ne69 : b4_0 ≠ b53 := Nat.ne_of_lt (Nat.lt_of_lt_of_le Fc68.lt (Nat.le_of_eq g53.symm))
  have Fc70 : Exa Z T50.heap b4_1 "com/example/nodeset/nodeset/NodeKind" := ((Exa.ext E28 Fc45).keep K50)
  have ne71 : b4_1 ≠ b53 := Nat.ne_of_lt (Nat.lt_of_lt_of_le Fc70.lt (Nat.le_of_eq g53.symm))
  have Fc72 : Exa Z T50.heap b7_0 "com/example/nodeset/nodeset/NodeName" := ((Exa.ext E28 f7_0).keep K50)
  have ne73 : b7_0 ≠ b53 := Nat.ne_of_lt (Nat.lt_of_lt_of_le Fc72.lt (Nat.le_of_eq g53.symm))
  have Fc74 : Exa Z T50.heap b7_1 "com/example/nodeset/nodeset/NodeKind" := ((Exa.ext E28 f7_2).keep K50)
  have ne75 : b7_1 ≠ b53 := Nat.ne_of_lt (Nat.lt_of_lt_of_le Fc74.lt (Nat.le_of_eq g53.symm))
  have Fc76 : Exa Z T50.heap b28 "com/example/nodeset/nodeset/StoredNode" := (A28.keep K50)
  have ne77 : b28 ≠ b53 := Nat.ne_of_lt (Nat.lt_of_lt_of_le Fc76.lt (Nat.le_of_eq g53.symm))
  have gn53 : n0 ≤ b53 := Nat.le_trans (Nat.le_trans (Nat.le_trans (Nat.le_trans (Nat.le_trans Z0 K4.1) K7.1) E28.1) K50.1) (Nat.le_of_eq g53.symm)
  have sz53 : h0.size ≤ b53 := Nat.le_trans Kp52.1 (Nat.le_of_eq g53.symm)
  have Kp78 : Keep h0 h53 [] := Kp52.ext E53
  have F53_22 : Fld Z h53 b53 "com/example/nodeset/nodeset/StoredNode" "name" "Lcom/example/nodeset/nodeset/NodeName;" .null := D53 (Or.inr (hw _ (List.mem_of_getElem? (i := 22) rfl))) (ty := (.object "com/example/nodeset/nodeset/NodeName")) (by decide)
  have F53_24 : Fld Z h53 b53 "com/example/nodeset/nodeset/StoredNode" "document" "I" (.int (0 : Int32)) := D53 (Or.inr (hw _ (List.mem_of_getElem? (i := 24) rfl))) (ty := .int) (by decide)
  have F53_26 : Fld Z h53 b53 "com/example/nodeset/nodeset/StoredNode" "start" "J" (.long (0 : Int64)) := D53 (Or.inr (hw _ (List.mem_of_getElem? (i := 26) rfl))) (ty := .long) (by decide)
  have F53_28 : Fld Z h53 b53 "com/example/nodeset/nodeset/StoredNode" "end" "J" (.long (0 : Int64)) := D53 (Or.inr (hw _ (List.mem_of_getElem? (i := 28) rfl))) (ty := .long) (by decide)
  have F53_30 : Fld Z h53 b53 "com/example/nodeset/nodeset/StoredNode" "depth" "I" (.int (0 : Int32)) := D53 (Or.inr (hw _ (List.mem_of_getElem? (i := 30) rfl))) (ty := .int) (by decide)
  have F53_32 : Fld Z h53 b53 "com/example/nodeset/nodeset/StoredNode" "textPlace" "J" (.long (0 : Int64)) := D53 (Or.inr (hw _ (List.mem_of_getElem? (i := 32) rfl))) (ty := .long) (by decide)
  have F53_34 : Fld Z h53 b53 "com/example/nodeset/nodeset/StoredNode" "valueFrom" "J" (.long (0 : Int64)) := D53 (Or.inr (hw _ (List.mem_of_getElem? (i := 34) rfl))) (ty := .long) (by decide)
  have F53_36 : Fld Z h53 b53 "com/example/nodeset/nodeset/StoredNode" "valueTo" "J" (.long (0 : Int64)) := D53 (Or.inr (hw _ (List.mem_of_getElem? (i := 36) rfl))) (ty := .long) (by decide)
  have F53_38 : Fld Z h53 b53 "com/example/nodeset/nodeset/StoredNode" "record" "J" (.long (0 : Int64)) := D53 (Or.inr (hw _ (List.mem_of_getElem? (i := 38) rfl))) (ty := .long) (by decide)
  refine og_of st53 ?_
  show OG p e below _ _ (T53.setTop (mkF m 51 #[.val (.int p0), .val (.long q1), .second, .val (.long q2), .second, .val (.int p3), .val (.long q4), .second, .val (.long q5), .second, .val (.int z1), .val (.int z3), .val (.ref b4_0), .val (.ref b7_0), .val (.ref b28), .unset, .unset, .unset, .unset] [(.ref b53)]))
  refine o_dup X53 hx rfl (hb hby at_51) rfl ?_
  refine o_aload X53 hx rfl (hb hby at_52) rfl rfl ?_
  refine o_iload X53 hx rfl (hb hby at_54) rfl ?_
  refine o_lload X53 hx rfl (hb hby at_56) rfl ?_
  refine o_lloadN X53 hx rfl (hb hby at_58) rfl ?_
  refine o_iload X53 hx rfl (hb hby at_59) rfl ?_
  refine o_iconst (z := (-1 : Int32)) X53 hx rfl (hb hby at_61) (by decide) ?_
  obtain ⟨z79, hz79⟩ : ∃ z : Int32, p3 ^^^ (-1 : Int32) = z := ⟨_, rfl⟩
  refine o_ixor (z := z79) X53 hx rfl (hb hby at_62) hz79 ?_
  refine o_lloadN X53 hx rfl (hb hby at_63) rfl ?_
  refine o_lload X53 hx rfl (hb hby at_64) rfl ?_
  refine o_lloadN X53 hx rfl (hb hby at_66) rfl ?_
  refine o_lload X53 hx rfl (hb hby at_67) rfl ?_
  obtain ⟨_, _, ⟨T80, L80, k80, n80⟩, -, X80, ⟨Lc80, hQ80, l80, y80, z80⟩, st80⟩ := X53.specialBack hx (y := (⟨"com/example/nodeset/nodeset/StoredNode", "<init>", "(Lcom/example/nodeset/nodeset/NodeName;IJJIJJJJ)V"⟩ : MethodName)) rfl hown (mvT hZ (hw _ (List.mem_of_getElem? (i := 10) rfl))) (mvT hZ (hw _ (List.mem_of_getElem? (i := 11) rfl))) (mvT hZ (hw _ (List.mem_of_getElem? (i := 12) rfl))) (by decide) (backOf (W := 1) (own_rm2 l Z aA hw [] b53 b7_0 p3 q5 q1 z79 q2 q4 q1 q5 h53 n0 (Nat.le_trans (Nat.le_trans (Nat.le_trans (Nat.le_trans (Nat.le_trans Z0 K4.1) K7.1) E28.1) K50.1) E53.1) A53 gn53 F53_22 F53_24 F53_26 F53_28 F53_30 F53_32 F53_34 F53_36 F53_38) hZ (hw _ (List.mem_of_getElem? (i := 12) rfl)) (hw _ (List.mem_of_getElem? (i := 9) rfl)) (by decide) (by decide)) (g := (mkF m 69 #[.val (.int p0), .val (.long q1), .second, .val (.long q2), .second, .val (.int p3), .val (.long q4), .second, .val (.long q5), .second, .val (.int z1), .val (.int z3), .val (.ref b4_0), .val (.ref b7_0), .val (.ref b28), .unset, .unset, .unset, .unset] [(.long q5), (.long q1), (.long q4), (.long q2), (.int z79), (.long q1), (.long q5), (.int p3), (.ref b7_0), (.ref b53), (.ref b53)])) rfl (by rw [hml]; rfl) (Steps.refl _) (a := b53) (argsL := [(.ref b7_0), (.int p3), (.long q5), (.long q1), (.int z79), (.long q2), (.long q4), (.long q1), (.long q5)]) (rest := [(.ref b53)]) (lenOf own_pd9 rfl) rfl (by show 2 * 0 + _ ≤ _; exact Nat.le_of_eq rfl) (hb hby at_69) (fun _ _ => ⟨rfl, e53, Nat.le_of_ble_eq_true rfl, Nat.le_of_ble_eq_true rfl⟩)
  dsimp only [Pt.U, Pt.locs, Pt.cells, Pt.slots] at X80 l80 y80 z80 st80 hQ80
  subst l80 y80 z80
  obtain ⟨rfl, N80q, K80, f80_0, f80_1, f80_2, f80_3, f80_4, f80_5, f80_6, f80_7, f80_8⟩ := hQ80
  have N81 := Fr.app N51 N80q
  have Kp82 : Keep h0 T80.heap [] := Kp78.trans K80 (allS (Or.inr sz53) all0)
  refine og_tr st80 ?_
  show OG p e below _ _ (T80.setTop (mkF m 72 #[.val (.int p0), .val (.long q1), .second, .val (.long q2), .second, .val (.int p3), .val (.long q4), .second, .val (.long q5), .second, .val (.int z1), .val (.int z3), .val (.ref b4_0), .val (.ref b7_0), .val (.ref b28), .unset, .unset, .unset, .unset] [(.ref b53)]))
  refine o_astore X80 hx rfl (hb hby at_72) rfl (L' := #[.val (.int p0), .val (.long q1), .second, .val (.long q2), .second, .val (.int p3), .val (.long q4), .second, .val (.long q5), .second, .val (.int z1), .val (.int z3), .val (.ref b4_0), .val (.ref b7_0), .val (.ref b28), .val (.ref b53), .unset, .unset, .unset]) rfl ?_
  obtain ⟨T83, h83, X83, e83, E83, A83, D83, -, st83⟩ := newO X80 hx hZ hown (hw _ (List.mem_of_getElem? (i := 39) rfl)) (hw _ (List.mem_of_getElem? (i := 40) rfl)) (hw _ (List.mem_of_getElem? (i := 41) rfl)) rfl (g := (mkF m 74 #[.val (.int p0), .val (.long q1), .second, .val (.long q2), .second, .val (.int p3), .val (.long q4), .second, .val (.long q5), .second, .val (.int z1), .val (.int z3), .val (.ref b4_0), .val (.ref b7_0), .val (.ref b28), .val (.ref b53), .unset, .unset, .unset] [])) rfl (hb hby at_74) (by decide) (by decide)
  obtain ⟨b83, g83⟩ : ∃ z, z = T80.heap.size := ⟨_, rfl⟩
  rw [← g83] at A83 D83 st83
  have Fc84 : Exa Z T80.heap t0 "com/example/nodeset/nodeset/NodeName" := ((Exa.ext E53 Fc54).keep K80)
  have ne85 : t0 ≠ b83 := Nat.ne_of_lt (Nat.lt_of_lt_of_le Fc84.lt (Nat.le_of_eq g83.symm))
  have Fc86 : Exa Z T80.heap t1 "com/example/nodeset/nodeset/NodeName" := ((Exa.ext E53 Fc56).keep K80)
  have ne87 : t1 ≠ b83 := Nat.ne_of_lt (Nat.lt_of_lt_of_le Fc86.lt (Nat.le_of_eq g83.symm))
  have Fc88 : Exa Z T80.heap t2 "com/example/nodeset/nodeset/NodeName" := ((Exa.ext E53 Fc58).keep K80)
  have ne89 : t2 ≠ b83 := Nat.ne_of_lt (Nat.lt_of_lt_of_le Fc88.lt (Nat.le_of_eq g83.symm))
  have Fc90 : Exa Z T80.heap k0 "com/example/nodeset/nodeset/NodeKind" := ((Exa.ext E53 Fc60).keep K80)
  have ne91 : k0 ≠ b83 := Nat.ne_of_lt (Nat.lt_of_lt_of_le Fc90.lt (Nat.le_of_eq g83.symm))
  have Fc92 : Exa Z T80.heap k1 "com/example/nodeset/nodeset/NodeKind" := ((Exa.ext E53 Fc62).keep K80)
  have ne93 : k1 ≠ b83 := Nat.ne_of_lt (Nat.lt_of_lt_of_le Fc92.lt (Nat.le_of_eq g83.symm))
  have Fc94 : Exa Z T80.heap k2 "com/example/nodeset/nodeset/NodeKind" := ((Exa.ext E53 Fc64).keep K80)
  have ne95 : k2 ≠ b83 := Nat.ne_of_lt (Nat.lt_of_lt_of_le Fc94.lt (Nat.le_of_eq g83.symm))
  have Fc96 : Exa Z T80.heap kp "com/example/nodeset/nodeset/NodeKind" := ((Exa.ext E53 Fc66).keep K80)
  have ne97 : kp ≠ b83 := Nat.ne_of_lt (Nat.lt_of_lt_of_le Fc96.lt (Nat.le_of_eq g83.symm))
  have Fc98 : Exa Z T80.heap b4_0 "com/example/nodeset/nodeset/NodeName" := ((Exa.ext E53 Fc68).keep K80)
  have ne99 : b4_0 ≠ b83 := Nat.ne_of_lt (Nat.lt_of_lt_of_le Fc98.lt (Nat.le_of_eq g83.symm))
  have Fc100 : Exa Z T80.heap b4_1 "com/example/nodeset/nodeset/NodeKind" := ((Exa.ext E53 Fc70).keep K80)
  have ne101 : b4_1 ≠ b83 := Nat.ne_of_lt (Nat.lt_of_lt_of_le Fc100.lt (Nat.le_of_eq g83.symm))
  have Fc102 : Exa Z T80.heap b7_0 "com/example/nodeset/nodeset/NodeName" := ((Exa.ext E53 Fc72).keep K80)
  have ne103 : b7_0 ≠ b83 := Nat.ne_of_lt (Nat.lt_of_lt_of_le Fc102.lt (Nat.le_of_eq g83.symm))
  have Fc104 : Exa Z T80.heap b7_1 "com/example/nodeset/nodeset/NodeKind" := ((Exa.ext E53 Fc74).keep K80)
  have ne105 : b7_1 ≠ b83 := Nat.ne_of_lt (Nat.lt_of_lt_of_le Fc104.lt (Nat.le_of_eq g83.symm))
  have Fc106 : Exa Z T80.heap b28 "com/example/nodeset/nodeset/StoredNode" := ((Exa.ext E53 Fc76).keep K80)
  have ne107 : b28 ≠ b83 := Nat.ne_of_lt (Nat.lt_of_lt_of_le Fc106.lt (Nat.le_of_eq g83.symm))
  have Fc108 : Exa Z T80.heap b53 "com/example/nodeset/nodeset/StoredNode" := (A53.keep K80)
  have ne109 : b53 ≠ b83 := Nat.ne_of_lt (Nat.lt_of_lt_of_le Fc108.lt (Nat.le_of_eq g83.symm))
  have gn83 : n0 ≤ b83 := Nat.le_trans (Nat.le_trans (Nat.le_trans (Nat.le_trans (Nat.le_trans (Nat.le_trans (Nat.le_trans Z0 K4.1) K7.1) E28.1) K50.1) E53.1) K80.1) (Nat.le_of_eq g83.symm)
  have sz83 : h0.size ≤ b83 := Nat.le_trans Kp82.1 (Nat.le_of_eq g83.symm)
  have Kp110 : Keep h0 h83 [] := Kp82.ext E83
  have F83_66 : Fld Z h83 b83 "com/example/nodeset/nodeset/MutableLabel" "kind" "Lcom/example/nodeset/nodeset/NodeKind;" .null := D83 (Or.inl (hw _ (List.mem_of_getElem? (i := 66) rfl))) (ty := (.object "com/example/nodeset/nodeset/NodeKind")) (by decide)
  have F83_73 : Fld Z h83 b83 "com/example/nodeset/nodeset/MutableLabel" "start" "J" (.long (0 : Int64)) := D83 (Or.inl (hw _ (List.mem_of_getElem? (i := 73) rfl))) (ty := .long) (by decide)
  have F83_80 : Fld Z h83 b83 "com/example/nodeset/nodeset/MutableLabel" "end" "J" (.long (0 : Int64)) := D83 (Or.inl (hw _ (List.mem_of_getElem? (i := 80) rfl))) (ty := .long) (by decide)
  have F83_87 : Fld Z h83 b83 "com/example/nodeset/nodeset/MutableLabel" "depth" "I" (.int (0 : Int32)) := D83 (Or.inl (hw _ (List.mem_of_getElem? (i := 87) rfl))) (ty := .int) (by decide)
  have F83_94 : Fld Z h83 b83 "com/example/nodeset/nodeset/MutableLabel" "textPlace" "J" (.long (0 : Int64)) := D83 (Or.inl (hw _ (List.mem_of_getElem? (i := 94) rfl))) (ty := .long) (by decide)
  refine og_of st83 ?_
  show OG p e below _ _ (T83.setTop (mkF m 77 #[.val (.int p0), .val (.long q1), .second, .val (.long q2), .second, .val (.int p3), .val (.long q4), .second, .val (.long q5), .second, .val (.int z1), .val (.int z3), .val (.ref b4_0), .val (.ref b7_0), .val (.ref b28), .val (.ref b53), .unset, .unset, .unset] [(.ref b83)]))
  refine o_dup X83 hx rfl (hb hby at_77) rfl ?_
  obtain ⟨_, _, ⟨T111, L111, k111, n111⟩, -, X111, ⟨Lc111, hQ111, l111, y111, z111⟩, st111⟩ := X83.specialBack hx (y := (⟨"com/example/nodeset/nodeset/MutableLabel", "<init>", "()V"⟩ : MethodName)) rfl hown (mvT hZ (hw _ (List.mem_of_getElem? (i := 42) rfl))) (mvT hZ (hw _ (List.mem_of_getElem? (i := 43) rfl))) (mvT hZ (hw _ (List.mem_of_getElem? (i := 44) rfl))) (by decide) (backOf (W := 1) (own_rm5 l Z aA hw [] b83 h83 n0 (Nat.le_trans (Nat.le_trans (Nat.le_trans (Nat.le_trans (Nat.le_trans (Nat.le_trans (Nat.le_trans Z0 K4.1) K7.1) E28.1) K50.1) E53.1) K80.1) E83.1)) hZ (hw _ (List.mem_of_getElem? (i := 44) rfl)) (hw _ (List.mem_of_getElem? (i := 41) rfl)) (by decide) (by decide)) (g := (mkF m 78 #[.val (.int p0), .val (.long q1), .second, .val (.long q2), .second, .val (.int p3), .val (.long q4), .second, .val (.long q5), .second, .val (.int z1), .val (.int z3), .val (.ref b4_0), .val (.ref b7_0), .val (.ref b28), .val (.ref b53), .unset, .unset, .unset] [(.ref b83), (.ref b83)])) rfl (by rw [hml]; rfl) (Steps.refl _) (a := b83) (argsL := []) (rest := [(.ref b83)]) (lenOf own_pd0 rfl) rfl (by show 2 * 0 + _ ≤ _; exact Nat.le_of_eq rfl) (hb hby at_78) (fun _ _ => ⟨rfl, e83, Nat.le_of_ble_eq_true rfl, Nat.le_of_ble_eq_true rfl⟩)
  dsimp only [Pt.U, Pt.locs, Pt.cells, Pt.slots] at X111 l111 y111 z111 st111 hQ111
  subst l111 y111 z111
  obtain ⟨rfl, N111q, ee111⟩ := hQ111
  have N112 := Fr.app N81 N111q
  refine og_tr st111 ?_
  show OG p e below _ _ (T111.setTop (mkF m 81 #[.val (.int p0), .val (.long q1), .second, .val (.long q2), .second, .val (.int p3), .val (.long q4), .second, .val (.long q5), .second, .val (.int z1), .val (.int z3), .val (.ref b4_0), .val (.ref b7_0), .val (.ref b28), .val (.ref b53), .unset, .unset, .unset] [(.ref b83)]))
  refine o_astore X111 hx rfl (hb hby at_81) rfl (L' := #[.val (.int p0), .val (.long q1), .second, .val (.long q2), .second, .val (.int p3), .val (.long q4), .second, .val (.long q5), .second, .val (.int z1), .val (.int z3), .val (.ref b4_0), .val (.ref b7_0), .val (.ref b28), .val (.ref b53), .val (.ref b83), .unset, .unset]) rfl ?_
  refine o_aload X111 hx rfl (hb hby at_83) rfl rfl ?_
  refine o_aload X111 hx rfl (hb hby at_85) rfl rfl ?_
  have Fc114 : Exa Z h83 b28 "com/example/nodeset/nodeset/StoredNode" := (Exa.ext E83 Fc106)
  have Fc115 : Fld Z h83 b28 "com/example/nodeset/nodeset/StoredNode" "name" "Lcom/example/nodeset/nodeset/NodeName;" (.ref b4_0) := (Fld.ext E83 ((Fld.ext E53 f50_0).keep K80 (ninS ne77 nin0)))
  have Fc116 : Exa Z h83 b4_0 "com/example/nodeset/nodeset/NodeName" := (Exa.ext E83 Fc98)
  have Fc117 : Fld Z h83 b4_0 "com/example/nodeset/nodeset/NodeName" "kind" "Lcom/example/nodeset/nodeset/NodeKind;" (.ref b4_1) := (Fld.ext E83 ((Fld.ext E53 ((Fld.ext E28 (f4_1.keep K7 nin0)).keep K50 (ninS ne44 nin0))).keep K80 (ninS ne69 nin0)))
  have Fc118 : Fld Z h83 b28 "com/example/nodeset/nodeset/StoredNode" "start" "J" (.long q1) := (Fld.ext E83 ((Fld.ext E53 f50_2).keep K80 (ninS ne77 nin0)))
  have Fc119 : Fld Z h83 b28 "com/example/nodeset/nodeset/StoredNode" "end" "J" (.long q2) := (Fld.ext E83 ((Fld.ext E53 f50_3).keep K80 (ninS ne77 nin0)))
  have Fc120 : Fld Z h83 b28 "com/example/nodeset/nodeset/StoredNode" "depth" "I" (.int p3) := (Fld.ext E83 ((Fld.ext E53 f50_4).keep K80 (ninS ne77 nin0)))
  have Fc121 : Fld Z h83 b28 "com/example/nodeset/nodeset/StoredNode" "textPlace" "J" (.long q4) := (Fld.ext E83 ((Fld.ext E53 f50_5).keep K80 (ninS ne77 nin0)))
  obtain ⟨cq113, kq113, q113a, q113b, q113c⟩ := isOf hZ ee111 A83
  obtain ⟨_, _, ⟨T113, L113, k113, n113⟩, -, X113, ⟨Lc113, hQ113, l113, y113, z113⟩, st113⟩ := X111.virtualBack hx (y := (⟨"com/example/nodeset/nodeset/MutableLabel", "set", "(Lcom/example/nodeset/nodeset/StoredNode;)V"⟩ : MethodName)) (z := (⟨"com/example/nodeset/nodeset/MutableLabel", "set", "(Lcom/example/nodeset/nodeset/StoredNode;)V"⟩ : MethodName)) hown (mvT hZ (hw _ (List.mem_of_getElem? (i := 46) rfl))) (mvT hZ (hw _ (List.mem_of_getElem? (i := 47) rfl))) (notFace_of_selects (args := #[]) (mvT hZ (hw _ (List.mem_of_getElem? (i := 49) rfl)))) (mvT hZ (hw _ (List.mem_of_getElem? (i := 49) rfl))) (mvT hZ (hw _ (List.mem_of_getElem? (i := 48) rfl))) (by decide) (backOf (W := 0) (own_rm6 l Z aA hw [] b83 b28 b4_0 b4_1 q1 q2 p3 q4 .null (0 : Int64) (0 : Int64) (0 : Int32) (0 : Int64) h83 n0 (Nat.le_trans (Nat.le_trans (Nat.le_trans (Nat.le_trans (Nat.le_trans (Nat.le_trans (Nat.le_trans Z0 K4.1) K7.1) E28.1) K50.1) E53.1) K80.1) E83.1) Fc114 Fc115 Fc116 Fc117 Fc118 Fc119 Fc120 Fc121 A83 gn83 F83_66 F83_73 F83_80 F83_87 F83_94 ne107 ne99 ne101) hZ (hw _ (List.mem_of_getElem? (i := 50) rfl)) (hw _ (List.mem_of_getElem? (i := 41) rfl)) (by decide) (by decide)) q113a q113c (g := (mkF m 87 #[.val (.int p0), .val (.long q1), .second, .val (.long q2), .second, .val (.int p3), .val (.long q4), .second, .val (.long q5), .second, .val (.int z1), .val (.int z3), .val (.ref b4_0), .val (.ref b7_0), .val (.ref b28), .val (.ref b53), .val (.ref b83), .unset, .unset] [(.ref b28), (.ref b83)])) rfl (by rw [hml]; rfl) (Steps.refl _) (argsL := [(.ref b28)]) (rest := []) (lenOf own_pd10 rfl) rfl (by show 2 * 0 + _ ≤ _; exact Nat.le_of_eq rfl) (hb hby at_87) (fun _ _ => ⟨rfl, ee111, Nat.le_of_ble_eq_true rfl, Nat.le_of_ble_eq_true rfl⟩)
  dsimp only [Pt.U, Pt.locs, Pt.cells, Pt.slots] at X113 l113 y113 z113 st113 hQ113
  subst l113 y113 z113
  obtain ⟨rfl, N113q, K113, f113_0, f113_1, f113_2, f113_3, f113_4⟩ := hQ113
  have N122 := Fr.app N112 N113q
  have Kp123 : Keep h0 T113.heap [] := Kp110.trans K113 (allS (Or.inr sz83) all0)
  refine og_tr st113 ?_
  show OG p e below _ _ (T113.setTop (mkF m 90 #[.val (.int p0), .val (.long q1), .second, .val (.long q2), .second, .val (.int p3), .val (.long q4), .second, .val (.long q5), .second, .val (.int z1), .val (.int z3), .val (.ref b4_0), .val (.ref b7_0), .val (.ref b28), .val (.ref b53), .val (.ref b83), .unset, .unset] []))
  refine o_aload X113 hx rfl (hb hby at_90) rfl rfl ?_
  refine o_aload X113 hx rfl (hb hby at_92) rfl rfl ?_
  refine o_iload X113 hx rfl (hb hby at_94) rfl ?_
  refine o_iconst (z := (1 : Int32)) X113 hx rfl (hb hby at_96) (by decide) ?_
  obtain ⟨ph125, hph125⟩ : ∃ z : Int32, (if z1 = (1 : Int32) then (1 : Int32) else (0 : Int32)) = z := ⟨_, rfl⟩
  have J126 : OG p e below (FEW s room_1.cells room_1.slots) (own_Q0 Z p0 q1 q2 p3 q4 q5 t0 t1 t2 kp k0 k1 k2 h0 n0) (T113.setTop (mkF m 105 #[.val (.int p0), .val (.long q1), .second, .val (.long q2), .second, .val (.int p3), .val (.long q4), .second, .val (.long q5), .second, .val (.int z1), .val (.int z3), .val (.ref b4_0), .val (.ref b7_0), .val (.ref b28), .val (.ref b53), .val (.ref b83), .unset, .unset] [(.int ph125), (.ref b4_0), (.ref b83)])) := by
    refine o_lloadN X113 hx rfl (hb hby at_105) rfl ?_
    refine o_lloadN X113 hx rfl (hb hby at_106) rfl ?_
    refine o_iload X113 hx rfl (hb hby at_107) rfl ?_
    refine o_lload X113 hx rfl (hb hby at_109) rfl ?_
    have Fc128 : Exa Z T113.heap b83 "com/example/nodeset/nodeset/MutableLabel" := (A83.keep K113)
    have Fc129 : Exa Z T113.heap b4_0 "com/example/nodeset/nodeset/NodeName" := (Fc116.keep K113)
    have Fc130 : Fld Z T113.heap b4_0 "com/example/nodeset/nodeset/NodeName" "kind" "Lcom/example/nodeset/nodeset/NodeKind;" (.ref b4_1) := (Fc117.keep K113 (ninS ne99 nin0))
    have Fc131 : Exa Z T113.heap b4_1 "com/example/nodeset/nodeset/NodeKind" := ((Exa.ext E83 Fc100).keep K113)
    have Fc132 : Fld Z T113.heap b4_1 "com/example/nodeset/nodeset/NodeKind" "numbered" "Z" (.int (own_f1_num z1 t0 t1 t2 kp k0 k1 k2)) := ((Fld.ext E83 ((Fld.ext E53 ((Fld.ext E28 (f4_3.keep K7 nin0)).keep K50 (ninS ne46 nin0))).keep K80 (ninS ne71 nin0))).keep K113 (ninS ne101 nin0))
    have hw_133 : (own_f1_num z1 t0 t1 t2 kp k0 k1 k2) = 0 ∨ (own_f1_num z1 t0 t1 t2 kp k0 k1 k2) = 1 := own_b01 _ _ _ _ _ _ _ _
    have hw_134 : ph125 = (own_f1_num z1 t0 t1 t2 kp k0 k1 k2) := by rw [own_num01, ← hph125]
    obtain ⟨_, _, ⟨T127, L127, k127, n127⟩, -, X127, ⟨Lc127, hQ127, l127, y127, z127⟩, st127⟩ := Jvm.LawKit.callS X113 hx (y := (⟨"com/example/nodeset/nodeset/MutableLabelSetPinLaw", "matches", "(Lcom/example/nodeset/nodeset/MutableLabel;Lcom/example/nodeset/nodeset/NodeName;ZJJIJ)Z"⟩ : MethodName)) hown (mvT hZ (hw _ (List.mem_of_getElem? (i := 95) rfl))) (mvT hZ (hw _ (List.mem_of_getElem? (i := 96) rfl))) (mvT hZ (hw _ (List.mem_of_getElem? (i := 2) rfl))) (mvT hZ (hw _ (List.mem_of_getElem? (i := 97) rfl))) (by decide) (backOf (W := 0) (own_rm13 l Z aA hw [] b83 b4_0 ph125 q1 q2 p3 q4 b4_1 (own_f1_num z1 t0 t1 t2 kp k0 k1 k2) T113.heap n0 (Nat.le_trans (Nat.le_trans (Nat.le_trans (Nat.le_trans (Nat.le_trans (Nat.le_trans (Nat.le_trans (Nat.le_trans Z0 K4.1) K7.1) E28.1) K50.1) E53.1) K80.1) E83.1) K113.1) f113_0 f113_1 f113_2 f113_3 f113_4 Fc128 Fc129 Fc130 Fc131 Fc132 hw_133 hw_134) hZ (hw _ (List.mem_of_getElem? (i := 97) rfl)) (hw _ (List.mem_of_getElem? (i := 2) rfl)) (by decide) (by decide)) (g := (mkF m 111 #[.val (.int p0), .val (.long q1), .second, .val (.long q2), .second, .val (.int p3), .val (.long q4), .second, .val (.long q5), .second, .val (.int z1), .val (.int z3), .val (.ref b4_0), .val (.ref b7_0), .val (.ref b28), .val (.ref b53), .val (.ref b83), .unset, .unset] [(.long q4), (.int p3), (.long q2), (.long q1), (.int ph125), (.ref b4_0), (.ref b83)])) rfl (by rw [hml]; rfl) (argsL := [(.ref b83), (.ref b4_0), (.int ph125), (.long q1), (.long q2), (.int p3), (.long q4)]) (rest := []) (lenOf own_pd11 rfl) rfl (by show 2 * 0 + _ ≤ _; exact Nat.le_of_eq rfl) (hb hby at_111) (fun _ _ => ⟨rfl, rfl, Nat.le_of_ble_eq_true rfl, Nat.le_of_ble_eq_true rfl⟩)
    dsimp only [Pt.U, Pt.locs, Pt.cells, Pt.slots] at X127 l127 y127 z127 st127 hQ127
    subst l127 y127 z127
    obtain ⟨rfl, N127q, ee127⟩ := hQ127
    have N135 := Fr.app N122 N127q
    refine og_of st127 ?_
    show OG p e below _ _ (T127.setTop (mkF m 114 #[.val (.int p0), .val (.long q1), .second, .val (.long q2), .second, .val (.int p3), .val (.long q4), .second, .val (.long q5), .second, .val (.int z1), .val (.int z3), .val (.ref b4_0), .val (.ref b7_0), .val (.ref b28), .val (.ref b53), .val (.ref b83), .unset, .unset] [(.int (1 : Int32))]))
    refine o_ifN (pc' := 117) X127 hx rfl (hb hby at_114) ((if0 _ _).trans (feq (by decide : ¬ ((1 : Int32) = (0 : Int32)))).1) ?_
    refine o_aload X127 hx rfl (hb hby at_117) rfl rfl ?_
    refine o_aload X127 hx rfl (hb hby at_119) rfl rfl ?_
    have Fc137 : Exa Z T113.heap b28 "com/example/nodeset/nodeset/StoredNode" := (Fc114.keep K113)
    have Fc138 : Fld Z T113.heap b28 "com/example/nodeset/nodeset/StoredNode" "name" "Lcom/example/nodeset/nodeset/NodeName;" (.ref b4_0) := (Fc115.keep K113 (ninS ne107 nin0))
    have Fc139 : Fld Z T113.heap b28 "com/example/nodeset/nodeset/StoredNode" "start" "J" (.long q1) := (Fc118.keep K113 (ninS ne107 nin0))
    have Fc140 : Fld Z T113.heap b28 "com/example/nodeset/nodeset/StoredNode" "end" "J" (.long q2) := (Fc119.keep K113 (ninS ne107 nin0))
    have Fc141 : Fld Z T113.heap b28 "com/example/nodeset/nodeset/StoredNode" "depth" "I" (.int p3) := (Fc120.keep K113 (ninS ne107 nin0))
    have Fc142 : Fld Z T113.heap b28 "com/example/nodeset/nodeset/StoredNode" "textPlace" "J" (.long q4) := (Fc121.keep K113 (ninS ne107 nin0))
    obtain ⟨cq136, kq136, q136a, q136b, q136c⟩ := isOf hZ ee127 Fc128
    obtain ⟨_, _, ⟨T136, L136, k136, n136⟩, -, X136, ⟨Lc136, hQ136, l136, y136, z136⟩, st136⟩ := X127.virtualBack hx (y := (⟨"com/example/nodeset/nodeset/MutableLabel", "labels", "(Lcom/example/nodeset/nodeset/StoredNode;)Z"⟩ : MethodName)) (z := (⟨"com/example/nodeset/nodeset/MutableLabel", "labels", "(Lcom/example/nodeset/nodeset/StoredNode;)Z"⟩ : MethodName)) hown (mvT hZ (hw _ (List.mem_of_getElem? (i := 121) rfl))) (mvT hZ (hw _ (List.mem_of_getElem? (i := 122) rfl))) (notFace_of_selects (args := #[]) (mvT hZ (hw _ (List.mem_of_getElem? (i := 124) rfl)))) (mvT hZ (hw _ (List.mem_of_getElem? (i := 124) rfl))) (mvT hZ (hw _ (List.mem_of_getElem? (i := 123) rfl))) (by decide) (backOf (W := 0) (own_rm17 l Z aA hw [] b83 b28 b4_0 b4_1 q1 q2 p3 q4 T113.heap n0 (Nat.le_trans (Nat.le_trans (Nat.le_trans (Nat.le_trans (Nat.le_trans (Nat.le_trans (Nat.le_trans (Nat.le_trans Z0 K4.1) K7.1) E28.1) K50.1) E53.1) K80.1) E83.1) K113.1) Fc137 Fc138 Fc129 Fc130 Fc139 Fc140 Fc141 Fc142 f113_0 f113_1 f113_2 f113_3 f113_4) hZ (hw _ (List.mem_of_getElem? (i := 125) rfl)) (hw _ (List.mem_of_getElem? (i := 41) rfl)) (by decide) (by decide)) q136a q136c (g := (mkF m 121 #[.val (.int p0), .val (.long q1), .second, .val (.long q2), .second, .val (.int p3), .val (.long q4), .second, .val (.long q5), .second, .val (.int z1), .val (.int z3), .val (.ref b4_0), .val (.ref b7_0), .val (.ref b28), .val (.ref b53), .val (.ref b83), .unset, .unset] [(.ref b28), (.ref b83)])) rfl (by rw [hml]; rfl) (Steps.refl _) (argsL := [(.ref b28)]) (rest := []) (lenOf own_pd12 rfl) rfl (by show 2 * 0 + _ ≤ _; exact Nat.le_of_eq rfl) (hb hby at_121) (fun _ _ => ⟨rfl, ee127, Nat.le_of_ble_eq_true rfl, Nat.le_of_ble_eq_true rfl⟩)
    dsimp only [Pt.U, Pt.locs, Pt.cells, Pt.slots] at X136 l136 y136 z136 st136 hQ136
    subst l136 y136 z136
    obtain ⟨rfl, N136q, ee136⟩ := hQ136
    have N143 := Fr.app N135 N136q
    refine og_tr st136 ?_
    show OG p e below _ _ (T136.setTop (mkF m 124 #[.val (.int p0), .val (.long q1), .second, .val (.long q2), .second, .val (.int p3), .val (.long q4), .second, .val (.long q5), .second, .val (.int z1), .val (.int z3), .val (.ref b4_0), .val (.ref b7_0), .val (.ref b28), .val (.ref b53), .val (.ref b83), .unset, .unset] [(.int (1 : Int32))]))
    refine o_ifN (pc' := 127) X136 hx rfl (hb hby at_124) ((if0 _ _).trans (feq (by decide : ¬ ((1 : Int32) = (0 : Int32)))).1) ?_
    refine o_iconst (z := (1 : Int32)) X136 hx rfl (hb hby at_127) (by decide) ?_
    refine o_goto (pc' := 132) X136 hx (hb hby at_128) (by decide) (by decide) ?_
    refine o_istore X136 hx rfl (hb hby at_132) (L' := #[.val (.int p0), .val (.long q1), .second, .val (.long q2), .second, .val (.int p3), .val (.long q4), .second, .val (.long q5), .second, .val (.int z1), .val (.int z3), .val (.ref b4_0), .val (.ref b7_0), .val (.ref b28), .val (.ref b53), .val (.ref b83), .val (.int (1 : Int32)), .unset]) rfl ?_
    refine o_aload X136 hx rfl (hb hby at_134) rfl rfl ?_
    refine o_aload X136 hx rfl (hb hby at_136) rfl rfl ?_
    have Fc145 : Exa Z T113.heap b53 "com/example/nodeset/nodeset/StoredNode" := ((Exa.ext E83 Fc108).keep K113)
    have Fc146 : Fld Z T113.heap b53 "com/example/nodeset/nodeset/StoredNode" "name" "Lcom/example/nodeset/nodeset/NodeName;" (.ref b7_0) := ((Fld.ext E83 f80_0).keep K113 (ninS ne109 nin0))
    have Fc147 : Exa Z T113.heap b7_0 "com/example/nodeset/nodeset/NodeName" := ((Exa.ext E83 Fc102).keep K113)
    have Fc148 : Fld Z T113.heap b7_0 "com/example/nodeset/nodeset/NodeName" "kind" "Lcom/example/nodeset/nodeset/NodeKind;" (.ref b7_1) := ((Fld.ext E83 ((Fld.ext E53 ((Fld.ext E28 f7_1).keep K50 (ninS ne47 nin0))).keep K80 (ninS ne73 nin0))).keep K113 (ninS ne103 nin0))
    have Fc149 : Fld Z T113.heap b53 "com/example/nodeset/nodeset/StoredNode" "start" "J" (.long q5) := ((Fld.ext E83 f80_2).keep K113 (ninS ne109 nin0))
    have Fc150 : Fld Z T113.heap b53 "com/example/nodeset/nodeset/StoredNode" "end" "J" (.long q1) := ((Fld.ext E83 f80_3).keep K113 (ninS ne109 nin0))
    have Fc151 : Fld Z T113.heap b53 "com/example/nodeset/nodeset/StoredNode" "depth" "I" (.int z79) := ((Fld.ext E83 f80_4).keep K113 (ninS ne109 nin0))
    have Fc152 : Fld Z T113.heap b53 "com/example/nodeset/nodeset/StoredNode" "textPlace" "J" (.long q2) := ((Fld.ext E83 f80_5).keep K113 (ninS ne109 nin0))
    obtain ⟨cq144, kq144, q144a, q144b, q144c⟩ := isOf hZ ee136 Fc128
    obtain ⟨_, _, ⟨T144, L144, k144, n144⟩, -, X144, ⟨Lc144, hQ144, l144, y144, z144⟩, st144⟩ := X136.virtualBack hx (y := (⟨"com/example/nodeset/nodeset/MutableLabel", "set", "(Lcom/example/nodeset/nodeset/StoredNode;)V"⟩ : MethodName)) (z := (⟨"com/example/nodeset/nodeset/MutableLabel", "set", "(Lcom/example/nodeset/nodeset/StoredNode;)V"⟩ : MethodName)) hown (mvT hZ (hw _ (List.mem_of_getElem? (i := 46) rfl))) (mvT hZ (hw _ (List.mem_of_getElem? (i := 47) rfl))) (notFace_of_selects (args := #[]) (mvT hZ (hw _ (List.mem_of_getElem? (i := 49) rfl)))) (mvT hZ (hw _ (List.mem_of_getElem? (i := 49) rfl))) (mvT hZ (hw _ (List.mem_of_getElem? (i := 48) rfl))) (by decide) (backOf (W := 0) (own_rm6 l Z aA hw [] b83 b53 b7_0 b7_1 q5 q1 z79 q2 (.ref b4_1) q1 q2 p3 q4 T113.heap n0 (Nat.le_trans (Nat.le_trans (Nat.le_trans (Nat.le_trans (Nat.le_trans (Nat.le_trans (Nat.le_trans (Nat.le_trans Z0 K4.1) K7.1) E28.1) K50.1) E53.1) K80.1) E83.1) K113.1) Fc145 Fc146 Fc147 Fc148 Fc149 Fc150 Fc151 Fc152 Fc128 gn83 f113_0 f113_1 f113_2 f113_3 f113_4 ne109 ne103 ne105) hZ (hw _ (List.mem_of_getElem? (i := 50) rfl)) (hw _ (List.mem_of_getElem? (i := 41) rfl)) (by decide) (by decide)) q144a q144c (g := (mkF m 138 #[.val (.int p0), .val (.long q1), .second, .val (.long q2), .second, .val (.int p3), .val (.long q4), .second, .val (.long q5), .second, .val (.int z1), .val (.int z3), .val (.ref b4_0), .val (.ref b7_0), .val (.ref b28), .val (.ref b53), .val (.ref b83), .val (.int (1 : Int32)), .unset] [(.ref b53), (.ref b83)])) rfl (by rw [hml]; rfl) (Steps.refl _) (argsL := [(.ref b53)]) (rest := []) (lenOf own_pd10 rfl) rfl (by show 2 * 0 + _ ≤ _; exact Nat.le_of_eq rfl) (hb hby at_138) (fun _ _ => ⟨rfl, ee136, Nat.le_of_ble_eq_true rfl, Nat.le_of_ble_eq_true rfl⟩)
    dsimp only [Pt.U, Pt.locs, Pt.cells, Pt.slots] at X144 l144 y144 z144 st144 hQ144
    subst l144 y144 z144
    obtain ⟨rfl, N144q, K144, f144_0, f144_1, f144_2, f144_3, f144_4⟩ := hQ144
    have N153 := Fr.app N143 N144q
    have Kp154 : Keep h0 T144.heap [] := Kp123.trans K144 (allS (Or.inr sz83) all0)
    refine og_tr st144 ?_
    show OG p e below _ _ (T144.setTop (mkF m 141 #[.val (.int p0), .val (.long q1), .second, .val (.long q2), .second, .val (.int p3), .val (.long q4), .second, .val (.long q5), .second, .val (.int z1), .val (.int z3), .val (.ref b4_0), .val (.ref b7_0), .val (.ref b28), .val (.ref b53), .val (.ref b83), .val (.int (1 : Int32)), .unset] []))
    refine o_aload X144 hx rfl (hb hby at_141) rfl rfl ?_
    refine o_aload X144 hx rfl (hb hby at_143) rfl rfl ?_
    refine o_iload X144 hx rfl (hb hby at_145) rfl ?_
    refine o_iconst (z := (1 : Int32)) X144 hx rfl (hb hby at_147) (by decide) ?_
    obtain ⟨ph156, hph156⟩ : ∃ z : Int32, (if z3 = (1 : Int32) then (1 : Int32) else (0 : Int32)) = z := ⟨_, rfl⟩
    have J157 : OG p e below (FEW s room_1.cells room_1.slots) (own_Q0 Z p0 q1 q2 p3 q4 q5 t0 t1 t2 kp k0 k1 k2 h0 n0) (T144.setTop (mkF m 156 #[.val (.int p0), .val (.long q1), .second, .val (.long q2), .second, .val (.int p3), .val (.long q4), .second, .val (.long q5), .second, .val (.int z1), .val (.int z3), .val (.ref b4_0), .val (.ref b7_0), .val (.ref b28), .val (.ref b53), .val (.ref b83), .val (.int (1 : Int32)), .unset] [(.int ph156), (.ref b7_0), (.ref b83)])) := by
      refine o_lload X144 hx rfl (hb hby at_156) rfl ?_
      refine o_lloadN X144 hx rfl (hb hby at_158) rfl ?_
      refine o_iload X144 hx rfl (hb hby at_159) rfl ?_
      refine o_iconst (z := (-1 : Int32)) X144 hx rfl (hb hby at_161) (by decide) ?_
      refine o_ixor (z := z79) X144 hx rfl (hb hby at_162) hz79 ?_
      refine o_lloadN X144 hx rfl (hb hby at_163) rfl ?_
      have Fc159 : Exa Z T144.heap b83 "com/example/nodeset/nodeset/MutableLabel" := (Fc128.keep K144)
      have Fc160 : Exa Z T144.heap b7_0 "com/example/nodeset/nodeset/NodeName" := (Fc147.keep K144)
      have Fc161 : Fld Z T144.heap b7_0 "com/example/nodeset/nodeset/NodeName" "kind" "Lcom/example/nodeset/nodeset/NodeKind;" (.ref b7_1) := (Fc148.keep K144 (ninS ne103 nin0))
      have Fc162 : Exa Z T144.heap b7_1 "com/example/nodeset/nodeset/NodeKind" := (((Exa.ext E83 Fc104).keep K113).keep K144)
      have Fc163 : Fld Z T144.heap b7_1 "com/example/nodeset/nodeset/NodeKind" "numbered" "Z" (.int (own_f1_num z3 t0 t1 t2 kp k0 k1 k2)) := (((Fld.ext E83 ((Fld.ext E53 ((Fld.ext E28 f7_3).keep K50 (ninS ne48 nin0))).keep K80 (ninS ne75 nin0))).keep K113 (ninS ne105 nin0)).keep K144 (ninS ne105 nin0))
      have hw_164 : (own_f1_num z3 t0 t1 t2 kp k0 k1 k2) = 0 ∨ (own_f1_num z3 t0 t1 t2 kp k0 k1 k2) = 1 := own_b01 _ _ _ _ _ _ _ _
      have hw_165 : ph156 = (own_f1_num z3 t0 t1 t2 kp k0 k1 k2) := by rw [own_num01, ← hph156]
      obtain ⟨_, _, ⟨T158, L158, k158, n158⟩, -, X158, ⟨Lc158, hQ158, l158, y158, z158⟩, st158⟩ := Jvm.LawKit.callS X144 hx (y := (⟨"com/example/nodeset/nodeset/MutableLabelSetPinLaw", "matches", "(Lcom/example/nodeset/nodeset/MutableLabel;Lcom/example/nodeset/nodeset/NodeName;ZJJIJ)Z"⟩ : MethodName)) hown (mvT hZ (hw _ (List.mem_of_getElem? (i := 95) rfl))) (mvT hZ (hw _ (List.mem_of_getElem? (i := 96) rfl))) (mvT hZ (hw _ (List.mem_of_getElem? (i := 2) rfl))) (mvT hZ (hw _ (List.mem_of_getElem? (i := 97) rfl))) (by decide) (backOf (W := 0) (own_rm13 l Z aA hw [] b83 b7_0 ph156 q5 q1 z79 q2 b7_1 (own_f1_num z3 t0 t1 t2 kp k0 k1 k2) T144.heap n0 (Nat.le_trans (Nat.le_trans (Nat.le_trans (Nat.le_trans (Nat.le_trans (Nat.le_trans (Nat.le_trans (Nat.le_trans (Nat.le_trans Z0 K4.1) K7.1) E28.1) K50.1) E53.1) K80.1) E83.1) K113.1) K144.1) f144_0 f144_1 f144_2 f144_3 f144_4 Fc159 Fc160 Fc161 Fc162 Fc163 hw_164 hw_165) hZ (hw _ (List.mem_of_getElem? (i := 97) rfl)) (hw _ (List.mem_of_getElem? (i := 2) rfl)) (by decide) (by decide)) (g := (mkF m 164 #[.val (.int p0), .val (.long q1), .second, .val (.long q2), .second, .val (.int p3), .val (.long q4), .second, .val (.long q5), .second, .val (.int z1), .val (.int z3), .val (.ref b4_0), .val (.ref b7_0), .val (.ref b28), .val (.ref b53), .val (.ref b83), .val (.int (1 : Int32)), .unset] [(.long q2), (.int z79), (.long q1), (.long q5), (.int ph156), (.ref b7_0), (.ref b83)])) rfl (by rw [hml]; rfl) (argsL := [(.ref b83), (.ref b7_0), (.int ph156), (.long q5), (.long q1), (.int z79), (.long q2)]) (rest := []) (lenOf own_pd11 rfl) rfl (by show 2 * 0 + _ ≤ _; exact Nat.le_of_eq rfl) (hb hby at_164) (fun _ _ => ⟨rfl, rfl, Nat.le_of_ble_eq_true rfl, Nat.le_of_ble_eq_true rfl⟩)
      dsimp only [Pt.U, Pt.locs, Pt.cells, Pt.slots] at X158 l158 y158 z158 st158 hQ158
      subst l158 y158 z158
      obtain ⟨rfl, N158q, ee158⟩ := hQ158
      have N166 := Fr.app N153 N158q
      refine og_of st158 ?_
      show OG p e below _ _ (T158.setTop (mkF m 167 #[.val (.int p0), .val (.long q1), .second, .val (.long q2), .second, .val (.int p3), .val (.long q4), .second, .val (.long q5), .second, .val (.int z1), .val (.int z3), .val (.ref b4_0), .val (.ref b7_0), .val (.ref b28), .val (.ref b53), .val (.ref b83), .val (.int (1 : Int32)), .unset] [(.int (1 : Int32))]))
      refine o_ifN (pc' := 170) X158 hx rfl (hb hby at_167) ((if0 _ _).trans (feq (by decide : ¬ ((1 : Int32) = (0 : Int32)))).1) ?_
      refine o_aload X158 hx rfl (hb hby at_170) rfl rfl ?_
      refine o_aload X158 hx rfl (hb hby at_172) rfl rfl ?_
      have Fc168 : Exa Z T144.heap b53 "com/example/nodeset/nodeset/StoredNode" := (Fc145.keep K144)
      have Fc169 : Fld Z T144.heap b53 "com/example/nodeset/nodeset/StoredNode" "name" "Lcom/example/nodeset/nodeset/NodeName;" (.ref b7_0) := (Fc146.keep K144 (ninS ne109 nin0))
      have Fc170 : Fld Z T144.heap b53 "com/example/nodeset/nodeset/StoredNode" "start" "J" (.long q5) := (Fc149.keep K144 (ninS ne109 nin0))
      have Fc171 : Fld Z T144.heap b53 "com/example/nodeset/nodeset/StoredNode" "end" "J" (.long q1) := (Fc150.keep K144 (ninS ne109 nin0))
      have Fc172 : Fld Z T144.heap b53 "com/example/nodeset/nodeset/StoredNode" "depth" "I" (.int z79) := (Fc151.keep K144 (ninS ne109 nin0))
      have Fc173 : Fld Z T144.heap b53 "com/example/nodeset/nodeset/StoredNode" "textPlace" "J" (.long q2) := (Fc152.keep K144 (ninS ne109 nin0))
      obtain ⟨cq167, kq167, q167a, q167b, q167c⟩ := isOf hZ ee158 Fc159
      obtain ⟨_, _, ⟨T167, L167, k167, n167⟩, -, X167, ⟨Lc167, hQ167, l167, y167, z167⟩, st167⟩ := X158.virtualBack hx (y := (⟨"com/example/nodeset/nodeset/MutableLabel", "labels", "(Lcom/example/nodeset/nodeset/StoredNode;)Z"⟩ : MethodName)) (z := (⟨"com/example/nodeset/nodeset/MutableLabel", "labels", "(Lcom/example/nodeset/nodeset/StoredNode;)Z"⟩ : MethodName)) hown (mvT hZ (hw _ (List.mem_of_getElem? (i := 121) rfl))) (mvT hZ (hw _ (List.mem_of_getElem? (i := 122) rfl))) (notFace_of_selects (args := #[]) (mvT hZ (hw _ (List.mem_of_getElem? (i := 124) rfl)))) (mvT hZ (hw _ (List.mem_of_getElem? (i := 124) rfl))) (mvT hZ (hw _ (List.mem_of_getElem? (i := 123) rfl))) (by decide) (backOf (W := 0) (own_rm17 l Z aA hw [] b83 b53 b7_0 b7_1 q5 q1 z79 q2 T144.heap n0 (Nat.le_trans (Nat.le_trans (Nat.le_trans (Nat.le_trans (Nat.le_trans (Nat.le_trans (Nat.le_trans (Nat.le_trans (Nat.le_trans Z0 K4.1) K7.1) E28.1) K50.1) E53.1) K80.1) E83.1) K113.1) K144.1) Fc168 Fc169 Fc160 Fc161 Fc170 Fc171 Fc172 Fc173 f144_0 f144_1 f144_2 f144_3 f144_4) hZ (hw _ (List.mem_of_getElem? (i := 125) rfl)) (hw _ (List.mem_of_getElem? (i := 41) rfl)) (by decide) (by decide)) q167a q167c (g := (mkF m 174 #[.val (.int p0), .val (.long q1), .second, .val (.long q2), .second, .val (.int p3), .val (.long q4), .second, .val (.long q5), .second, .val (.int z1), .val (.int z3), .val (.ref b4_0), .val (.ref b7_0), .val (.ref b28), .val (.ref b53), .val (.ref b83), .val (.int (1 : Int32)), .unset] [(.ref b53), (.ref b83)])) rfl (by rw [hml]; rfl) (Steps.refl _) (argsL := [(.ref b53)]) (rest := []) (lenOf own_pd12 rfl) rfl (by show 2 * 0 + _ ≤ _; exact Nat.le_of_eq rfl) (hb hby at_174) (fun _ _ => ⟨rfl, ee158, Nat.le_of_ble_eq_true rfl, Nat.le_of_ble_eq_true rfl⟩)
      dsimp only [Pt.U, Pt.locs, Pt.cells, Pt.slots] at X167 l167 y167 z167 st167 hQ167
      subst l167 y167 z167
      obtain ⟨rfl, N167q, ee167⟩ := hQ167
      have N174 := Fr.app N166 N167q
      refine og_tr st167 ?_
      show OG p e below _ _ (T167.setTop (mkF m 177 #[.val (.int p0), .val (.long q1), .second, .val (.long q2), .second, .val (.int p3), .val (.long q4), .second, .val (.long q5), .second, .val (.int z1), .val (.int z3), .val (.ref b4_0), .val (.ref b7_0), .val (.ref b28), .val (.ref b53), .val (.ref b83), .val (.int (1 : Int32)), .unset] [(.int (1 : Int32))]))
      refine o_ifN (pc' := 180) X167 hx rfl (hb hby at_177) ((if0 _ _).trans (feq (by decide : ¬ ((1 : Int32) = (0 : Int32)))).1) ?_
      refine o_iconst (z := (1 : Int32)) X167 hx rfl (hb hby at_180) (by decide) ?_
      refine o_goto (pc' := 185) X167 hx (hb hby at_181) (by decide) (by decide) ?_
      refine o_istore X167 hx rfl (hb hby at_185) (L' := #[.val (.int p0), .val (.long q1), .second, .val (.long q2), .second, .val (.int p3), .val (.long q4), .second, .val (.long q5), .second, .val (.int z1), .val (.int z3), .val (.ref b4_0), .val (.ref b7_0), .val (.ref b28), .val (.ref b53), .val (.ref b83), .val (.int (1 : Int32)), .val (.int (1 : Int32))]) rfl ?_
      refine o_iload X167 hx rfl (hb hby at_187) rfl ?_
      refine o_ifN (pc' := 192) X167 hx rfl (hb hby at_189) ((if0 _ _).trans (feq (by decide : ¬ ((1 : Int32) = (0 : Int32)))).1) ?_
      refine o_iload X167 hx rfl (hb hby at_192) rfl ?_
      refine o_ifN (pc' := 197) X167 hx rfl (hb hby at_194) ((if0 _ _).trans (feq (by decide : ¬ ((1 : Int32) = (0 : Int32)))).1) ?_
      refine o_iconst (z := (1 : Int32)) X167 hx rfl (hb hby at_197) (by decide) ?_
      refine o_goto (pc' := 202) X167 hx (hb hby at_198) (by decide) (by decide) ?_
      exact o_retB X167 hx Bd.returns (own_lvW X167 hlk hS7 (by rw [ee167]; exact (Nat.le_trans (Nat.le_trans (Nat.le_trans (Nat.le_trans (Nat.le_trans (Nat.le_trans (Nat.le_trans (Nat.le_refl _) E28.1) K50.1) E53.1) K80.1) E83.1) K113.1) K144.1)) (by decide) (by decide)) (hb hby at_202) (by decide) ⟨rfl, N174⟩
    by_cases hc175 : z3 = (1 : Int32)
    · skip
      refine o_icmpN (pc' := 151) X144 hx rfl (hb hby at_148) (teq hc175).2 ?_
      refine o_iconst (z := (1 : Int32)) X144 hx rfl (hb hby at_151) (by decide) ?_
      refine o_goto (pc' := 156) X144 hx (hb hby at_152) (by decide) (by decide) ?_
      have q176 : ph156 = (1 : Int32) := by
        rw [← hph156]
        simp only [if_pos hc175]
      rw [q176] at J157
      exact J157
    · skip
      refine o_icmpY (pc' := 155) X144 hx (hb hby at_148) (feq hc175).2 (by decide) (by decide) ?_
      refine o_iconst (z := (0 : Int32)) X144 hx rfl (hb hby at_155) (by decide) ?_
      have q177 : ph156 = (0 : Int32) := by
        rw [← hph156]
        simp only [if_neg hc175]
      rw [q177] at J157
      exact J157
  by_cases hc178 : z1 = (1 : Int32)
  · skip
    refine o_icmpN (pc' := 100) X113 hx rfl (hb hby at_97) (teq hc178).2 ?_
    refine o_iconst (z := (1 : Int32)) X113 hx rfl (hb hby at_100) (by decide) ?_
    refine o_goto (pc' := 105) X113 hx (hb hby at_101) (by decide) (by decide) ?_
    have q179 : ph125 = (1 : Int32) := by
      rw [← hph125]
      simp only [if_pos hc178]
    rw [q179] at J126
    exact J126
  · skip
    refine o_icmpY (pc' := 104) X113 hx (hb hby at_97) (feq hc178).2 (by decide) (by decide) ?_
    refine o_iconst (z := (0 : Int32)) X113 hx rfl (hb hby at_104) (by decide) ?_
    have q180 : ph125 = (0 : Int32) := by
      rw [← hph125]
      simp only [if_neg hc178]
    rw [q180] at J126
    exact J126
theorem own_fldI {args : Array Value} {s : State} {t : Term} {a : Addr} {C n d : String} {v : Int32} (ev : t.eval args s none [] s = some (.ref a)) (h : (Jvm.Cond.eq (Term.field t C n d) (Term.int v)).before args s = true) : Fld s s.heap a C n d (.int v) := by
  refine Fld.start ?_
  have h2 : (Jvm.Cond.eq (Term.field t C n d) (Term.int v)).value args s none s [] = some true := Cond.before_iff.mp h
  simp only [Cond.value, Term.eval, ev] at h2
  cases hq : s.fieldOf? a C n d with
  | none => simp [hq] at h2
  | some x => cases x <;> simp_all
theorem own_fldR {args : Array Value} {s : State} {t u : Term} {a b : Addr} {C n d : String} (ev : t.eval args s none [] s = some (.ref a)) (eu : u.eval args s none [] s = some (.ref b)) (h : (Jvm.Cond.eq (Term.field t C n d) u).before args s = true) : Fld s s.heap a C n d (.ref b) := by
  refine Fld.start ?_
  have h2 : (Jvm.Cond.eq (Term.field t C n d) u).value args s none s [] = some true := Cond.before_iff.mp h
  simp only [Cond.value, Term.eval, ev, eu] at h2
  cases hq : s.fieldOf? a C n d with
  | none => simp [hq] at h2
  | some x => cases x <;> simp_all
set_option maxRecDepth 65536 in
set_option maxHeartbeats 40000000 in
theorem own_comes {Post : Tables → Env → Array Value → State → Outcome → State → Prop} (hpost : ∀ tb e args s v u, (limb_1_1.after args s (.returned v) u = true ∧ limb_1_2.after args s (.returned v) u = true ∧ True) → ReturnedEndW s (.returned v) u (Jvm.fieldLocs frame_1_writes args s ++ Jvm.arrayLocs frame_1_arrays args s ++ Jvm.staticLocs frame_1_statics s) 24 2240 → Post tb e args s (.returned v) u) :
    ArmFor flags0 classFile x code maxLocals ret World_1 tables_1 room_1 Calls_1 rest_1 Pre_1 Post := by
  intro l hfl _ _ p e ha hc hk s m args below hf hA hF happ hP
  obtain ⟨hcalls, hrest, hpre⟩ := hP
  obtain ⟨-, -, -, hnamed, -, -, -, hat⟩ := (Spec.applies_iff hf).mp happ
  obtain ⟨hg, hn⟩ := and_e (Cond.before_iff.mp (show (Jvm.Cond.and given_1 narrow_1).before args s = true from hpre))
  obtain ⟨g0, gr0⟩ := and_e hg
  obtain ⟨gi0, gr1⟩ := and_e gr0
  obtain ⟨gi1, gr2⟩ := and_e gr1
  obtain ⟨gi2, gr3⟩ := and_e gr2
  obtain ⟨gi3, gr4⟩ := and_e gr3
  obtain ⟨gi4, gr5⟩ := and_e gr4
  have gi5 := gr5
  obtain ⟨w0, w1, w2, w3, w4, w5, rfl⟩ : ∃ w0 w1 w2 w3 w4 w5 : Value, args = #[w0, w1, w2, w3, w4, w5] := by
    have hs : args.size = 6 := by simpa [Cond.value, given_1] using g0
    obtain ⟨L⟩ := args
    match L, hs with
    | [w0, w1, w2, w3, w4, w5], _ => exact ⟨w0, w1, w2, w3, w4, w5, rfl⟩
  have hw := fun d (hd : d ∈ tables_1) => atoms_spec (ws := Jvm.Cond.code x code maxLocals ret :: tables_1) hat d (List.mem_cons_of_mem _ hd)
  have hfit : Fit s := fun {y c} hc i hi => by
    obtain ⟨ha, rfl⟩ := Array.getElem?_eq_some_iff.mp hc
    have q := List.all_eq_true.mp ((Array.all_eq_true_iff_forall_mem.mp hF) _ (Array.getElem_mem ha)) i (List.mem_range.mpr hi)
    simpa [Array.getElem?_eq_getElem hi] using q
  obtain ⟨i0, ei0⟩ := is_v gi0
  obtain rfl : w0 = (.int i0) := Option.some.inj ei0
  obtain ⟨i1, ei1⟩ := isL_v gi1
  obtain rfl : w1 = (.long i1) := Option.some.inj ei1
  obtain ⟨i2, ei2⟩ := isL_v gi2
  obtain rfl : w2 = (.long i2) := Option.some.inj ei2
  obtain ⟨i3, ei3⟩ := is_v gi3
  obtain rfl : w3 = (.int i3) := Option.some.inj ei3
  obtain ⟨i4, ei4⟩ := isL_v gi4
  obtain rfl : w4 = (.long i4) := Option.some.inj ei4
  obtain ⟨i5, ei5⟩ := isL_v gi5
  obtain rfl : w5 = (.long i5) := Option.some.inj ei5
  obtain ⟨n1, hn⟩ := and_e hn
  obtain ⟨n2, hn⟩ := and_e hn
  obtain ⟨n3, hn⟩ := and_e hn
  obtain ⟨n4, hn⟩ := and_e hn
  obtain ⟨n5, hn⟩ := and_e hn
  obtain ⟨n6, hn⟩ := and_e hn
  obtain ⟨n7, hn⟩ := and_e hn
  obtain ⟨n8, hn⟩ := and_e hn
  obtain ⟨n9, hn⟩ := and_e hn
  obtain ⟨n10, hn⟩ := and_e hn
  obtain ⟨n11, hn⟩ := and_e hn
  obtain ⟨n12, hn⟩ := and_e hn
  obtain ⟨n13, n14⟩ := and_e hn
  obtain ⟨t0, _, _, _, et0, -⟩ := Cond.exactly_spec (Cond.before_iff.mpr n1)
  obtain ⟨k0, _, _, _, ek0, -⟩ := Cond.exactly_spec (Cond.before_iff.mpr n2)
  obtain ⟨t2, _, _, _, et2, -⟩ := Cond.exactly_spec (Cond.before_iff.mpr n5)
  obtain ⟨k2, _, _, _, ek2, -⟩ := Cond.exactly_spec (Cond.before_iff.mpr n6)
  obtain ⟨kp, _, _, _, ekp, -⟩ := Cond.exactly_spec (Cond.before_iff.mpr n9)
  obtain ⟨t1, _, _, _, et1, -⟩ := Cond.exactly_spec (Cond.before_iff.mpr n10)
  obtain ⟨k1, _, _, _, ek1, -⟩ := Cond.exactly_spec (Cond.before_iff.mpr n12)
  obtain ⟨n, o, h1, h2, h3, _, L, rfl, ⟨rfl, N⟩, hq⟩ := own_rm0 l s _ hw tables_1 i0 i1 i2 i3 i4 i5 t0 t1 t2 kp k0 k1 k2 s.heap s.heap.size (Nat.le_refl _) (Sta.start (Z := s) et0 (Or.inr ⟨(hw _ (List.mem_of_getElem? (i := 5) rfl)), (hw _ (List.mem_of_getElem? (i := 6) rfl))⟩)) (Sta.start (Z := s) et1 (Or.inr ⟨(hw _ (List.mem_of_getElem? (i := 5) rfl)), (hw _ (List.mem_of_getElem? (i := 156) rfl))⟩)) (Sta.start (Z := s) et2 (Or.inr ⟨(hw _ (List.mem_of_getElem? (i := 5) rfl)), (hw _ (List.mem_of_getElem? (i := 127) rfl))⟩)) (Sta.start (Z := s) ekp (Or.inr ⟨(hw _ (List.mem_of_getElem? (i := 63) rfl)), (hw _ (List.mem_of_getElem? (i := 143) rfl))⟩)) (Exa.start (Z := s) et0 n1) (Exa.start (Z := s) et1 n10) (Exa.start (Z := s) et2 n5) (own_fldR et0 ek0 (Cond.before_iff.mpr n3)) (own_fldR et1 ek1 (Cond.before_iff.mpr n13)) (own_fldR et2 ek2 (Cond.before_iff.mpr n7)) (Exa.start (Z := s) ek0 n2) (Exa.start (Z := s) ek1 n12) (Exa.start (Z := s) ek2 n6) (Exa.start (Z := s) ekp n9) (own_fldI ek0 (Cond.before_iff.mpr n4)) (own_fldI ek1 (Cond.before_iff.mpr n14)) (own_fldI ek2 (Cond.before_iff.mpr n8)) (own_fldI ekp (Cond.before_iff.mpr n11)) p e ha hc hk s m _ below hf ((Spec.applies_iff_loose hf).mp happ).1 ⟨rfl, State.Warmed39.refl s, rfl⟩ trivial
  refine ⟨n, _, h1, h2, h3, hpost _ _ _ _ _ _ ⟨Cond.after_iff.mpr rfl, Cond.after_iff.mpr (eq_i res_at (Term.int_eval (1)) rfl), trivial⟩ ⟨hq.1, hq.2.1, hq.2.2.1, (hq.2.2.2.sift fun y hy => Or.inr (N y hy)).mono (by decide) (by decide)⟩⟩
theorem main_1_1 : Claimed_1_1 := own_comes fun _ _ _ _ _ _ h hF => ⟨h.1, hF⟩
theorem main_1_2 : Claimed_1_2 := own_comes fun _ _ _ _ _ _ h hF => ⟨h.2.1, hF⟩
end Jvm.Pilot.@@N@@
namespace Jvm.Pilot.@@N@@
open Jvm Jvm.ClassFile Sem Op Lib Jvm.Free Jvm.Stand Jvm.Pilot.@@N@@.Jvm.D
/-! MADE BY PROGRAM (witnessworld.py) out of the Statement's table words and the real class files: 19 classes; the members and pool entries that the words name. The judged class is class 1, her method 3. -/
namespace start1
open Jvm.ClassFile
def u (s : String) : CpInfo := .utf8 (stringToUtf16 s)
/-- a pool by its gaps: so many unusable entries, then the entry; so many at the end -/
def gap : Nat → List CpInfo → List CpInfo
  | 0, r => r
  | n + 1, r => .unusable :: gap n r
def poolList (es : List (Nat × CpInfo)) (last : Nat) : List CpInfo := es.foldr (fun e r => gap e.1 (e.2 :: r)) (gap last [])
def pool (es : List (Nat × CpInfo)) (last : Nat) : Array CpInfo := ⟨poolList es last⟩
def fileOf (pool : Array CpInfo) (this : Nat) (attrs : Array Attribute := #[]) (ms : Array MethodInfo := #[]) (fl : Nat := 33) (sup : Nat := 0) (ifs : Array Nat := #[]) (fds : Array FieldInfo := #[]) : ClassFile where
  minorVersion := 0
  majorVersion := 65
  constantPool := pool
  accessFlags := fl
  thisClass := this
  superClass := sup
  interfaces := ifs
  fields := fds
  methods := ms
  attributes := attrs
def plain (name : String) (sup : Option ClassId) : Class where
  name := name
  kind := .ordinary
  loader := none
  accessFlags := 33
  super := sup
  interfaces := #[]
  cf := none
  fields := #[]
  methods := #[]
  instanceTypes := #[]
  staticTypes := #[]
  resolved := #[]
  callSites := []
  init := .initialized
  statics := none
  mirror := none

def pool0 : Array CpInfo := pool [(5, u "<init>"), (0, u "()V"), (1, .class_ 10), (1, u "java/lang/Object")] 113

def k0c0 : Code := { maxStack := 0, maxLocals := 1, code := object_method_1_code, exceptionTable := #[], attributes := #[] }
def k0m0 : Method := { name := "<init>", desc := "()V", sig := { parameters := [], returnType := none }, accessFlags := 1, code := some k0c0 }
/-- java/lang/Object -/
def k0 : Class := { plain "java/lang/Object" none with
  accessFlags := 33
  interfaces := #[]
  cf := some (fileOf pool0 8 #[] #[{ accessFlags := 1, nameIndex := 5, descriptorIndex := 6, attributes := #[] }] 33 0 #[] #[])
  fields := #[]
  methods := #[k0m0]
  instanceTypes := #[]
  staticTypes := #[]
  resolved := Array.replicate 124 none
  statics := none }

def pool1 : Array CpInfo := pool [(2, .class_ 4), (0, .nameAndType 5 6), (0, u "java/lang/Object"), (0, u "<init>"), (0, u "()V"), (0, .fieldref 8 9), (0, .class_ 10), (0, .nameAndType 11 12), (0, u "com/example/nodeset/nodeset/NodeName"), (0, u "TEXT"), (0, u "Lcom/example/nodeset/nodeset/NodeName;"), (0, .fieldref 8 14), (0, .nameAndType 15 12), (0, u "DOCUMENT"), (0, .fieldref 8 17), (0, .nameAndType 18 12), (0, u "COMMENT"), (0, .string 20), (0, u "p"), (0, .methodref 8 22), (0, .nameAndType 23 24), (0, u "instruction"), (0, u "(Ljava/lang/String;)Lcom/example/nodeset/nodeset/NodeName;"), (0, .long 2), (1, .fieldref 28 29), (0, .class_ 30), (0, .nameAndType 31 32), (0, u "com/example/nodeset/nodeset/MutableLabel"), (0, u "kind"), (0, u "Lcom/example/nodeset/nodeset/NodeKind;"), (0, .methodref 8 34), (0, .nameAndType 31 35), (0, u "()Lcom/example/nodeset/nodeset/NodeKind;"), (0, .fieldref 28 37), (0, .nameAndType 38 39), (0, u "start"), (0, u "J"), (0, .fieldref 28 41), (0, .nameAndType 42 39), (0, u "end"), (0, .fieldref 28 44), (0, .nameAndType 45 46), (0, u "depth"), (0, u "I"), (0, .fieldref 28 48), (0, .nameAndType 49 39), (0, u "textPlace"), (0, .methodref 28 51), (0, .nameAndType 52 53), (0, u "place"), (0, u "()J"), (0, .methodref 55 56), (0, .class_ 57), (0, .nameAndType 58 59), (0, u "com/example/nodeset/nodeset/MutableLabelSetPinLaw"), (0, u "name"), (0, u "(I)Lcom/example/nodeset/nodeset/NodeName;"), (0, .class_ 61), (0, u "com/example/nodeset/nodeset/StoredNode"), (0, .methodref 60 63), (0, .nameAndType 5 64), (0, u "(Lcom/example/nodeset/nodeset/NodeName;IJJIJJJJ)V"), (0, .methodref 28 3), (0, .methodref 28 67), (0, .nameAndType 68 69), (0, u "set"), (0, u "(Lcom/example/nodeset/nodeset/StoredNode;)V"), (0, .methodref 55 71), (0, .nameAndType 72 73), (0, u "matches"), (0, u "(Lcom/example/nodeset/nodeset/MutableLabel;Lcom/example/nodeset/nodeset/NodeName;ZJJIJ)Z"), (0, .methodref 28 75), (0, .nameAndType 76 77), (0, u "labels"), (0, u "(Lcom/example/nodeset/nodeset/StoredNode;)Z"), (3, u "law"), (0, u "(IJJIJJ)Z")] 2

def k1m0 : Method := { name := "<init>", desc := "()V", sig := { parameters := [], returnType := none }, accessFlags := 1, code := none }
def k1c1 : Code := { maxStack := 2, maxLocals := 1, code := method_2_code, exceptionTable := #[], attributes := #[] }
def k1m1 : Method := { name := "name", desc := "(I)Lcom/example/nodeset/nodeset/NodeName;", sig := { parameters := [.int], returnType := some (.object "com/example/nodeset/nodeset/NodeName") }, accessFlags := 10, code := some k1c1 }
def k1c2 : Code := { maxStack := 4, maxLocals := 12, code := method_3_code, exceptionTable := #[], attributes := #[] }
def k1m2 : Method := { name := "matches", desc := "(Lcom/example/nodeset/nodeset/MutableLabel;Lcom/example/nodeset/nodeset/NodeName;ZJJIJ)Z", sig := { parameters := [(.object "com/example/nodeset/nodeset/MutableLabel"), (.object "com/example/nodeset/nodeset/NodeName"), .boolean, .long, .long, .int, .long], returnType := some .boolean }, accessFlags := 10, code := some k1c2 }
def k1c3 : Code := { maxStack := 17, maxLocals := 19, code := code, exceptionTable := #[], attributes := #[] }
def k1m3 : Method := { name := "law", desc := "(IJJIJJ)Z", sig := { parameters := [.int, .long, .long, .int, .long, .long], returnType := some .boolean }, accessFlags := 9, code := some k1c3 }
/-- com/example/nodeset/nodeset/MutableLabelSetPinLaw -/
def k1 : Class := { plain "com/example/nodeset/nodeset/MutableLabelSetPinLaw" (some 0) with
  accessFlags := 49
  interfaces := #[]
  cf := some (fileOf pool1 55 #[] #[{ accessFlags := 1, nameIndex := 5, descriptorIndex := 6, attributes := #[] }, { accessFlags := 10, nameIndex := 58, descriptorIndex := 59, attributes := #[] }, { accessFlags := 10, nameIndex := 72, descriptorIndex := 73, attributes := #[] }, { accessFlags := 9, nameIndex := 81, descriptorIndex := 82, attributes := #[] }] 49 2 #[] #[])
  fields := #[]
  methods := #[k1m0, k1m1, k1m2, k1m3]
  instanceTypes := #[]
  staticTypes := #[]
  resolved := Array.replicate 85 none
  statics := none }

def pool2 : Array CpInfo := pool [(1, .methodref 2 3), (0, .class_ 4), (0, .nameAndType 5 6), (0, u "java/lang/Object"), (0, u "<init>"), (0, u "()V"), (0, .class_ 8), (0, u "java/lang/Record")] 13

def k2c0 : Code := { maxStack := 1, maxLocals := 1, code := jdk_30_method_1_code, exceptionTable := #[], attributes := #[] }
def k2m0 : Method := { name := "<init>", desc := "()V", sig := { parameters := [], returnType := none }, accessFlags := 4, code := some k2c0 }
/-- java/lang/Record -/
def k2 : Class := { plain "java/lang/Record" (some 0) with
  accessFlags := 1057
  interfaces := #[]
  cf := some (fileOf pool2 7 #[] #[{ accessFlags := 4, nameIndex := 5, descriptorIndex := 6, attributes := #[] }] 1057 2 #[] #[])
  fields := #[]
  methods := #[k2m0]
  instanceTypes := #[]
  staticTypes := #[]
  resolved := Array.replicate 22 none
  statics := none }

def pool3 : Array CpInfo := pool [(1, .class_ 2), (0, u "java/lang/Comparable"), (0, .class_ 4), (0, u "java/lang/Object")] 7

/-- java/lang/Comparable -/
def k3 : Class := { plain "java/lang/Comparable" (some 0) with
  accessFlags := 1537
  interfaces := #[]
  cf := some (fileOf pool3 1 #[] #[] 1537 3 #[] #[])
  fields := #[]
  methods := #[]
  instanceTypes := #[]
  staticTypes := #[]
  resolved := Array.replicate 12 none
  statics := none }

def pool4 : Array CpInfo := pool [(1, .methodref 2 3), (0, .class_ 4), (0, .nameAndType 5 6), (0, u "java/lang/Record"), (0, u "<init>"), (0, u "()V"), (0, .fieldref 8 9), (0, .class_ 10), (0, .nameAndType 11 12), (0, u "com/example/nodeset/nodeset/NodeName"), (0, u "kind"), (0, u "Lcom/example/nodeset/nodeset/NodeKind;"), (0, .fieldref 8 14), (0, .nameAndType 15 16), (0, u "namespace"), (0, u "Ljava/lang/String;"), (0, .fieldref 8 18), (0, .nameAndType 19 16), (0, u "localName"), (0, .fieldref 8 21), (0, .nameAndType 22 16), (0, u "prefix"), (7, .class_ 32), (1, u "com/example/nodeset/nodeset/NodeKind"), (10, .fieldref 30 44), (0, .nameAndType 45 12), (0, u "PROCESSING_INSTRUCTION"), (0, .string 47), (0, u ""), (0, .methodref 8 49), (0, .nameAndType 5 50), (0, u "(Lcom/example/nodeset/nodeset/NodeKind;Ljava/lang/String;Ljava/lang/String;Ljava/lang/String;)V"), (9, .class_ 62), (1, u "com/example/nodeset/nodeset/NodeName$1"), (32, u "TEXT"), (2, u "Lcom/example/nodeset/nodeset/NodeName;"), (2, u "DOCUMENT"), (4, u "COMMENT"), (2, .class_ 110), (0, u "java/lang/Comparable"), (4, u "instruction"), (0, u "(Ljava/lang/String;)Lcom/example/nodeset/nodeset/NodeName;"), (3, u "()Lcom/example/nodeset/nodeset/NodeKind;")] 38

def k4c0 : Code := { maxStack := 2, maxLocals := 5, code := prog_41_method_1_code, exceptionTable := #[], attributes := #[] }
def k4m0 : Method := { name := "<init>", desc := "(Lcom/example/nodeset/nodeset/NodeKind;Ljava/lang/String;Ljava/lang/String;Ljava/lang/String;)V", sig := { parameters := [(.object "com/example/nodeset/nodeset/NodeKind"), (.object "java/lang/String"), (.object "java/lang/String"), (.object "java/lang/String")], returnType := none }, accessFlags := 0, code := some k4c0 }
def k4c1 : Code := { maxStack := 6, maxLocals := 1, code := prog_41_method_5_code, exceptionTable := #[], attributes := #[] }
def k4m1 : Method := { name := "instruction", desc := "(Ljava/lang/String;)Lcom/example/nodeset/nodeset/NodeName;", sig := { parameters := [(.object "java/lang/String")], returnType := some (.object "com/example/nodeset/nodeset/NodeName") }, accessFlags := 8, code := some k4c1 }
def k4c2 : Code := { maxStack := 1, maxLocals := 1, code := prog_41_method_10_code, exceptionTable := #[], attributes := #[] }
def k4m2 : Method := { name := "kind", desc := "()Lcom/example/nodeset/nodeset/NodeKind;", sig := { parameters := [], returnType := some (.object "com/example/nodeset/nodeset/NodeKind") }, accessFlags := 1, code := some k4c2 }
/-- com/example/nodeset/nodeset/NodeName -/
def k4 : Class := { plain "com/example/nodeset/nodeset/NodeName" (some 2) with
  accessFlags := 48
  interfaces := #[3]
  cf := some (fileOf pool4 8 #[.nestMembers #[60]] #[{ accessFlags := 0, nameIndex := 5, descriptorIndex := 50, attributes := #[] }, { accessFlags := 8, nameIndex := 115, descriptorIndex := 116, attributes := #[] }, { accessFlags := 1, nameIndex := 11, descriptorIndex := 120, attributes := #[] }] 48 2 #[109] #[{ accessFlags := 18, nameIndex := 11, descriptorIndex := 12, attributes := #[] }, { accessFlags := 18, nameIndex := 15, descriptorIndex := 16, attributes := #[] }, { accessFlags := 18, nameIndex := 19, descriptorIndex := 16, attributes := #[] }, { accessFlags := 18, nameIndex := 22, descriptorIndex := 16, attributes := #[] }, { accessFlags := 24, nameIndex := 95, descriptorIndex := 98, attributes := #[] }, { accessFlags := 24, nameIndex := 101, descriptorIndex := 98, attributes := #[] }, { accessFlags := 24, nameIndex := 106, descriptorIndex := 98, attributes := #[] }])
  fields := #[{ name := "kind", type := (.object "com/example/nodeset/nodeset/NodeKind"), accessFlags := 18, slot := 0, constantValue := 0 }, { name := "namespace", type := (.object "java/lang/String"), accessFlags := 18, slot := 1, constantValue := 0 }, { name := "localName", type := (.object "java/lang/String"), accessFlags := 18, slot := 2, constantValue := 0 }, { name := "prefix", type := (.object "java/lang/String"), accessFlags := 18, slot := 3, constantValue := 0 }, { name := "TEXT", type := (.object "com/example/nodeset/nodeset/NodeName"), accessFlags := 24, slot := 0, constantValue := 0 }, { name := "DOCUMENT", type := (.object "com/example/nodeset/nodeset/NodeName"), accessFlags := 24, slot := 1, constantValue := 0 }, { name := "COMMENT", type := (.object "com/example/nodeset/nodeset/NodeName"), accessFlags := 24, slot := 2, constantValue := 0 }]
  methods := #[k4m0, k4m1, k4m2]
  instanceTypes := #[(.object "com/example/nodeset/nodeset/NodeKind"), (.object "java/lang/String"), (.object "java/lang/String"), (.object "java/lang/String")]
  staticTypes := #[(.object "com/example/nodeset/nodeset/NodeName"), (.object "com/example/nodeset/nodeset/NodeName"), (.object "com/example/nodeset/nodeset/NodeName")]
  resolved := Array.replicate 159 none
  statics := some 0 }

def pool5 : Array CpInfo := pool [(1, .methodref 2 3), (0, .class_ 4), (0, .nameAndType 5 6), (0, u "java/lang/Record"), (0, u "<init>"), (0, u "()V"), (0, .fieldref 8 9), (0, .class_ 10), (0, .nameAndType 11 12), (0, u "com/example/nodeset/nodeset/StoredNode"), (0, u "name"), (0, u "Lcom/example/nodeset/nodeset/NodeName;"), (0, .fieldref 8 14), (0, .nameAndType 15 16), (0, u "document"), (0, u "I"), (0, .fieldref 8 18), (0, .nameAndType 19 20), (0, u "start"), (0, u "J"), (0, .fieldref 8 22), (0, .nameAndType 23 20), (0, u "end"), (0, .fieldref 8 25), (0, .nameAndType 26 16), (0, u "depth"), (0, .fieldref 8 28), (0, .nameAndType 29 20), (0, u "textPlace"), (0, .fieldref 8 31), (0, .nameAndType 32 20), (0, u "valueFrom"), (0, .fieldref 8 34), (0, .nameAndType 35 20), (0, u "valueTo"), (0, .fieldref 8 37), (0, .nameAndType 38 20), (0, u "record"), (1, .class_ 42), (1, u "com/example/nodeset/nodeset/NodeName"), (8, .methodref 40 52), (0, .nameAndType 53 54), (0, u "kind"), (0, u "()Lcom/example/nodeset/nodeset/NodeKind;"), (1, .methodref 57 58), (0, .class_ 59), (0, .nameAndType 60 61), (0, u "com/example/nodeset/nodeset/NodeKind"), (0, u "numbered"), (0, u "()Z"), (2, u "()I"), (2, u "()J"), (13, u "position"), (0, u "(Lcom/example/nodeset/nodeset/NodeKind;JJ)J"), (6, .long 2), (5, u "NO_RECORD"), (3, u "(Lcom/example/nodeset/nodeset/NodeName;IJJIJJJJ)V")] 35

def k5c0 : Code := { maxStack := 3, maxLocals := 16, code := prog_76_method_1_code, exceptionTable := #[], attributes := #[] }
def k5m0 : Method := { name := "<init>", desc := "(Lcom/example/nodeset/nodeset/NodeName;IJJIJJJJ)V", sig := { parameters := [(.object "com/example/nodeset/nodeset/NodeName"), .int, .long, .long, .int, .long, .long, .long, .long], returnType := none }, accessFlags := 0, code := some k5c0 }
def k5c1 : Code := { maxStack := 1, maxLocals := 1, code := prog_76_method_4_code, exceptionTable := #[], attributes := #[] }
def k5m1 : Method := { name := "kind", desc := "()Lcom/example/nodeset/nodeset/NodeKind;", sig := { parameters := [], returnType := some (.object "com/example/nodeset/nodeset/NodeKind") }, accessFlags := 0, code := some k5c1 }
def k5c2 : Code := { maxStack := 4, maxLocals := 5, code := prog_76_method_9_code, exceptionTable := #[], attributes := #[] }
def k5m2 : Method := { name := "position", desc := "(Lcom/example/nodeset/nodeset/NodeKind;JJ)J", sig := { parameters := [(.object "com/example/nodeset/nodeset/NodeKind"), .long, .long], returnType := some .long }, accessFlags := 8, code := some k5c2 }
def k5c3 : Code := { maxStack := 2, maxLocals := 1, code := prog_76_method_14_code, exceptionTable := #[], attributes := #[] }
def k5m3 : Method := { name := "start", desc := "()J", sig := { parameters := [], returnType := some .long }, accessFlags := 1, code := some k5c3 }
def k5c4 : Code := { maxStack := 2, maxLocals := 1, code := prog_76_method_15_code, exceptionTable := #[], attributes := #[] }
def k5m4 : Method := { name := "end", desc := "()J", sig := { parameters := [], returnType := some .long }, accessFlags := 1, code := some k5c4 }
def k5c5 : Code := { maxStack := 1, maxLocals := 1, code := prog_76_method_16_code, exceptionTable := #[], attributes := #[] }
def k5m5 : Method := { name := "depth", desc := "()I", sig := { parameters := [], returnType := some .int }, accessFlags := 1, code := some k5c5 }
def k5c6 : Code := { maxStack := 2, maxLocals := 1, code := prog_76_method_17_code, exceptionTable := #[], attributes := #[] }
def k5m6 : Method := { name := "textPlace", desc := "()J", sig := { parameters := [], returnType := some .long }, accessFlags := 1, code := some k5c6 }
/-- com/example/nodeset/nodeset/StoredNode -/
def k5 : Class := { plain "com/example/nodeset/nodeset/StoredNode" (some 2) with
  accessFlags := 48
  interfaces := #[]
  cf := some (fileOf pool5 8 #[] #[{ accessFlags := 0, nameIndex := 5, descriptorIndex := 99, attributes := #[] }, { accessFlags := 0, nameIndex := 53, descriptorIndex := 54, attributes := #[] }, { accessFlags := 8, nameIndex := 81, descriptorIndex := 82, attributes := #[] }, { accessFlags := 1, nameIndex := 19, descriptorIndex := 67, attributes := #[] }, { accessFlags := 1, nameIndex := 23, descriptorIndex := 67, attributes := #[] }, { accessFlags := 1, nameIndex := 26, descriptorIndex := 64, attributes := #[] }, { accessFlags := 1, nameIndex := 29, descriptorIndex := 67, attributes := #[] }] 48 2 #[] #[{ accessFlags := 18, nameIndex := 11, descriptorIndex := 12, attributes := #[] }, { accessFlags := 18, nameIndex := 15, descriptorIndex := 16, attributes := #[] }, { accessFlags := 18, nameIndex := 19, descriptorIndex := 20, attributes := #[] }, { accessFlags := 18, nameIndex := 23, descriptorIndex := 20, attributes := #[] }, { accessFlags := 18, nameIndex := 26, descriptorIndex := 16, attributes := #[] }, { accessFlags := 18, nameIndex := 29, descriptorIndex := 20, attributes := #[] }, { accessFlags := 18, nameIndex := 32, descriptorIndex := 20, attributes := #[] }, { accessFlags := 18, nameIndex := 35, descriptorIndex := 20, attributes := #[] }, { accessFlags := 18, nameIndex := 38, descriptorIndex := 20, attributes := #[] }, { accessFlags := 24, nameIndex := 95, descriptorIndex := 20, attributes := #[] }])
  fields := #[{ name := "name", type := (.object "com/example/nodeset/nodeset/NodeName"), accessFlags := 18, slot := 0, constantValue := 0 }, { name := "document", type := .int, accessFlags := 18, slot := 1, constantValue := 0 }, { name := "start", type := .long, accessFlags := 18, slot := 2, constantValue := 0 }, { name := "end", type := .long, accessFlags := 18, slot := 3, constantValue := 0 }, { name := "depth", type := .int, accessFlags := 18, slot := 4, constantValue := 0 }, { name := "textPlace", type := .long, accessFlags := 18, slot := 5, constantValue := 0 }, { name := "valueFrom", type := .long, accessFlags := 18, slot := 6, constantValue := 0 }, { name := "valueTo", type := .long, accessFlags := 18, slot := 7, constantValue := 0 }, { name := "record", type := .long, accessFlags := 18, slot := 8, constantValue := 0 }, { name := "NO_RECORD", type := .long, accessFlags := 24, slot := 0, constantValue := 0 }]
  methods := #[k5m0, k5m1, k5m2, k5m3, k5m4, k5m5, k5m6]
  instanceTypes := #[(.object "com/example/nodeset/nodeset/NodeName"), .int, .long, .long, .int, .long, .long, .long, .long]
  staticTypes := #[.long]
  resolved := Array.replicate 135 none
  statics := none }

def pool6 : Array CpInfo := pool [(1, .methodref 2 3), (0, .class_ 4), (0, .nameAndType 5 6), (0, u "java/lang/Object"), (0, u "<init>"), (0, u "()V"), (0, .methodref 8 9), (0, .class_ 10), (0, .nameAndType 11 12), (0, u "com/example/nodeset/nodeset/StoredNode"), (0, u "kind"), (0, u "()Lcom/example/nodeset/nodeset/NodeKind;"), (0, .fieldref 14 15), (0, .class_ 16), (0, .nameAndType 11 17), (0, u "com/example/nodeset/nodeset/MutableLabel"), (0, u "Lcom/example/nodeset/nodeset/NodeKind;"), (0, .methodref 8 19), (0, .nameAndType 20 21), (0, u "start"), (0, u "()J"), (0, .fieldref 14 23), (0, .nameAndType 20 24), (0, u "J"), (0, .methodref 8 26), (0, .nameAndType 27 21), (0, u "end"), (0, .fieldref 14 29), (0, .nameAndType 27 24), (0, .methodref 8 31), (0, .nameAndType 32 33), (0, u "depth"), (0, u "()I"), (0, .fieldref 14 35), (0, .nameAndType 32 36), (0, u "I"), (0, .methodref 8 38), (0, .nameAndType 39 21), (0, u "textPlace"), (0, .fieldref 14 41), (0, .nameAndType 39 24), (0, .methodref 8 43), (0, .nameAndType 44 45), (0, u "position"), (0, u "(Lcom/example/nodeset/nodeset/NodeKind;JJ)J"), (2, u "set"), (0, u "(Lcom/example/nodeset/nodeset/StoredNode;)V"), (1, u "place"), (0, u "labels"), (0, u "(Lcom/example/nodeset/nodeset/StoredNode;)Z")] 3

def k6c0 : Code := { maxStack := 1, maxLocals := 1, code := prog_32_method_1_code, exceptionTable := #[], attributes := #[] }
def k6m0 : Method := { name := "<init>", desc := "()V", sig := { parameters := [], returnType := none }, accessFlags := 0, code := some k6c0 }
def k6c1 : Code := { maxStack := 3, maxLocals := 2, code := prog_32_method_2_code, exceptionTable := #[], attributes := #[] }
def k6m1 : Method := { name := "set", desc := "(Lcom/example/nodeset/nodeset/StoredNode;)V", sig := { parameters := [(.object "com/example/nodeset/nodeset/StoredNode")], returnType := none }, accessFlags := 0, code := some k6c1 }
def k6c2 : Code := { maxStack := 5, maxLocals := 1, code := prog_32_method_4_code, exceptionTable := #[], attributes := #[] }
def k6m2 : Method := { name := "place", desc := "()J", sig := { parameters := [], returnType := some .long }, accessFlags := 0, code := some k6c2 }
def k6c3 : Code := { maxStack := 4, maxLocals := 2, code := prog_32_method_5_code, exceptionTable := #[], attributes := #[] }
def k6m3 : Method := { name := "labels", desc := "(Lcom/example/nodeset/nodeset/StoredNode;)Z", sig := { parameters := [(.object "com/example/nodeset/nodeset/StoredNode")], returnType := some .boolean }, accessFlags := 0, code := some k6c3 }
/-- com/example/nodeset/nodeset/MutableLabel -/
def k6 : Class := { plain "com/example/nodeset/nodeset/MutableLabel" (some 0) with
  accessFlags := 32
  interfaces := #[]
  cf := some (fileOf pool6 14 #[] #[{ accessFlags := 0, nameIndex := 5, descriptorIndex := 6, attributes := #[] }, { accessFlags := 0, nameIndex := 48, descriptorIndex := 49, attributes := #[] }, { accessFlags := 0, nameIndex := 51, descriptorIndex := 21, attributes := #[] }, { accessFlags := 0, nameIndex := 52, descriptorIndex := 53, attributes := #[] }] 32 2 #[] #[{ accessFlags := 0, nameIndex := 11, descriptorIndex := 17, attributes := #[] }, { accessFlags := 0, nameIndex := 20, descriptorIndex := 24, attributes := #[] }, { accessFlags := 0, nameIndex := 27, descriptorIndex := 24, attributes := #[] }, { accessFlags := 0, nameIndex := 32, descriptorIndex := 36, attributes := #[] }, { accessFlags := 0, nameIndex := 39, descriptorIndex := 24, attributes := #[] }])
  fields := #[{ name := "kind", type := (.object "com/example/nodeset/nodeset/NodeKind"), accessFlags := 0, slot := 0, constantValue := 0 }, { name := "start", type := .long, accessFlags := 0, slot := 1, constantValue := 0 }, { name := "end", type := .long, accessFlags := 0, slot := 2, constantValue := 0 }, { name := "depth", type := .int, accessFlags := 0, slot := 3, constantValue := 0 }, { name := "textPlace", type := .long, accessFlags := 0, slot := 4, constantValue := 0 }]
  methods := #[k6m0, k6m1, k6m2, k6m3]
  instanceTypes := #[(.object "com/example/nodeset/nodeset/NodeKind"), .long, .long, .int, .long]
  staticTypes := #[]
  resolved := Array.replicate 57 none
  statics := none }

def pool7 : Array CpInfo := pool [(1, .class_ 2), (0, u "java/lang/constant/Constable"), (0, .class_ 4), (0, u "java/lang/Object")] 6

/-- java/lang/constant/Constable -/
def k7 : Class := { plain "java/lang/constant/Constable" (some 0) with
  accessFlags := 1537
  interfaces := #[]
  cf := some (fileOf pool7 1 #[] #[] 1537 3 #[] #[])
  fields := #[]
  methods := #[]
  instanceTypes := #[]
  staticTypes := #[]
  resolved := Array.replicate 11 none
  statics := none }

def pool8 : Array CpInfo := pool [(1, .class_ 2), (0, u "java/io/Serializable"), (0, .class_ 4), (0, u "java/lang/Object")] 2

/-- java/io/Serializable -/
def k8 : Class := { plain "java/io/Serializable" (some 0) with
  accessFlags := 1537
  interfaces := #[]
  cf := some (fileOf pool8 1 #[] #[] 1537 3 #[] #[])
  fields := #[]
  methods := #[]
  instanceTypes := #[]
  staticTypes := #[]
  resolved := Array.replicate 7 none
  statics := none }

def pool9 : Array CpInfo := pool [(2, .class_ 4), (1, u "java/lang/Enum"), (0, u "name"), (0, u "Ljava/lang/String;"), (2, u "ordinal"), (0, u "I"), (1, .class_ 14), (1, u "java/lang/Object"), (4, u "hash"), (86, .class_ 108), (1, u "java/lang/Enum$EnumDesc"), (2, .class_ 112), (0, u "java/lang/constant/Constable"), (0, .class_ 114), (0, u "java/lang/Comparable"), (0, .class_ 116), (0, u "java/io/Serializable")] 87

/-- java/lang/Enum -/
def k9 : Class := { plain "java/lang/Enum" (some 0) with
  accessFlags := 1057
  interfaces := #[7, 3, 8]
  cf := some (fileOf pool9 2 #[.nestMembers #[106]] #[] 1057 12 #[111, 113, 115] #[{ accessFlags := 18, nameIndex := 5, descriptorIndex := 6, attributes := #[] }, { accessFlags := 18, nameIndex := 9, descriptorIndex := 10, attributes := #[] }, { accessFlags := 2, nameIndex := 19, descriptorIndex := 10, attributes := #[] }])
  fields := #[{ name := "name", type := (.object "java/lang/String"), accessFlags := 18, slot := 0, constantValue := 0 }, { name := "ordinal", type := .int, accessFlags := 18, slot := 1, constantValue := 0 }, { name := "hash", type := .int, accessFlags := 2, slot := 2, constantValue := 0 }]
  methods := #[]
  instanceTypes := #[(.object "java/lang/String"), .int, .int]
  staticTypes := #[]
  resolved := Array.replicate 204 none
  statics := none }

def pool10 : Array CpInfo := pool [(1, .class_ 2), (0, u "com/example/nodeset/nodeset/NodeKind"), (2, u "ELEMENT"), (0, u "Lcom/example/nodeset/nodeset/NodeKind;"), (2, u "ATTRIBUTE"), (2, u "TEXT"), (2, u "DOCUMENT"), (2, u "COMMENT"), (2, u "PROCESSING_INSTRUCTION"), (2, u "$VALUES"), (0, u "[Lcom/example/nodeset/nodeset/NodeKind;"), (6, .class_ 34), (1, u "java/lang/Enum"), (6, .fieldref 1 42), (0, .nameAndType 43 44), (0, u "numbered"), (0, u "Z"), (21, u "CONTENT"), (0, u "Ljava/util/Set;"), (8, u "()Z")] 5

def k10c0 : Code := { maxStack := 1, maxLocals := 1, code := prog_39_method_4_code, exceptionTable := #[], attributes := #[] }
def k10m0 : Method := { name := "numbered", desc := "()Z", sig := { parameters := [], returnType := some .boolean }, accessFlags := 0, code := some k10c0 }
/-- com/example/nodeset/nodeset/NodeKind -/
def k10 : Class := { plain "com/example/nodeset/nodeset/NodeKind" (some 9) with
  accessFlags := 16432
  interfaces := #[]
  cf := some (fileOf pool10 1 #[] #[{ accessFlags := 0, nameIndex := 43, descriptorIndex := 76, attributes := #[] }] 16432 32 #[] #[{ accessFlags := 16409, nameIndex := 5, descriptorIndex := 6, attributes := #[] }, { accessFlags := 16409, nameIndex := 9, descriptorIndex := 6, attributes := #[] }, { accessFlags := 16409, nameIndex := 12, descriptorIndex := 6, attributes := #[] }, { accessFlags := 16409, nameIndex := 15, descriptorIndex := 6, attributes := #[] }, { accessFlags := 16409, nameIndex := 18, descriptorIndex := 6, attributes := #[] }, { accessFlags := 16409, nameIndex := 21, descriptorIndex := 6, attributes := #[] }, { accessFlags := 24, nameIndex := 66, descriptorIndex := 67, attributes := #[] }, { accessFlags := 18, nameIndex := 43, descriptorIndex := 44, attributes := #[] }, { accessFlags := 4122, nameIndex := 24, descriptorIndex := 25, attributes := #[] }])
  fields := #[{ name := "ELEMENT", type := (.object "com/example/nodeset/nodeset/NodeKind"), accessFlags := 16409, slot := 0, constantValue := 0 }, { name := "ATTRIBUTE", type := (.object "com/example/nodeset/nodeset/NodeKind"), accessFlags := 16409, slot := 1, constantValue := 0 }, { name := "TEXT", type := (.object "com/example/nodeset/nodeset/NodeKind"), accessFlags := 16409, slot := 2, constantValue := 0 }, { name := "DOCUMENT", type := (.object "com/example/nodeset/nodeset/NodeKind"), accessFlags := 16409, slot := 3, constantValue := 0 }, { name := "COMMENT", type := (.object "com/example/nodeset/nodeset/NodeKind"), accessFlags := 16409, slot := 4, constantValue := 0 }, { name := "PROCESSING_INSTRUCTION", type := (.object "com/example/nodeset/nodeset/NodeKind"), accessFlags := 16409, slot := 5, constantValue := 0 }, { name := "CONTENT", type := (.object "java/util/Set"), accessFlags := 24, slot := 6, constantValue := 0 }, { name := "numbered", type := .boolean, accessFlags := 18, slot := 3, constantValue := 0 }, { name := "$VALUES", type := (.array (.object "com/example/nodeset/nodeset/NodeKind")), accessFlags := 4122, slot := 7, constantValue := 0 }]
  methods := #[k10m0]
  instanceTypes := #[(.object "java/lang/String"), .int, .int, .boolean]
  staticTypes := #[(.object "com/example/nodeset/nodeset/NodeKind"), (.object "com/example/nodeset/nodeset/NodeKind"), (.object "com/example/nodeset/nodeset/NodeKind"), (.object "com/example/nodeset/nodeset/NodeKind"), (.object "com/example/nodeset/nodeset/NodeKind"), (.object "com/example/nodeset/nodeset/NodeKind"), (.object "java/util/Set"), (.array (.object "com/example/nodeset/nodeset/NodeKind"))]
  resolved := Array.replicate 82 none
  statics := some 1 }

def pool11 : Array CpInfo := pool [(2, .class_ 4), (1, u "java/lang/CharSequence"), (42, .class_ 48), (0, u "java/lang/CharSequence$1CodePointIterator"), (10, .class_ 60), (0, u "java/lang/CharSequence$1CharIterator"), (5, .class_ 67), (0, u "java/lang/Object")] 63

/-- java/lang/CharSequence -/
def k11 : Class := { plain "java/lang/CharSequence" (some 0) with
  accessFlags := 1537
  interfaces := #[]
  cf := some (fileOf pool11 2 #[.nestMembers #[47, 59]] #[] 1537 66 #[] #[])
  fields := #[]
  methods := #[]
  instanceTypes := #[]
  staticTypes := #[]
  resolved := Array.replicate 131 none
  statics := none }

def pool12 : Array CpInfo := pool [(1, .class_ 2), (0, u "java/lang/constant/ConstantDesc"), (0, .class_ 4), (0, u "java/lang/Object")] 32

/-- java/lang/constant/ConstantDesc -/
def k12 : Class := { plain "java/lang/constant/ConstantDesc" (some 0) with
  accessFlags := 1537
  interfaces := #[]
  cf := some (fileOf pool12 1 #[] #[] 1537 3 #[] #[])
  fields := #[]
  methods := #[]
  instanceTypes := #[]
  staticTypes := #[]
  resolved := Array.replicate 37 none
  statics := none }

def pool13 : Array CpInfo := pool [(2, .class_ 4), (1, u "java/lang/Object"), (0, u "<init>"), (0, u "()V"), (3, .class_ 12), (1, u "java/lang/String"), (0, u "value"), (0, u "[B"), (2, u "coder"), (0, u "B"), (2, u "hash"), (0, u "I"), (2, u "hashIsZero"), (0, u "Z"), (13, u "COMPACT_STRINGS"), (534, .class_ 576), (0, u "java/lang/CharSequence"), (22, u "CASE_INSENSITIVE_ORDER"), (0, u "Ljava/util/Comparator;"), (500, u "serialPersistentFields"), (0, u "[Ljava/io/ObjectStreamField;"), (0, .class_ 1104), (0, u "java/lang/String$CaseInsensitiveComparator"), (1, .class_ 1107), (0, u "java/io/Serializable"), (0, .class_ 1109), (0, u "java/lang/Comparable"), (0, .class_ 1111), (0, u "java/lang/constant/Constable"), (0, .class_ 1113), (0, u "java/lang/constant/ConstantDesc"), (2, u "serialVersionUID"), (0, u "J"), (3, u "REPL"), (0, u "C"), (2, u "LATIN1"), (1, u "UTF16")] 323

def k13m0 : Method := { name := "<init>", desc := "()V", sig := { parameters := [], returnType := none }, accessFlags := 1, code := none }
/-- java/lang/String -/
def k13 : Class := { plain "java/lang/String" (some 0) with
  accessFlags := 49
  interfaces := #[8, 3, 11, 7, 12]
  cf := some (fileOf pool13 10 #[.nestMembers #[1103]] #[{ accessFlags := 1, nameIndex := 5, descriptorIndex := 6, attributes := #[] }] 49 2 #[1106, 1108, 575, 1110, 1112] #[{ accessFlags := 18, nameIndex := 13, descriptorIndex := 14, attributes := #[] }, { accessFlags := 18, nameIndex := 17, descriptorIndex := 18, attributes := #[] }, { accessFlags := 2, nameIndex := 21, descriptorIndex := 22, attributes := #[] }, { accessFlags := 2, nameIndex := 25, descriptorIndex := 26, attributes := #[] }, { accessFlags := 26, nameIndex := 1116, descriptorIndex := 1117, attributes := #[] }, { accessFlags := 24, nameIndex := 40, descriptorIndex := 26, attributes := #[] }, { accessFlags := 26, nameIndex := 1101, descriptorIndex := 1102, attributes := #[] }, { accessFlags := 26, nameIndex := 1121, descriptorIndex := 1122, attributes := #[] }, { accessFlags := 25, nameIndex := 599, descriptorIndex := 600, attributes := #[] }, { accessFlags := 24, nameIndex := 1125, descriptorIndex := 18, attributes := #[] }, { accessFlags := 24, nameIndex := 1127, descriptorIndex := 18, attributes := #[] }])
  fields := #[{ name := "value", type := (.array .byte), accessFlags := 18, slot := 0, constantValue := 0 }, { name := "coder", type := .byte, accessFlags := 18, slot := 1, constantValue := 0 }, { name := "hash", type := .int, accessFlags := 2, slot := 2, constantValue := 0 }, { name := "hashIsZero", type := .boolean, accessFlags := 2, slot := 3, constantValue := 0 }, { name := "serialVersionUID", type := .long, accessFlags := 26, slot := 0, constantValue := 0 }, { name := "COMPACT_STRINGS", type := .boolean, accessFlags := 24, slot := 1, constantValue := 0 }, { name := "serialPersistentFields", type := (.array (.object "java/io/ObjectStreamField")), accessFlags := 26, slot := 2, constantValue := 0 }, { name := "REPL", type := .char, accessFlags := 26, slot := 3, constantValue := 0 }, { name := "CASE_INSENSITIVE_ORDER", type := (.object "java/util/Comparator"), accessFlags := 25, slot := 4, constantValue := 0 }, { name := "LATIN1", type := .byte, accessFlags := 24, slot := 5, constantValue := 0 }, { name := "UTF16", type := .byte, accessFlags := 24, slot := 6, constantValue := 0 }]
  methods := #[k13m0]
  instanceTypes := #[(.array .byte), .byte, .int, .boolean]
  staticTypes := #[.long, .boolean, (.array (.object "java/io/ObjectStreamField")), .char, (.object "java/util/Comparator"), .byte, .byte]
  resolved := Array.replicate 1451 none
  statics := none }

def pool14 : Array CpInfo := pool [(1, u "java/lang/Cloneable"), (0, .class_ 1), (0, u "java/lang/Object"), (0, .class_ 3)] 3

/-- java/lang/Cloneable -/
def k14 : Class := { plain "java/lang/Cloneable" (some 0) with
  accessFlags := 1537
  interfaces := #[]
  cf := some (fileOf pool14 2 #[] #[] 1537 4 #[] #[])
  fields := #[]
  methods := #[]
  instanceTypes := #[]
  staticTypes := #[]
  resolved := Array.replicate 8 none
  statics := none }

/-- the primitive byte -/
def k15 : Class := { plain "byte" none with kind := .primitive 'B', accessFlags := 0x411 }
/-- [B -/
def k16 : Class := { plain "[B" (some 0) with kind := .array 15 .byte, interfaces := #[14, 8], accessFlags := 1041 }

/-- the primitive int -/
def k17 : Class := { plain "int" none with kind := .primitive 'I', accessFlags := 0x411 }
/-- [I -/
def k18 : Class := { plain "[I" (some 0) with kind := .array 17 .int, interfaces := #[14, 8], accessFlags := 1041 }

def heap : Heap := #[{ cls := 4, slots := #[.ref 6, .ref 8, .ref 7], vm := .statics 4 },
  { cls := 10, slots := #[.null, .null, .ref 2, .ref 5, .ref 3, .ref 4, .null, .null], vm := .statics 10 },
  { cls := 10, slots := #[.null, .int 2, .int 0, .int 0], vm := .none },
  { cls := 10, slots := #[.null, .int 4, .int 0, .int 0], vm := .none },
  { cls := 10, slots := #[.null, .int 5, .int 0, .int 0], vm := .none },
  { cls := 10, slots := #[.null, .int 3, .int 0, .int 1], vm := .none },
  { cls := 4, slots := #[.ref 2, .null, .null, .null], vm := .none },
  { cls := 4, slots := #[.ref 3, .null, .null, .null], vm := .none },
  { cls := 4, slots := #[.ref 5, .null, .null, .null], vm := .none }]
def classes : Array Class := #[k0, k1, k2, k3, k4, k5, k6, k7, k8, k9, k10, k11, k12, k13, k14, k15, k16, k17, k18]
def interned : List (Array UInt16 × Addr) := []
def slotsUsed : Nat := 39
def theMethod : MethodId := ⟨1, 3⟩
def args0 : Array Value := #[.int 5, .long 7, .long 3, .int 4, .long 9, .long 8]
def aboutOver (below : List Frame) : State where
  vm := { classes := classes, interned := interned.toArray }
  heap := heap
  slotsUsed := slotsUsed
  threads := #[{ frames := .invoking theMethod args0 :: below }]
def below0 : List Frame := [.native { method := ⟨0, 0⟩, args := #[] }]
def about1 : State := aboutOver below0
def p0 : Program := .bare "" "" ""
def e0 : Env := launch0.env 0 0 0
theorem w_frames : about1.frames = Frame.invoking theMethod args0 :: below0 := rfl
set_option maxRecDepth 65536 in
theorem w_args : argsFit about1.vm theMethod args0 = true := by decide +kernel
set_option maxRecDepth 65536 in
theorem w_heap : heapFits about1 = true := by decide +kernel
set_option maxRecDepth 65536 in
theorem w_runnable : about1.curStatus? = some .runnable := by decide +kernel
set_option maxRecDepth 65536 in
theorem w_alone : about1.alone = true := by decide +kernel
set_option maxRecDepth 65536 in
theorem w_named : about1.methodNamed? x = some theMethod := by decide +kernel
set_option maxRecDepth 65536 in
theorem w_hears : about1.hears theMethod below0 = true := by decide +kernel
set_option maxRecDepth 65536 in
theorem w_ripe : about1.ripe theMethod args0 below0 = true := by decide +kernel
theorem w_running : about1.status = .running := rfl
set_option maxRecDepth 65536 in
theorem w_room : about1.hasRoom e0.platform room_1 = true :=
  launch0.hasRoom_least _ room_1 (by decide +kernel) (by decide +kernel) (by decide +kernel) (by decide +kernel) (by decide +kernel) (by decide +kernel)
theorem allAtoms_all (ts : List Jvm.Cond) (a : Array Jvm.Value) (st : Jvm.State) : (allAtoms ts).before a st = ts.all (fun c => c.before a st) := by
  induction ts with
  | nil => rfl
  | cons c t ih =>
    show (Jvm.Cond.and c (allAtoms t)).before a st = _
    rw [Jvm.Cond.before_and, ih, List.all_cons]
def words1 : List Jvm.Cond := Jvm.Cond.code x code maxLocals ret :: tables_1
/-- a 'code' word, met by the world's own term for the bytes: nothing is compared byte by byte -/
theorem code_word {y : MethodName} {bytes : ByteArray} {mx : Nat} {rt : Option FieldType} {a : Array Value} {s : State} {m : MethodId} {meth : Method} {c : Code} (h1 : s.methodNamed? y = some m) (h2 : s.vm.method? m = some meth) (h3 : meth.code = some c) (h4 : c.code = bytes)
    (h5 : (c.maxLocals == mx && c.exceptionTable.isEmpty && decide (c.maxStack ≤ mostOperands) && decide (meth.sig.returnType = rt) && !meth.locks && decide (parseMethodDescriptor y.desc = some meth.sig)) = true) : (Jvm.Cond.code y bytes mx rt).before a s = true := by
  simp only [Bool.and_eq_true, beq_iff_eq, Bool.not_eq_true', decide_eq_true_eq] at h5
  obtain ⟨⟨⟨⟨⟨g1, g2⟩, g3⟩, g4⟩, g5⟩, g6⟩ := h5
  simp [Cond.before, Cond.holds, Cond.value, h1, h2, h3, h4, g1, g2, g3, g4, g5, g6]
def isCode : Jvm.Cond → Bool
  | .code _ _ _ _ => true
  | _ => false
theorem all_split {L : List Jvm.Cond} {P : Jvm.Cond → Bool} (h1 : L.all (fun c => isCode c || P c) = true) (h2 : ∀ c ∈ L.filter isCode, P c = true) : L.all P = true := by
  refine List.all_eq_true.mpr fun c hc => ?_
  have h := List.all_eq_true.mp h1 c hc
  rcases Bool.eq_false_or_eq_true (isCode c) with hi | hi
  · exact h2 c (List.mem_filter.mpr ⟨hc, hi⟩)
  · simpa [hi] using h
set_option maxRecDepth 65536 in
theorem w_c0 : (Jvm.Cond.code x code maxLocals ret).before args0 about1 = true := code_word (m := ⟨1, 3⟩) (meth := k1m3) (c := k1c3) (by decide +kernel) rfl rfl rfl (by decide +kernel)
set_option maxRecDepth 65536 in
theorem w_c1 : (Jvm.Cond.code ({ cls := "com/example/nodeset/nodeset/MutableLabelSetPinLaw", name := "name", desc := "(I)Lcom/example/nodeset/nodeset/NodeName;" } : Jvm.MethodName) method_2_code (1 : Nat) (Option.some (Jvm.ClassFile.FieldType.object "com/example/nodeset/nodeset/NodeName"))).before args0 about1 = true := code_word (m := ⟨1, 1⟩) (meth := k1m1) (c := k1c1) (by decide +kernel) rfl rfl rfl (by decide +kernel)
set_option maxRecDepth 65536 in
theorem w_c2 : (Jvm.Cond.code ({ cls := "com/example/nodeset/nodeset/StoredNode", name := "<init>", desc := "(Lcom/example/nodeset/nodeset/NodeName;IJJIJJJJ)V" } : Jvm.MethodName) prog_76_method_1_code (16 : Nat) (Option.none : Option Jvm.ClassFile.FieldType)).before args0 about1 = true := code_word (m := ⟨5, 0⟩) (meth := k5m0) (c := k5c0) (by decide +kernel) rfl rfl rfl (by decide +kernel)
set_option maxRecDepth 65536 in
theorem w_c3 : (Jvm.Cond.code ({ cls := "java/lang/Record", name := "<init>", desc := "()V" } : Jvm.MethodName) jdk_30_method_1_code (1 : Nat) (Option.none : Option Jvm.ClassFile.FieldType)).before args0 about1 = true := code_word (m := ⟨2, 0⟩) (meth := k2m0) (c := k2c0) (by decide +kernel) rfl rfl rfl (by decide +kernel)
set_option maxRecDepth 65536 in
theorem w_c4 : (Jvm.Cond.code ({ cls := "java/lang/Object", name := "<init>", desc := "()V" } : Jvm.MethodName) object_method_1_code (1 : Nat) (Option.none : Option Jvm.ClassFile.FieldType)).before args0 about1 = true := code_word (m := ⟨0, 0⟩) (meth := k0m0) (c := k0c0) (by decide +kernel) rfl rfl rfl (by decide +kernel)
set_option maxRecDepth 65536 in
theorem w_c5 : (Jvm.Cond.code ({ cls := "com/example/nodeset/nodeset/MutableLabel", name := "<init>", desc := "()V" } : Jvm.MethodName) prog_32_method_1_code (1 : Nat) (Option.none : Option Jvm.ClassFile.FieldType)).before args0 about1 = true := code_word (m := ⟨6, 0⟩) (meth := k6m0) (c := k6c0) (by decide +kernel) rfl rfl rfl (by decide +kernel)
set_option maxRecDepth 65536 in
theorem w_c6 : (Jvm.Cond.code ({ cls := "com/example/nodeset/nodeset/MutableLabel", name := "set", desc := "(Lcom/example/nodeset/nodeset/StoredNode;)V" } : Jvm.MethodName) prog_32_method_2_code (2 : Nat) (Option.none : Option Jvm.ClassFile.FieldType)).before args0 about1 = true := code_word (m := ⟨6, 1⟩) (meth := k6m1) (c := k6c1) (by decide +kernel) rfl rfl rfl (by decide +kernel)
set_option maxRecDepth 65536 in
theorem w_c7 : (Jvm.Cond.code ({ cls := "com/example/nodeset/nodeset/StoredNode", name := "kind", desc := "()Lcom/example/nodeset/nodeset/NodeKind;" } : Jvm.MethodName) prog_76_method_4_code (1 : Nat) (Option.some (Jvm.ClassFile.FieldType.object "com/example/nodeset/nodeset/NodeKind"))).before args0 about1 = true := code_word (m := ⟨5, 1⟩) (meth := k5m1) (c := k5c1) (by decide +kernel) rfl rfl rfl (by decide +kernel)
set_option maxRecDepth 65536 in
theorem w_c8 : (Jvm.Cond.code ({ cls := "com/example/nodeset/nodeset/NodeName", name := "kind", desc := "()Lcom/example/nodeset/nodeset/NodeKind;" } : Jvm.MethodName) prog_41_method_10_code (1 : Nat) (Option.some (Jvm.ClassFile.FieldType.object "com/example/nodeset/nodeset/NodeKind"))).before args0 about1 = true := code_word (m := ⟨4, 2⟩) (meth := k4m2) (c := k4c2) (by decide +kernel) rfl rfl rfl (by decide +kernel)
set_option maxRecDepth 65536 in
theorem w_c9 : (Jvm.Cond.code ({ cls := "com/example/nodeset/nodeset/StoredNode", name := "start", desc := "()J" } : Jvm.MethodName) prog_76_method_14_code (1 : Nat) (Option.some Jvm.ClassFile.FieldType.long)).before args0 about1 = true := code_word (m := ⟨5, 3⟩) (meth := k5m3) (c := k5c3) (by decide +kernel) rfl rfl rfl (by decide +kernel)
set_option maxRecDepth 65536 in
theorem w_c10 : (Jvm.Cond.code ({ cls := "com/example/nodeset/nodeset/StoredNode", name := "end", desc := "()J" } : Jvm.MethodName) prog_76_method_15_code (1 : Nat) (Option.some Jvm.ClassFile.FieldType.long)).before args0 about1 = true := code_word (m := ⟨5, 4⟩) (meth := k5m4) (c := k5c4) (by decide +kernel) rfl rfl rfl (by decide +kernel)
set_option maxRecDepth 65536 in
theorem w_c11 : (Jvm.Cond.code ({ cls := "com/example/nodeset/nodeset/StoredNode", name := "depth", desc := "()I" } : Jvm.MethodName) prog_76_method_16_code (1 : Nat) (Option.some Jvm.ClassFile.FieldType.int)).before args0 about1 = true := code_word (m := ⟨5, 5⟩) (meth := k5m5) (c := k5c5) (by decide +kernel) rfl rfl rfl (by decide +kernel)
set_option maxRecDepth 65536 in
theorem w_c12 : (Jvm.Cond.code ({ cls := "com/example/nodeset/nodeset/StoredNode", name := "textPlace", desc := "()J" } : Jvm.MethodName) prog_76_method_17_code (1 : Nat) (Option.some Jvm.ClassFile.FieldType.long)).before args0 about1 = true := code_word (m := ⟨5, 6⟩) (meth := k5m6) (c := k5c6) (by decide +kernel) rfl rfl rfl (by decide +kernel)
set_option maxRecDepth 65536 in
theorem w_c13 : (Jvm.Cond.code ({ cls := "com/example/nodeset/nodeset/MutableLabelSetPinLaw", name := "matches", desc := "(Lcom/example/nodeset/nodeset/MutableLabel;Lcom/example/nodeset/nodeset/NodeName;ZJJIJ)Z" } : Jvm.MethodName) method_3_code (12 : Nat) (Option.some Jvm.ClassFile.FieldType.boolean)).before args0 about1 = true := code_word (m := ⟨1, 2⟩) (meth := k1m2) (c := k1c2) (by decide +kernel) rfl rfl rfl (by decide +kernel)
set_option maxRecDepth 65536 in
theorem w_c14 : (Jvm.Cond.code ({ cls := "com/example/nodeset/nodeset/MutableLabel", name := "place", desc := "()J" } : Jvm.MethodName) prog_32_method_4_code (1 : Nat) (Option.some Jvm.ClassFile.FieldType.long)).before args0 about1 = true := code_word (m := ⟨6, 2⟩) (meth := k6m2) (c := k6c2) (by decide +kernel) rfl rfl rfl (by decide +kernel)
set_option maxRecDepth 65536 in
theorem w_c15 : (Jvm.Cond.code ({ cls := "com/example/nodeset/nodeset/StoredNode", name := "position", desc := "(Lcom/example/nodeset/nodeset/NodeKind;JJ)J" } : Jvm.MethodName) prog_76_method_9_code (5 : Nat) (Option.some Jvm.ClassFile.FieldType.long)).before args0 about1 = true := code_word (m := ⟨5, 2⟩) (meth := k5m2) (c := k5c2) (by decide +kernel) rfl rfl rfl (by decide +kernel)
set_option maxRecDepth 65536 in
theorem w_c16 : (Jvm.Cond.code ({ cls := "com/example/nodeset/nodeset/NodeKind", name := "numbered", desc := "()Z" } : Jvm.MethodName) prog_39_method_4_code (1 : Nat) (Option.some Jvm.ClassFile.FieldType.boolean)).before args0 about1 = true := code_word (m := ⟨10, 0⟩) (meth := k10m0) (c := k10c0) (by decide +kernel) rfl rfl rfl (by decide +kernel)
set_option maxRecDepth 65536 in
theorem w_c17 : (Jvm.Cond.code ({ cls := "com/example/nodeset/nodeset/MutableLabel", name := "labels", desc := "(Lcom/example/nodeset/nodeset/StoredNode;)Z" } : Jvm.MethodName) prog_32_method_5_code (2 : Nat) (Option.some Jvm.ClassFile.FieldType.boolean)).before args0 about1 = true := code_word (m := ⟨6, 3⟩) (meth := k6m3) (c := k6c3) (by decide +kernel) rfl rfl rfl (by decide +kernel)
set_option maxRecDepth 65536 in
theorem w_c18 : (Jvm.Cond.code ({ cls := "com/example/nodeset/nodeset/NodeName", name := "instruction", desc := "(Ljava/lang/String;)Lcom/example/nodeset/nodeset/NodeName;" } : Jvm.MethodName) prog_41_method_5_code (1 : Nat) (Option.some (Jvm.ClassFile.FieldType.object "com/example/nodeset/nodeset/NodeName"))).before args0 about1 = true := code_word (m := ⟨4, 1⟩) (meth := k4m1) (c := k4c1) (by decide +kernel) rfl rfl rfl (by decide +kernel)
set_option maxRecDepth 65536 in
theorem w_c19 : (Jvm.Cond.code ({ cls := "com/example/nodeset/nodeset/NodeName", name := "<init>", desc := "(Lcom/example/nodeset/nodeset/NodeKind;Ljava/lang/String;Ljava/lang/String;Ljava/lang/String;)V" } : Jvm.MethodName) prog_41_method_1_code (5 : Nat) (Option.none : Option Jvm.ClassFile.FieldType)).before args0 about1 = true := code_word (m := ⟨4, 0⟩) (meth := k4m0) (c := k4c0) (by decide +kernel) rfl rfl rfl (by decide +kernel)
def codes1 : List Jvm.Cond := [Jvm.Cond.code x code maxLocals ret, Jvm.Cond.code ({ cls := "com/example/nodeset/nodeset/MutableLabelSetPinLaw", name := "name", desc := "(I)Lcom/example/nodeset/nodeset/NodeName;" } : Jvm.MethodName) method_2_code (1 : Nat) (Option.some (Jvm.ClassFile.FieldType.object "com/example/nodeset/nodeset/NodeName")), Jvm.Cond.code ({ cls := "com/example/nodeset/nodeset/StoredNode", name := "<init>", desc := "(Lcom/example/nodeset/nodeset/NodeName;IJJIJJJJ)V" } : Jvm.MethodName) prog_76_method_1_code (16 : Nat) (Option.none : Option Jvm.ClassFile.FieldType), Jvm.Cond.code ({ cls := "java/lang/Record", name := "<init>", desc := "()V" } : Jvm.MethodName) jdk_30_method_1_code (1 : Nat) (Option.none : Option Jvm.ClassFile.FieldType), Jvm.Cond.code ({ cls := "java/lang/Object", name := "<init>", desc := "()V" } : Jvm.MethodName) object_method_1_code (1 : Nat) (Option.none : Option Jvm.ClassFile.FieldType), Jvm.Cond.code ({ cls := "com/example/nodeset/nodeset/MutableLabel", name := "<init>", desc := "()V" } : Jvm.MethodName) prog_32_method_1_code (1 : Nat) (Option.none : Option Jvm.ClassFile.FieldType), Jvm.Cond.code ({ cls := "com/example/nodeset/nodeset/MutableLabel", name := "set", desc := "(Lcom/example/nodeset/nodeset/StoredNode;)V" } : Jvm.MethodName) prog_32_method_2_code (2 : Nat) (Option.none : Option Jvm.ClassFile.FieldType), Jvm.Cond.code ({ cls := "com/example/nodeset/nodeset/StoredNode", name := "kind", desc := "()Lcom/example/nodeset/nodeset/NodeKind;" } : Jvm.MethodName) prog_76_method_4_code (1 : Nat) (Option.some (Jvm.ClassFile.FieldType.object "com/example/nodeset/nodeset/NodeKind")), Jvm.Cond.code ({ cls := "com/example/nodeset/nodeset/NodeName", name := "kind", desc := "()Lcom/example/nodeset/nodeset/NodeKind;" } : Jvm.MethodName) prog_41_method_10_code (1 : Nat) (Option.some (Jvm.ClassFile.FieldType.object "com/example/nodeset/nodeset/NodeKind")), Jvm.Cond.code ({ cls := "com/example/nodeset/nodeset/StoredNode", name := "start", desc := "()J" } : Jvm.MethodName) prog_76_method_14_code (1 : Nat) (Option.some Jvm.ClassFile.FieldType.long), Jvm.Cond.code ({ cls := "com/example/nodeset/nodeset/StoredNode", name := "end", desc := "()J" } : Jvm.MethodName) prog_76_method_15_code (1 : Nat) (Option.some Jvm.ClassFile.FieldType.long), Jvm.Cond.code ({ cls := "com/example/nodeset/nodeset/StoredNode", name := "depth", desc := "()I" } : Jvm.MethodName) prog_76_method_16_code (1 : Nat) (Option.some Jvm.ClassFile.FieldType.int), Jvm.Cond.code ({ cls := "com/example/nodeset/nodeset/StoredNode", name := "textPlace", desc := "()J" } : Jvm.MethodName) prog_76_method_17_code (1 : Nat) (Option.some Jvm.ClassFile.FieldType.long), Jvm.Cond.code ({ cls := "com/example/nodeset/nodeset/MutableLabelSetPinLaw", name := "matches", desc := "(Lcom/example/nodeset/nodeset/MutableLabel;Lcom/example/nodeset/nodeset/NodeName;ZJJIJ)Z" } : Jvm.MethodName) method_3_code (12 : Nat) (Option.some Jvm.ClassFile.FieldType.boolean), Jvm.Cond.code ({ cls := "com/example/nodeset/nodeset/MutableLabel", name := "place", desc := "()J" } : Jvm.MethodName) prog_32_method_4_code (1 : Nat) (Option.some Jvm.ClassFile.FieldType.long), Jvm.Cond.code ({ cls := "com/example/nodeset/nodeset/StoredNode", name := "position", desc := "(Lcom/example/nodeset/nodeset/NodeKind;JJ)J" } : Jvm.MethodName) prog_76_method_9_code (5 : Nat) (Option.some Jvm.ClassFile.FieldType.long), Jvm.Cond.code ({ cls := "com/example/nodeset/nodeset/NodeKind", name := "numbered", desc := "()Z" } : Jvm.MethodName) prog_39_method_4_code (1 : Nat) (Option.some Jvm.ClassFile.FieldType.boolean), Jvm.Cond.code ({ cls := "com/example/nodeset/nodeset/MutableLabel", name := "labels", desc := "(Lcom/example/nodeset/nodeset/StoredNode;)Z" } : Jvm.MethodName) prog_32_method_5_code (2 : Nat) (Option.some Jvm.ClassFile.FieldType.boolean), Jvm.Cond.code ({ cls := "com/example/nodeset/nodeset/NodeName", name := "instruction", desc := "(Ljava/lang/String;)Lcom/example/nodeset/nodeset/NodeName;" } : Jvm.MethodName) prog_41_method_5_code (1 : Nat) (Option.some (Jvm.ClassFile.FieldType.object "com/example/nodeset/nodeset/NodeName")), Jvm.Cond.code ({ cls := "com/example/nodeset/nodeset/NodeName", name := "<init>", desc := "(Lcom/example/nodeset/nodeset/NodeKind;Ljava/lang/String;Ljava/lang/String;Ljava/lang/String;)V" } : Jvm.MethodName) prog_41_method_1_code (5 : Nat) (Option.none : Option Jvm.ClassFile.FieldType)]
set_option maxRecDepth 65536 in
theorem codes_eq : words1.filter isCode = codes1 := rfl
theorem w_codes : ∀ c ∈ words1.filter isCode, c.before args0 about1 = true := by
  rw [codes_eq]
  intro c hc
  simp only [codes1, List.mem_cons, List.not_mem_nil, or_false] at hc
  rcases hc with rfl | rfl | rfl | rfl | rfl | rfl | rfl | rfl | rfl | rfl | rfl | rfl | rfl | rfl | rfl | rfl | rfl | rfl | rfl | rfl
  · exact w_c0
  · exact w_c1
  · exact w_c2
  · exact w_c3
  · exact w_c4
  · exact w_c5
  · exact w_c6
  · exact w_c7
  · exact w_c8
  · exact w_c9
  · exact w_c10
  · exact w_c11
  · exact w_c12
  · exact w_c13
  · exact w_c14
  · exact w_c15
  · exact w_c16
  · exact w_c17
  · exact w_c18
  · exact w_c19
set_option maxRecDepth 65536 in
theorem w_t1 : (words1.take 24).all (fun c => isCode c || c.before args0 about1) = true := by decide +kernel
set_option maxRecDepth 65536 in
theorem w_t2 : ((words1.drop 24).take 24).all (fun c => isCode c || c.before args0 about1) = true := by decide +kernel
set_option maxRecDepth 65536 in
theorem w_t3 : (((words1.drop 24).drop 24).take 24).all (fun c => isCode c || c.before args0 about1) = true := by decide +kernel
set_option maxRecDepth 65536 in
theorem w_t4 : ((((words1.drop 24).drop 24).drop 24).take 24).all (fun c => isCode c || c.before args0 about1) = true := by decide +kernel
set_option maxRecDepth 65536 in
theorem w_t5 : (((((words1.drop 24).drop 24).drop 24).drop 24).take 24).all (fun c => isCode c || c.before args0 about1) = true := by decide +kernel
set_option maxRecDepth 65536 in
theorem w_t6 : ((((((words1.drop 24).drop 24).drop 24).drop 24).drop 24).take 24).all (fun c => isCode c || c.before args0 about1) = true := by decide +kernel
set_option maxRecDepth 65536 in
theorem w_t7 : ((((((words1.drop 24).drop 24).drop 24).drop 24).drop 24).drop 24).all (fun c => isCode c || c.before args0 about1) = true := by decide +kernel
theorem w_tables : (allAtoms (Jvm.Cond.code x code maxLocals ret :: tables_1)).before args0 about1 = true := by
  rw [allAtoms_all]
  show words1.all (fun c => c.before args0 about1) = true
  refine all_split ?_ w_codes
  rw [← List.take_append_drop 24 words1, List.all_append, w_t1, ← List.take_append_drop 24 (words1.drop 24), List.all_append, w_t2, ← List.take_append_drop 24 ((words1.drop 24).drop 24), List.all_append, w_t3, ← List.take_append_drop 24 (((words1.drop 24).drop 24).drop 24), List.all_append, w_t4, ← List.take_append_drop 24 ((((words1.drop 24).drop 24).drop 24).drop 24), List.all_append, w_t5, ← List.take_append_drop 24 (((((words1.drop 24).drop 24).drop 24).drop 24).drop 24), List.all_append, w_t6, w_t7]
  rfl
set_option maxRecDepth 65536 in
theorem w_case : (Jvm.Cond.and given_1 narrow_1).before args0 about1 = true := by decide +kernel
theorem w_applies : (headSpec (Jvm.Cond.code x code maxLocals ret :: tables_1) room_1).applies x e0.platform about1 = true :=
  (Spec.applies_iff w_frames).mpr ⟨w_running, w_runnable, w_alone, w_named, w_hears, w_ripe, w_room, w_tables⟩
theorem atStart : AtStart classFile x code maxLocals ret World_1 tables_1 room_1 Calls_1 rest_1 Pre_1 launch0 p0 e0 about1 theMethod args0 below0 :=
  ⟨lists_1, trivial, launch0.admits_env _ _ _, launch0.least_env, fairChoices_fair.cas, fairChoices_fair.clock, w_frames, w_args, w_heap, w_applies, trivial, trivial, w_case⟩
end start1
theorem witness_1 : WitnessClaimed_1 := ⟨start1.p0, start1.e0, start1.about1, start1.theMethod, start1.args0, start1.below0, start1.atStart⟩
end Jvm.Pilot.@@N@@

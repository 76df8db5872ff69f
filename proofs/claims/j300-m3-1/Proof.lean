import JvmDerived
import JvmDerived.Pilot.@@N@@Statement
import JvmDerived.Pilot.@@N@@Code
set_option linter.unusedVariables false
set_option linter.unusedSimpArgs false
namespace Jvm.RoadKit
open Sem ClassFile Op Lib Jvm.Stand Jvm.Free Jvm.LawKit
section Own
variable {p : Program} {l : Launch} {e : Env} {R : Room} {s : State} {m : MethodId} {args : Array Value} {below : List Frame} {meth : Method} {c : Code} {T : State} {locs : List Loc} {cells slots : Nat} {Q : Option Value → Heap → List Loc → Prop} {Φ : Outcome → State → List Loc → Prop} {k n : Nat} {pc pc' : Nat} {L L' : Array Slot} {S : List Value}
def OG (p : Program) (e : Env) (below : List Frame) (Φ : Outcome → State → List Loc → Prop) (Q : Option Value → Heap → List Loc → Prop) (t : State) : Prop :=
  ∃ s₂ o, Steps p.tables e below t s₂ ∧ s₂.status = .running ∧ Ended s₂ below o ∧ ∃ v L, o = .returned v ∧ Q v s₂.heap L ∧ Φ o s₂ L
abbrev FE (s : State) (k n : Nat) : Outcome → State → List Loc → Prop := fun o t L => FrameEnd s o t L k n
abbrev FEW (s : State) (k n : Nat) : Outcome → State → List Loc → Prop := fun o t L => ReturnedEndW s o t L k n
theorem og_of {t t' : State} (st : ∀ g, Steps p.tables e below t' g → Steps p.tables e below t g) (G : OG p e below Φ Q t') : OG p e below Φ Q t := by
  obtain ⟨s₂, o, h, r⟩ := G; exact ⟨s₂, o, st _ h, r⟩
theorem og_tr {t t' : State} (st : Steps p.tables e below t t') (G : OG p e below Φ Q t') : OG p e below Φ Q t := og_of (fun _ k => st.trans k) G
def Lv (e : Env) (below : List Frame) (Φ : Outcome → State → List Loc → Prop) (m : MethodId) (meth : Method) (T : State) (locs : List Loc) : Prop :=
  ∀ v : Option Value, (meth.sig.returnType = none → v = none) → ∃ fs, (∀ (f : JFrame) (acts : List Action), f.method = m → f.locked = none → f.entered = [] → (doReturn e (T.setTop f) acts v).1 = T.setFrames fs) ∧ (T.setFrames fs).status = .running ∧ Ended (T.setFrames fs) below (.returned v) ∧ Φ (.returned v) (T.setFrames fs) locs
theorem own_lv (X : Stand p l e R s m args below meth c T locs cells slots) (hlk : meth.locks = false) (hk : cells ≤ k) (hn : slots ≤ n) : Lv e below (FE s k n) m meth T locs := fun v hv => by
  obtain ⟨fs, hr, hrun, hended, hW, hsame⟩ := X.leave (v := v) hv hlk
  exact ⟨fs, hr, hrun, hended, ⟨_, rfl⟩, hW, hsame.mono hk hn⟩
theorem own_lvW {vm₁ : Vm} {q : Nat} (X : Stand p l e R (s.setVm vm₁) m args below meth c T locs cells slots) (hlk : meth.locks = false) (hS : s.Since vm₁ q) (hq : q ≤ T.heap.size) (hk : cells ≤ k) (hn : slots ≤ n) : Lv e below (FEW s k n) m meth T locs := fun v hv => by
  obtain ⟨fs, hr, hrun, hended, h1, h2, h3, h4⟩ := X.leaveW hS hq (v := v) hv hlk
  exact ⟨fs, hr, hrun, hended, h1, h2, h3, h4.mono hk hn⟩
theorem og_end (hE : Lv e below Φ m meth T locs) {v : Option Value} (hv : meth.sig.returnType = none → v = none) {g : JFrame}
    (st : ∀ fs, (∀ (f : JFrame) (acts : List Action), f.method = m → f.locked = none → f.entered = [] → (doReturn e (T.setTop f) acts v).1 = T.setFrames fs) → Steps p.tables e below (T.setTop g) (T.setFrames fs))
    (hQ : Q v T.heap locs) : OG p e below Φ Q (T.setTop g) := by
  obtain ⟨fs, hr, hrun, hended, hF⟩ := hE v hv
  exact ⟨_, _, st fs hr, hrun, hended, _, _, rfl, hQ, hF⟩
theorem own_mono (X : Stand p l e R s m args below meth c T locs cells slots) {cells' slots' : Nat} (hc : cells ≤ cells') (hs : slots ≤ slots') : Stand p l e R s m args below meth c T locs cells' slots' :=
  ⟨X.admits, X.cas, X.clock, X.frames, X.room, X.hears, X.method, X.code, X.here, X.tail, X.warmed, X.limits, X.bytes, X.same.mono hc hs⟩
theorem retI (X : Stand p l e R s m args below meth c T locs cells slots) (hx : p.tables.exec = Jvm.exec) {pc : Nat} {Ls : Array Slot} {z : Int32} {rest : List Value} (hret : meth.sig.returnType = some .int) (hd : decode c.code pc = .ok (.ireturn, 1)) {fs : List Frame}
    (hl : ∀ (f : JFrame) (acts : List Action), f.method = m → f.locked = none → f.entered = [] → (doReturn e (T.setTop f) acts (some (.int z))).1 = T.setFrames fs) : Steps p.tables e below (T.setTop (mkF m pc Ls (.int z :: rest))) (T.setFrames fs) := by
  have hm' : T.vm.method? m = some meth := X.method'
  have hn : narrow .int (.int z) = .int z := rfl
  show Steps p.tables e below (T.setTop { method := m, pc := pc, locals := Ls, stack := _ :: rest, locked := none }) _
  jvm_step X.here [X.here.top, hx, hd, hm', hret, hn]
  first | (intro acts; rw [hl _ acts rfl rfl rfl]) | rw [hl _ _ rfl rfl rfl]
  exact Steps.refl _
theorem o_retI (X : Stand p l e R s m args below meth c T locs cells slots) (hx : p.tables.exec = Jvm.exec) (hret : meth.sig.returnType = some .int) (hE : Lv e below Φ m meth T locs) (hd : decode c.code pc = .ok (.ireturn, 1)) {z : Int32} (hQ : Q (some (.int z)) T.heap locs) : OG p e below Φ Q (T.setTop (mkF m pc L (.int z :: S))) :=
  og_end hE (fun h => by rw [hret] at h; cases h) (fun fs hr => retI X hx hret hd hr) hQ
theorem o_retN (X : Stand p l e R s m args below meth c T locs cells slots) (hx : p.tables.exec = Jvm.exec) {t : FieldType} (hret : meth.sig.returnType = some t) (ht : t = .boolean ∨ t = .byte ∨ t = .char ∨ t = .short) (hE : Lv e below Φ m meth T locs) (hd : decode c.code pc = .ok (.ireturn, 1)) {z : Int32} (hQ : Q (some (.int (nar t z))) T.heap locs) : OG p e below Φ Q (T.setTop (mkF m pc L (.int z :: S))) :=
  og_end hE (fun h => by rw [hret] at h; cases h) (fun fs hr => retN X hx hret ht hd hr) hQ
theorem o_retB (X : Stand p l e R s m args below meth c T locs cells slots) (hx : p.tables.exec = Jvm.exec) (hret : meth.sig.returnType = some .boolean) (hE : Lv e below Φ m meth T locs) (hd : decode c.code pc = .ok (.ireturn, 1)) {z : Int32} (hz : z = 0 ∨ z = 1) (hQ : Q (some (.int z)) T.heap locs) : OG p e below Φ Q (T.setTop (mkF m pc L (.int z :: S))) :=
  o_retN X hx hret (Or.inl rfl) hE hd (by have q : nar .boolean z = z := by { rcases hz with rfl | rfl <;> rfl }; rw [q]; exact hQ)
theorem o_retL (X : Stand p l e R s m args below meth c T locs cells slots) (hx : p.tables.exec = Jvm.exec) (hret : meth.sig.returnType = some .long) (hE : Lv e below Φ m meth T locs) (hd : decode c.code pc = .ok (.lreturn, 1)) {z : Int64} (hQ : Q (some (.long z)) T.heap locs) : OG p e below Φ Q (T.setTop (mkF m pc L (.long z :: S))) :=
  og_end hE (fun h => by rw [hret] at h; cases h) (fun fs hr => retOut X hx hret rfl (Or.inr (Or.inl ⟨rfl, rfl, z, rfl⟩)) hd hr) hQ
theorem o_retA (X : Stand p l e R s m args below meth c T locs cells slots) (hx : p.tables.exec = Jvm.exec) {t : FieldType} (hret : meth.sig.returnType = some t) (ht : t.isReference = true) (hE : Lv e below Φ m meth T locs) (hd : decode c.code pc = .ok (.areturn, 1)) {w : Value} (hw : w.isRef = true) (hnw : narrow t w = w) (hQ : Q (some w) T.heap locs) : OG p e below Φ Q (T.setTop (mkF m pc L (w :: S))) :=
  og_end hE (fun h => by rw [hret] at h; cases h) (fun fs hr => retOut X hx hret hnw (Or.inr (Or.inr (Or.inr (Or.inr ⟨rfl, ht, hw⟩)))) hd hr) hQ
theorem o_ret0 (X : Stand p l e R s m args below meth c T locs cells slots) (hx : p.tables.exec = Jvm.exec) (hret : meth.sig.returnType = none) (hE : Lv e below Φ m meth T locs) (hd : decode c.code pc = .ok (.return_, 1)) (hQ : Q none T.heap locs) : OG p e below Φ Q (T.setTop (mkF m pc L [])) :=
  og_end hE (fun _ => rfl) (fun fs hr => X.returnOut hx hret hd hr) hQ
theorem lcY_eq {x y : Int64} (h : x = y) : ifCond.holds .eq (lcmpW x y) = true ∧ ifCond.holds .ne (lcmpW x y) = false := ⟨(if0 _ _).trans (teq ((lw_eq x y).mpr h)).1, (if0 _ _).trans (teq ((lw_eq x y).mpr h)).2⟩
theorem lcN_eq {x y : Int64} (h : ¬ x = y) : ifCond.holds .eq (lcmpW x y) = false ∧ ifCond.holds .ne (lcmpW x y) = true := ⟨(if0 _ _).trans (feq (mt (lw_eq x y).mp h)).1, (if0 _ _).trans (feq (mt (lw_eq x y).mp h)).2⟩
theorem lcY_lt {x y : Int64} (h : x < y) : ifCond.holds .lt (lcmpW x y) = true ∧ ifCond.holds .ge (lcmpW x y) = false := ⟨(if0 _ _).trans (tlt ((lw_lt x y).mpr h)).1, (if0 _ _).trans (tlt ((lw_lt x y).mpr h)).2.1⟩
theorem lcN_lt {x y : Int64} (h : ¬ x < y) : ifCond.holds .lt (lcmpW x y) = false ∧ ifCond.holds .ge (lcmpW x y) = true := ⟨(if0 _ _).trans (flt (mt (lw_lt x y).mp h)).1, (if0 _ _).trans (flt (mt (lw_lt x y).mp h)).2.1⟩
theorem lcY_gt {x y : Int64} (h : y < x) : ifCond.holds .gt (lcmpW x y) = true ∧ ifCond.holds .le (lcmpW x y) = false := ⟨(if0 _ _).trans (tlt ((lw_gt x y).mpr h)).2.2.1, (if0 _ _).trans (tlt ((lw_gt x y).mpr h)).2.2.2⟩
theorem lcN_gt {x y : Int64} (h : ¬ y < x) : ifCond.holds .gt (lcmpW x y) = false ∧ ifCond.holds .le (lcmpW x y) = true := ⟨(if0 _ _).trans (flt (mt (lw_gt x y).mp h)).2.2.1, (if0 _ _).trans (flt (mt (lw_gt x y).mp h)).2.2.2⟩
theorem o_iloadN (X : Stand p l e R s m args below meth c T locs cells slots) (hx : p.tables.exec = Jvm.exec) {i : Fin 4} {v : Int32} (hp : pc + 1 = pc') (hd : decode c.code pc = .ok (.iload_n i, 1)) (hl : L[i.val]? = some (.val (.int v))) (G : OG p e below Φ Q (T.setTop (mkF m pc' L (.int v :: S)))) : OG p e below Φ Q (T.setTop (mkF m pc L S)) := by
  subst hp; exact og_of (fun _ st => XS.iloadN X.here hx rfl hd hl st) G
theorem o_iload (X : Stand p l e R s m args below meth c T locs cells slots) (hx : p.tables.exec = Jvm.exec) {i : Nat} {v : Int32} (hp : pc + 2 = pc') (hd : decode c.code pc = .ok (.iload i, 2)) (hl : L[i]? = some (.val (.int v))) (G : OG p e below Φ Q (T.setTop (mkF m pc' L (.int v :: S)))) : OG p e below Φ Q (T.setTop (mkF m pc L S)) := by
  subst hp; exact og_of (fun _ st => XS.iload X.here hx rfl hd hl st) G
theorem o_istoreN (X : Stand p l e R s m args below meth c T locs cells slots) (hx : p.tables.exec = Jvm.exec) {i : Fin 4} {v : Int32} (hp : pc + 1 = pc') (hd : decode c.code pc = .ok (.istore_n i, 1)) (hl : storeLocals L i.val (.int v) = some L') (G : OG p e below Φ Q (T.setTop (mkF m pc' L' S))) : OG p e below Φ Q (T.setTop (mkF m pc L (.int v :: S))) := by
  subst hp; exact og_of (fun _ st => XS.istoreN X.here hx rfl hd rfl hl st) G
theorem o_istore (X : Stand p l e R s m args below meth c T locs cells slots) (hx : p.tables.exec = Jvm.exec) {i : Nat} {v : Int32} (hp : pc + 2 = pc') (hd : decode c.code pc = .ok (.istore i, 2)) (hl : storeLocals L i (.int v) = some L') (G : OG p e below Φ Q (T.setTop (mkF m pc' L' S))) : OG p e below Φ Q (T.setTop (mkF m pc L (.int v :: S))) := by
  subst hp; exact og_of (fun _ st => XS.istore X.here hx rfl hd rfl hl st) G
theorem o_lloadN (X : Stand p l e R s m args below meth c T locs cells slots) (hx : p.tables.exec = Jvm.exec) {i : Fin 4} {v : Int64} (hp : pc + 1 = pc') (hd : decode c.code pc = .ok (.lload_n i, 1)) (hl : L[i.val]? = some (.val (.long v))) (G : OG p e below Φ Q (T.setTop (mkF m pc' L (.long v :: S)))) : OG p e below Φ Q (T.setTop (mkF m pc L S)) := by
  subst hp; exact og_of (fun _ st => XS.lloadN X.here hx rfl hd hl st) G
theorem o_lload (X : Stand p l e R s m args below meth c T locs cells slots) (hx : p.tables.exec = Jvm.exec) {i : Nat} {v : Int64} (hp : pc + 2 = pc') (hd : decode c.code pc = .ok (.lload i, 2)) (hl : L[i]? = some (.val (.long v))) (G : OG p e below Φ Q (T.setTop (mkF m pc' L (.long v :: S)))) : OG p e below Φ Q (T.setTop (mkF m pc L S)) := by
  subst hp; exact og_of (fun _ st => XS.lload X.here hx rfl hd hl st) G
theorem o_lstoreN (X : Stand p l e R s m args below meth c T locs cells slots) (hx : p.tables.exec = Jvm.exec) {i : Fin 4} {v : Int64} (hp : pc + 1 = pc') (hd : decode c.code pc = .ok (.lstore_n i, 1)) (hl : storeLocals L i.val (.long v) = some L') (G : OG p e below Φ Q (T.setTop (mkF m pc' L' S))) : OG p e below Φ Q (T.setTop (mkF m pc L (.long v :: S))) := by
  subst hp; exact og_of (fun _ st => XS.lstoreN X.here hx rfl hd rfl hl st) G
theorem o_lstore (X : Stand p l e R s m args below meth c T locs cells slots) (hx : p.tables.exec = Jvm.exec) {i : Nat} {v : Int64} (hp : pc + 2 = pc') (hd : decode c.code pc = .ok (.lstore i, 2)) (hl : storeLocals L i (.long v) = some L') (G : OG p e below Φ Q (T.setTop (mkF m pc' L' S))) : OG p e below Φ Q (T.setTop (mkF m pc L (.long v :: S))) := by
  subst hp; exact og_of (fun _ st => XS.lstore X.here hx rfl hd rfl hl st) G
theorem o_aloadN (X : Stand p l e R s m args below meth c T locs cells slots) (hx : p.tables.exec = Jvm.exec) {i : Fin 4} {v : Value} (hp : pc + 1 = pc') (hd : decode c.code pc = .ok (.aload_n i, 1)) (hl : L[i.val]? = some (.val v)) (hv : v.isRef = true) (G : OG p e below Φ Q (T.setTop (mkF m pc' L (v :: S)))) : OG p e below Φ Q (T.setTop (mkF m pc L S)) := by
  subst hp; exact og_of (fun _ st => XS.aloadN X.here hx rfl hd hl hv st) G
theorem o_aload (X : Stand p l e R s m args below meth c T locs cells slots) (hx : p.tables.exec = Jvm.exec) {i : Nat} {v : Value} (hp : pc + 2 = pc') (hd : decode c.code pc = .ok (.aload i, 2)) (hl : L[i]? = some (.val v)) (hv : v.isRef = true) (G : OG p e below Φ Q (T.setTop (mkF m pc' L (v :: S)))) : OG p e below Φ Q (T.setTop (mkF m pc L S)) := by
  subst hp; exact og_of (fun _ st => XS.aload X.here hx rfl hd hl hv st) G
theorem o_astoreN (X : Stand p l e R s m args below meth c T locs cells slots) (hx : p.tables.exec = Jvm.exec) {i : Fin 4} {v : Value} (hp : pc + 1 = pc') (hd : decode c.code pc = .ok (.astore_n i, 1)) (hv : v.isRef = true) (hl : storeLocals L i.val v = some L') (G : OG p e below Φ Q (T.setTop (mkF m pc' L' S))) : OG p e below Φ Q (T.setTop (mkF m pc L (v :: S))) := by
  subst hp; exact og_of (fun _ st => XS.astoreN X.here hx rfl hd rfl hv hl st) G
theorem o_astore (X : Stand p l e R s m args below meth c T locs cells slots) (hx : p.tables.exec = Jvm.exec) {i : Nat} {v : Value} (hp : pc + 2 = pc') (hd : decode c.code pc = .ok (.astore i, 2)) (hv : v.isRef = true) (hl : storeLocals L i v = some L') (G : OG p e below Φ Q (T.setTop (mkF m pc' L' S))) : OG p e below Φ Q (T.setTop (mkF m pc L (v :: S))) := by
  subst hp; exact og_of (fun _ st => XS.astore X.here hx rfl hd rfl hv hl st) G
theorem o_iconst (X : Stand p l e R s m args below meth c T locs cells slots) (hx : p.tables.exec = Jvm.exec) {i : Int} {z : Int32} (hp : pc + 1 = pc') (hd : decode c.code pc = .ok (.iconst i, 1)) (hz : Int32.ofInt i = z) (G : OG p e below Φ Q (T.setTop (mkF m pc' L (.int z :: S)))) : OG p e below Φ Q (T.setTop (mkF m pc L S)) := by
  subst hp hz; exact og_of (fun _ st => XS.iconst X.here hx rfl hd st) G
theorem o_bipush (X : Stand p l e R s m args below meth c T locs cells slots) (hx : p.tables.exec = Jvm.exec) {i : Int} {z : Int32} (hp : pc + 2 = pc') (hd : decode c.code pc = .ok (.bipush i, 2)) (hz : (Int8.ofInt i).toInt32 = z) (G : OG p e below Φ Q (T.setTop (mkF m pc' L (.int z :: S)))) : OG p e below Φ Q (T.setTop (mkF m pc L S)) := by
  subst hp hz; exact og_of (fun _ st => XS.bipush X.here hx rfl hd st) G
theorem o_sipush (X : Stand p l e R s m args below meth c T locs cells slots) (hx : p.tables.exec = Jvm.exec) {i : Int} {z : Int32} (hp : pc + 3 = pc') (hd : decode c.code pc = .ok (.sipush i, 3)) (hz : (Int16.ofInt i).toInt32 = z) (G : OG p e below Φ Q (T.setTop (mkF m pc' L (.int z :: S)))) : OG p e below Φ Q (T.setTop (mkF m pc L S)) := by
  subst hp hz; exact og_of (fun _ st => XS.sipush X.here hx rfl hd st) G
theorem o_lconst (X : Stand p l e R s m args below meth c T locs cells slots) (hx : p.tables.exec = Jvm.exec) {i : Fin 2} {z : Int64} (hp : pc + 1 = pc') (hd : decode c.code pc = .ok (.lconst i, 1)) (hz : Int64.ofNat i = z) (G : OG p e below Φ Q (T.setTop (mkF m pc' L (.long z :: S)))) : OG p e below Φ Q (T.setTop (mkF m pc L S)) := by
  subst hp hz; exact og_of (fun _ st => XS.lconst X.here hx rfl hd st) G
theorem o_aconst_null (X : Stand p l e R s m args below meth c T locs cells slots) (hx : p.tables.exec = Jvm.exec) (hp : pc + 1 = pc') (hd : decode c.code pc = .ok (.aconst_null, 1))  (G : OG p e below Φ Q (T.setTop (mkF m pc' L (.null :: S)))) : OG p e below Φ Q (T.setTop (mkF m pc L S)) := by
  subst hp; exact og_of (fun _ st => XS.aconstNull X.here hx rfl hd st) G
theorem o_iadd (X : Stand p l e R s m args below meth c T locs cells slots) (hx : p.tables.exec = Jvm.exec) {x : Int32} {y : Int32} {z : Int32} (hp : pc + 1 = pc') (hd : decode c.code pc = .ok (.iadd, 1)) (hz : x + y = z) (G : OG p e below Φ Q (T.setTop (mkF m pc' L (.int z :: S)))) : OG p e below Φ Q (T.setTop (mkF m pc L (.int y :: .int x :: S))) := by
  subst hp hz; exact og_of (fun _ st => XS.iadd X.here hx rfl hd rfl st) G
theorem o_ladd (X : Stand p l e R s m args below meth c T locs cells slots) (hx : p.tables.exec = Jvm.exec) {x : Int64} {y : Int64} {z : Int64} (hp : pc + 1 = pc') (hd : decode c.code pc = .ok (.ladd, 1)) (hz : x + y = z) (G : OG p e below Φ Q (T.setTop (mkF m pc' L (.long z :: S)))) : OG p e below Φ Q (T.setTop (mkF m pc L (.long y :: .long x :: S))) := by
  subst hp hz; exact og_of (fun _ st => XS.ladd X.here hx rfl hd rfl st) G
theorem o_isub (X : Stand p l e R s m args below meth c T locs cells slots) (hx : p.tables.exec = Jvm.exec) {x : Int32} {y : Int32} {z : Int32} (hp : pc + 1 = pc') (hd : decode c.code pc = .ok (.isub, 1)) (hz : x - y = z) (G : OG p e below Φ Q (T.setTop (mkF m pc' L (.int z :: S)))) : OG p e below Φ Q (T.setTop (mkF m pc L (.int y :: .int x :: S))) := by
  subst hp hz; exact og_of (fun _ st => XS.isub X.here hx rfl hd rfl st) G
theorem o_lsub (X : Stand p l e R s m args below meth c T locs cells slots) (hx : p.tables.exec = Jvm.exec) {x : Int64} {y : Int64} {z : Int64} (hp : pc + 1 = pc') (hd : decode c.code pc = .ok (.lsub, 1)) (hz : x - y = z) (G : OG p e below Φ Q (T.setTop (mkF m pc' L (.long z :: S)))) : OG p e below Φ Q (T.setTop (mkF m pc L (.long y :: .long x :: S))) := by
  subst hp hz; exact og_of (fun _ st => XS.lsub X.here hx rfl hd rfl st) G
theorem o_imul (X : Stand p l e R s m args below meth c T locs cells slots) (hx : p.tables.exec = Jvm.exec) {x : Int32} {y : Int32} {z : Int32} (hp : pc + 1 = pc') (hd : decode c.code pc = .ok (.imul, 1)) (hz : x * y = z) (G : OG p e below Φ Q (T.setTop (mkF m pc' L (.int z :: S)))) : OG p e below Φ Q (T.setTop (mkF m pc L (.int y :: .int x :: S))) := by
  subst hp hz; exact og_of (fun _ st => XS.imul X.here hx rfl hd rfl st) G
theorem o_lmul (X : Stand p l e R s m args below meth c T locs cells slots) (hx : p.tables.exec = Jvm.exec) {x : Int64} {y : Int64} {z : Int64} (hp : pc + 1 = pc') (hd : decode c.code pc = .ok (.lmul, 1)) (hz : x * y = z) (G : OG p e below Φ Q (T.setTop (mkF m pc' L (.long z :: S)))) : OG p e below Φ Q (T.setTop (mkF m pc L (.long y :: .long x :: S))) := by
  subst hp hz; exact og_of (fun _ st => XS.lmul X.here hx rfl hd rfl st) G
theorem o_iand (X : Stand p l e R s m args below meth c T locs cells slots) (hx : p.tables.exec = Jvm.exec) {x : Int32} {y : Int32} {z : Int32} (hp : pc + 1 = pc') (hd : decode c.code pc = .ok (.iand, 1)) (hz : x &&& y = z) (G : OG p e below Φ Q (T.setTop (mkF m pc' L (.int z :: S)))) : OG p e below Φ Q (T.setTop (mkF m pc L (.int y :: .int x :: S))) := by
  subst hp hz; exact og_of (fun _ st => XS.iand X.here hx rfl hd rfl st) G
theorem o_land (X : Stand p l e R s m args below meth c T locs cells slots) (hx : p.tables.exec = Jvm.exec) {x : Int64} {y : Int64} {z : Int64} (hp : pc + 1 = pc') (hd : decode c.code pc = .ok (.land, 1)) (hz : x &&& y = z) (G : OG p e below Φ Q (T.setTop (mkF m pc' L (.long z :: S)))) : OG p e below Φ Q (T.setTop (mkF m pc L (.long y :: .long x :: S))) := by
  subst hp hz; exact og_of (fun _ st => XS.land X.here hx rfl hd rfl st) G
theorem o_ior (X : Stand p l e R s m args below meth c T locs cells slots) (hx : p.tables.exec = Jvm.exec) {x : Int32} {y : Int32} {z : Int32} (hp : pc + 1 = pc') (hd : decode c.code pc = .ok (.ior, 1)) (hz : x ||| y = z) (G : OG p e below Φ Q (T.setTop (mkF m pc' L (.int z :: S)))) : OG p e below Φ Q (T.setTop (mkF m pc L (.int y :: .int x :: S))) := by
  subst hp hz; exact og_of (fun _ st => XS.ior X.here hx rfl hd rfl st) G
theorem o_lor (X : Stand p l e R s m args below meth c T locs cells slots) (hx : p.tables.exec = Jvm.exec) {x : Int64} {y : Int64} {z : Int64} (hp : pc + 1 = pc') (hd : decode c.code pc = .ok (.lor, 1)) (hz : x ||| y = z) (G : OG p e below Φ Q (T.setTop (mkF m pc' L (.long z :: S)))) : OG p e below Φ Q (T.setTop (mkF m pc L (.long y :: .long x :: S))) := by
  subst hp hz; exact og_of (fun _ st => XS.lor X.here hx rfl hd rfl st) G
theorem o_ixor (X : Stand p l e R s m args below meth c T locs cells slots) (hx : p.tables.exec = Jvm.exec) {x : Int32} {y : Int32} {z : Int32} (hp : pc + 1 = pc') (hd : decode c.code pc = .ok (.ixor, 1)) (hz : x ^^^ y = z) (G : OG p e below Φ Q (T.setTop (mkF m pc' L (.int z :: S)))) : OG p e below Φ Q (T.setTop (mkF m pc L (.int y :: .int x :: S))) := by
  subst hp hz; exact og_of (fun _ st => XS.ixor X.here hx rfl hd rfl st) G
theorem o_lxor (X : Stand p l e R s m args below meth c T locs cells slots) (hx : p.tables.exec = Jvm.exec) {x : Int64} {y : Int64} {z : Int64} (hp : pc + 1 = pc') (hd : decode c.code pc = .ok (.lxor, 1)) (hz : x ^^^ y = z) (G : OG p e below Φ Q (T.setTop (mkF m pc' L (.long z :: S)))) : OG p e below Φ Q (T.setTop (mkF m pc L (.long y :: .long x :: S))) := by
  subst hp hz; exact og_of (fun _ st => XS.lxor X.here hx rfl hd rfl st) G
theorem o_ishl (X : Stand p l e R s m args below meth c T locs cells slots) (hx : p.tables.exec = Jvm.exec) {x : Int32} {y : Int32} {z : Int32} (hp : pc + 1 = pc') (hd : decode c.code pc = .ok (.ishl, 1)) (hz : x <<< (y &&& 31) = z) (G : OG p e below Φ Q (T.setTop (mkF m pc' L (.int z :: S)))) : OG p e below Φ Q (T.setTop (mkF m pc L (.int y :: .int x :: S))) := by
  subst hp hz; exact og_of (fun _ st => XS.ishl X.here hx rfl hd rfl st) G
theorem o_ishr (X : Stand p l e R s m args below meth c T locs cells slots) (hx : p.tables.exec = Jvm.exec) {x : Int32} {y : Int32} {z : Int32} (hp : pc + 1 = pc') (hd : decode c.code pc = .ok (.ishr, 1)) (hz : x >>> (y &&& 31) = z) (G : OG p e below Φ Q (T.setTop (mkF m pc' L (.int z :: S)))) : OG p e below Φ Q (T.setTop (mkF m pc L (.int y :: .int x :: S))) := by
  subst hp hz; exact og_of (fun _ st => XS.ishr X.here hx rfl hd rfl st) G
theorem o_iushr (X : Stand p l e R s m args below meth c T locs cells slots) (hx : p.tables.exec = Jvm.exec) {x : Int32} {y : Int32} {z : Int32} (hp : pc + 1 = pc') (hd : decode c.code pc = .ok (.iushr, 1)) (hz : (x.toUInt32 >>> (y &&& 31).toUInt32).toInt32 = z) (G : OG p e below Φ Q (T.setTop (mkF m pc' L (.int z :: S)))) : OG p e below Φ Q (T.setTop (mkF m pc L (.int y :: .int x :: S))) := by
  subst hp hz; exact og_of (fun _ st => XS.iushr X.here hx rfl hd rfl st) G
theorem o_lshl (X : Stand p l e R s m args below meth c T locs cells slots) (hx : p.tables.exec = Jvm.exec) {x : Int64} {y : Int32} {z : Int64} (hp : pc + 1 = pc') (hd : decode c.code pc = .ok (.lshl, 1)) (hz : x <<< (y &&& 0x3f).toInt64 = z) (G : OG p e below Φ Q (T.setTop (mkF m pc' L (.long z :: S)))) : OG p e below Φ Q (T.setTop (mkF m pc L (.int y :: .long x :: S))) := by
  subst hp hz; exact og_of (fun _ st => XS.lshl X.here hx rfl hd rfl st) G
theorem o_lshr (X : Stand p l e R s m args below meth c T locs cells slots) (hx : p.tables.exec = Jvm.exec) {x : Int64} {y : Int32} {z : Int64} (hp : pc + 1 = pc') (hd : decode c.code pc = .ok (.lshr, 1)) (hz : x >>> (y &&& 0x3f).toInt64 = z) (G : OG p e below Φ Q (T.setTop (mkF m pc' L (.long z :: S)))) : OG p e below Φ Q (T.setTop (mkF m pc L (.int y :: .long x :: S))) := by
  subst hp hz; exact og_of (fun _ st => XS.lshr X.here hx rfl hd rfl st) G
theorem o_lushr (X : Stand p l e R s m args below meth c T locs cells slots) (hx : p.tables.exec = Jvm.exec) {x : Int64} {y : Int32} {z : Int64} (hp : pc + 1 = pc') (hd : decode c.code pc = .ok (.lushr, 1)) (hz : (x.toUInt64 >>> (y &&& 0x3f).toInt64.toUInt64).toInt64 = z) (G : OG p e below Φ Q (T.setTop (mkF m pc' L (.long z :: S)))) : OG p e below Φ Q (T.setTop (mkF m pc L (.int y :: .long x :: S))) := by
  subst hp hz; exact og_of (fun _ st => XS.lushr X.here hx rfl hd rfl st) G
theorem o_idiv (X : Stand p l e R s m args below meth c T locs cells slots) (hx : p.tables.exec = Jvm.exec) {x : Int32} {y : Int32} {z : Int32} (hp : pc + 1 = pc') (hd : decode c.code pc = .ok (.idiv, 1)) (hz : x / y = z) (hy : y ≠ 0) (G : OG p e below Φ Q (T.setTop (mkF m pc' L (.int z :: S)))) : OG p e below Φ Q (T.setTop (mkF m pc L (.int y :: .int x :: S))) := by
  subst hp hz; exact og_of (fun _ st => XS.idiv X.here hx rfl hd rfl hy st) G
theorem o_ldiv (X : Stand p l e R s m args below meth c T locs cells slots) (hx : p.tables.exec = Jvm.exec) {x : Int64} {y : Int64} {z : Int64} (hp : pc + 1 = pc') (hd : decode c.code pc = .ok (.ldiv, 1)) (hz : x / y = z) (hy : y ≠ 0) (G : OG p e below Φ Q (T.setTop (mkF m pc' L (.long z :: S)))) : OG p e below Φ Q (T.setTop (mkF m pc L (.long y :: .long x :: S))) := by
  subst hp hz; exact og_of (fun _ st => XS.ldiv X.here hx rfl hd rfl hy st) G
theorem o_irem (X : Stand p l e R s m args below meth c T locs cells slots) (hx : p.tables.exec = Jvm.exec) {x y z : Int32} (hp : pc + 1 = pc') (hd : decode c.code pc = .ok (.irem, 1)) (hz : x % y = z) (hy : y ≠ 0) (G : OG p e below Φ Q (T.setTop (mkF m pc' L (.int z :: S)))) : OG p e below Φ Q (T.setTop (mkF m pc L (.int y :: .int x :: S))) := by
  subst hp hz; exact og_of (fun _ st => XS.irem X.here hx rfl hd rfl hy (by rw [irem_eq_mod x y]; exact st)) G
theorem o_lrem (X : Stand p l e R s m args below meth c T locs cells slots) (hx : p.tables.exec = Jvm.exec) {x y z : Int64} (hp : pc + 1 = pc') (hd : decode c.code pc = .ok (.lrem, 1)) (hz : x % y = z) (hy : y ≠ 0) (G : OG p e below Φ Q (T.setTop (mkF m pc' L (.long z :: S)))) : OG p e below Φ Q (T.setTop (mkF m pc L (.long y :: .long x :: S))) := by
  subst hp hz; exact og_of (fun _ st => XS.lrem X.here hx rfl hd rfl hy (by rw [lrem_mod x y]; exact st)) G
theorem o_ineg (X : Stand p l e R s m args below meth c T locs cells slots) (hx : p.tables.exec = Jvm.exec) {x : Int32} {z : Int32} (hp : pc + 1 = pc') (hd : decode c.code pc = .ok (.ineg, 1)) (hz : -x = z) (G : OG p e below Φ Q (T.setTop (mkF m pc' L (.int z :: S)))) : OG p e below Φ Q (T.setTop (mkF m pc L (.int x :: S))) := by
  subst hp hz; exact og_of (fun _ st => XS.ineg X.here hx rfl hd rfl st) G
theorem o_lneg (X : Stand p l e R s m args below meth c T locs cells slots) (hx : p.tables.exec = Jvm.exec) {x : Int64} {z : Int64} (hp : pc + 1 = pc') (hd : decode c.code pc = .ok (.lneg, 1)) (hz : -x = z) (G : OG p e below Φ Q (T.setTop (mkF m pc' L (.long z :: S)))) : OG p e below Φ Q (T.setTop (mkF m pc L (.long x :: S))) := by
  subst hp hz; exact og_of (fun _ st => XS.lneg X.here hx rfl hd rfl st) G
theorem o_i2l (X : Stand p l e R s m args below meth c T locs cells slots) (hx : p.tables.exec = Jvm.exec) {x : Int32} {z : Int64} (hp : pc + 1 = pc') (hd : decode c.code pc = .ok (.i2l, 1)) (hz : x.toInt64 = z) (G : OG p e below Φ Q (T.setTop (mkF m pc' L (.long z :: S)))) : OG p e below Φ Q (T.setTop (mkF m pc L (.int x :: S))) := by
  subst hp hz; exact og_of (fun _ st => XS.i2l X.here hx rfl hd rfl st) G
theorem o_l2i (X : Stand p l e R s m args below meth c T locs cells slots) (hx : p.tables.exec = Jvm.exec) {x : Int64} {z : Int32} (hp : pc + 1 = pc') (hd : decode c.code pc = .ok (.l2i, 1)) (hz : x.toInt32 = z) (G : OG p e below Φ Q (T.setTop (mkF m pc' L (.int z :: S)))) : OG p e below Φ Q (T.setTop (mkF m pc L (.long x :: S))) := by
  subst hp hz; exact og_of (fun _ st => XS.l2i X.here hx rfl hd rfl st) G
theorem o_i2b (X : Stand p l e R s m args below meth c T locs cells slots) (hx : p.tables.exec = Jvm.exec) {x : Int32} {z : Int32} (hp : pc + 1 = pc') (hd : decode c.code pc = .ok (.i2b, 1)) (hz : x.toInt8.toInt32 = z) (G : OG p e below Φ Q (T.setTop (mkF m pc' L (.int z :: S)))) : OG p e below Φ Q (T.setTop (mkF m pc L (.int x :: S))) := by
  subst hp hz; exact og_of (fun _ st => XS.i2b X.here hx rfl hd rfl st) G
theorem o_i2s (X : Stand p l e R s m args below meth c T locs cells slots) (hx : p.tables.exec = Jvm.exec) {x : Int32} {z : Int32} (hp : pc + 1 = pc') (hd : decode c.code pc = .ok (.i2s, 1)) (hz : x.toInt16.toInt32 = z) (G : OG p e below Φ Q (T.setTop (mkF m pc' L (.int z :: S)))) : OG p e below Φ Q (T.setTop (mkF m pc L (.int x :: S))) := by
  subst hp hz; exact og_of (fun _ st => XS.i2s X.here hx rfl hd rfl st) G
theorem o_i2c (X : Stand p l e R s m args below meth c T locs cells slots) (hx : p.tables.exec = Jvm.exec) {x : Int32} {z : Int32} (hp : pc + 1 = pc') (hd : decode c.code pc = .ok (.i2c, 1)) (hz : x.toUInt32.toUInt16.toUInt32.toInt32 = z) (G : OG p e below Φ Q (T.setTop (mkF m pc' L (.int z :: S)))) : OG p e below Φ Q (T.setTop (mkF m pc L (.int x :: S))) := by
  subst hp hz; exact og_of (fun _ st => XS.i2c X.here hx rfl hd rfl st) G
theorem o_lcmp (X : Stand p l e R s m args below meth c T locs cells slots) (hx : p.tables.exec = Jvm.exec) {x y : Int64} (hp : pc + 1 = pc') (hd : decode c.code pc = .ok (.lcmp, 1))  (G : OG p e below Φ Q (T.setTop (mkF m pc' L (.int (lcmpW x y) :: S)))) : OG p e below Φ Q (T.setTop (mkF m pc L (.long y :: .long x :: S))) := by
  subst hp; exact og_of (fun _ st => XS.lcmp X.here hx rfl hd rfl st) G
theorem o_dup (X : Stand p l e R s m args below meth c T locs cells slots) (hx : p.tables.exec = Jvm.exec) {v : Value} (hp : pc + 1 = pc') (hd : decode c.code pc = .ok (.dup, 1)) (hc : v.category = 1) (G : OG p e below Φ Q (T.setTop (mkF m pc' L (v :: v :: S)))) : OG p e below Φ Q (T.setTop (mkF m pc L (v :: S))) := by
  subst hp; exact og_of (fun _ st => XS.dup X.here hx rfl hd rfl hc st) G
theorem o_pop (X : Stand p l e R s m args below meth c T locs cells slots) (hx : p.tables.exec = Jvm.exec) {v : Value} (hp : pc + 1 = pc') (hd : decode c.code pc = .ok (.pop, 1)) (hc : v.category = 1) (G : OG p e below Φ Q (T.setTop (mkF m pc' L S))) : OG p e below Φ Q (T.setTop (mkF m pc L (v :: S))) := by
  subst hp; exact og_of (fun _ st => XS.pop X.here hx rfl hd rfl hc st) G
theorem o_dup_x1 (X : Stand p l e R s m args below meth c T locs cells slots) (hx : p.tables.exec = Jvm.exec) {v w : Value} (hp : pc + 1 = pc') (hd : decode c.code pc = .ok (.dup_x1, 1)) (hc : v.category = 1) (hc2 : w.category = 1) (G : OG p e below Φ Q (T.setTop (mkF m pc' L (v :: w :: v :: S)))) : OG p e below Φ Q (T.setTop (mkF m pc L (v :: w :: S))) := by
  subst hp; exact og_of (fun _ st => XS.dupX1 X.here hx rfl hd rfl hc hc2 st) G
theorem o_dup2 (X : Stand p l e R s m args below meth c T locs cells slots) (hx : p.tables.exec = Jvm.exec) {v w : Value} (hp : pc + 1 = pc') (hd : decode c.code pc = .ok (.dup2, 1)) (hc : v.category = 1) (hc2 : w.category = 1) (G : OG p e below Φ Q (T.setTop (mkF m pc' L (v :: w :: v :: w :: S)))) : OG p e below Φ Q (T.setTop (mkF m pc L (v :: w :: S))) := by
  subst hp; exact og_of (fun _ st => XT.dup2 X.here hx rfl hd rfl hc hc2 st) G
theorem o_dup2L (X : Stand p l e R s m args below meth c T locs cells slots) (hx : p.tables.exec = Jvm.exec) {v : Int64} (hp : pc + 1 = pc') (hd : decode c.code pc = .ok (.dup2, 1))  (G : OG p e below Φ Q (T.setTop (mkF m pc' L (.long v :: .long v :: S)))) : OG p e below Φ Q (T.setTop (mkF m pc L (.long v :: S))) := by
  subst hp; exact og_of (fun _ st => XT.dup2L X.here hx rfl hd rfl st) G
theorem o_dup_x2 (X : Stand p l e R s m args below meth c T locs cells slots) (hx : p.tables.exec = Jvm.exec) {u v w : Value} (hp : pc + 1 = pc') (hd : decode c.code pc = .ok (.dup_x2, 1)) (hu : u.category = 1) (hv : v.category = 1) (hw : w.category = 1) (G : OG p e below Φ Q (T.setTop (mkF m pc' L (u :: v :: w :: u :: S)))) : OG p e below Φ Q (T.setTop (mkF m pc L (u :: v :: w :: S))) := by
  subst hp; refine og_of (fun _ st => ?_) G
  jvm_step X.here [X.here.top, hx, hd, hu, hv, hw]
  exact st
theorem o_iinc (X : Stand p l e R s m args below meth c T locs cells slots) (hx : p.tables.exec = Jvm.exec) {i : Nat} {cst : Int} {x z : Int32} (hp : pc + 3 = pc') (hd : decode c.code pc = .ok (.iinc i cst, 3)) (hl : L[i]? = some (.val (.int x))) (hz : x + Int32.ofInt cst = z) (hl' : storeLocals L i (.int z) = some L') (G : OG p e below Φ Q (T.setTop (mkF m pc' L' S))) : OG p e below Φ Q (T.setTop (mkF m pc L S)) := by
  subst hp hz; exact og_of (fun _ st => XS.iinc X.here hx rfl hd hl hl' st) G
theorem o_goto (X : Stand p l e R s m args below meth c T locs cells slots) (hx : p.tables.exec = Jvm.exec) {o : Int} (hd : decode c.code pc = .ok (.goto o, 3)) (ho : 0 ≤ (pc : Int) + o) (hp : ((pc : Int) + o).toNat = pc') (G : OG p e below Φ Q (T.setTop (mkF m pc' L S))) : OG p e below Φ Q (T.setTop (mkF m pc L S)) := og_of (fun _ st => XS.goto X.here hx rfl rfl hd ho hp st) G
theorem o_ifY (X : Stand p l e R s m args below meth c T locs cells slots) (hx : p.tables.exec = Jvm.exec) {cd : ClassFile.Cond} {x : Int32} {o : Int} (hd : decode c.code pc = .ok (.ifCond cd o, 3)) (hc : ifCond.holds cd x = true) (ho : 0 ≤ (pc : Int) + o) (hp : ((pc : Int) + o).toNat = pc') (G : OG p e below Φ Q (T.setTop (mkF m pc' L S))) : OG p e below Φ Q (T.setTop (mkF m pc L (.int x :: S))) := og_of (fun _ st => XS.ifYes X.here hx rfl rfl hd rfl hc ho hp st) G
theorem o_ifN (X : Stand p l e R s m args below meth c T locs cells slots) (hx : p.tables.exec = Jvm.exec) {cd : ClassFile.Cond} {x : Int32} {o : Int} (hp : pc + 3 = pc') (hd : decode c.code pc = .ok (.ifCond cd o, 3)) (hc : ifCond.holds cd x = false) (G : OG p e below Φ Q (T.setTop (mkF m pc' L S))) : OG p e below Φ Q (T.setTop (mkF m pc L (.int x :: S))) := by
  subst hp; exact og_of (fun _ st => XS.ifNo X.here hx rfl hd rfl hc st) G
theorem o_icmpY (X : Stand p l e R s m args below meth c T locs cells slots) (hx : p.tables.exec = Jvm.exec) {cd : ClassFile.Cond} {x y : Int32} {o : Int} (hd : decode c.code pc = .ok (.if_icmp cd o, 3)) (hc : if_icmp.holds cd x y = true) (ho : 0 ≤ (pc : Int) + o) (hp : ((pc : Int) + o).toNat = pc') (G : OG p e below Φ Q (T.setTop (mkF m pc' L S))) : OG p e below Φ Q (T.setTop (mkF m pc L (.int y :: .int x :: S))) := og_of (fun _ st => XS.icmpYes X.here hx rfl rfl hd rfl hc ho hp st) G
theorem o_icmpN (X : Stand p l e R s m args below meth c T locs cells slots) (hx : p.tables.exec = Jvm.exec) {cd : ClassFile.Cond} {x y : Int32} {o : Int} (hp : pc + 3 = pc') (hd : decode c.code pc = .ok (.if_icmp cd o, 3)) (hc : if_icmp.holds cd x y = false) (G : OG p e below Φ Q (T.setTop (mkF m pc' L S))) : OG p e below Φ Q (T.setTop (mkF m pc L (.int y :: .int x :: S))) := by
  subst hp; exact og_of (fun _ st => XS.icmpNo X.here hx rfl hd rfl hc st) G
theorem o_ifnullY (X : Stand p l e R s m args below meth c T locs cells slots) (hx : p.tables.exec = Jvm.exec) {o : Int} (hd : decode c.code pc = .ok (.ifnull o, 3)) (ho : 0 ≤ (pc : Int) + o) (hp : ((pc : Int) + o).toNat = pc') (G : OG p e below Φ Q (T.setTop (mkF m pc' L S))) : OG p e below Φ Q (T.setTop (mkF m pc L (.null :: S))) := og_of (fun _ st => XS.ifnullYes X.here hx rfl rfl hd rfl ho hp st) G
theorem o_ifnullN (X : Stand p l e R s m args below meth c T locs cells slots) (hx : p.tables.exec = Jvm.exec) {o : Int} {a : Addr} (hp : pc + 3 = pc') (hd : decode c.code pc = .ok (.ifnull o, 3)) (G : OG p e below Φ Q (T.setTop (mkF m pc' L S))) : OG p e below Φ Q (T.setTop (mkF m pc L (.ref a :: S))) := by
  subst hp; exact og_of (fun _ st => XS.ifnullNo X.here hx rfl hd rfl st) G
theorem o_ifnonnullY (X : Stand p l e R s m args below meth c T locs cells slots) (hx : p.tables.exec = Jvm.exec) {o : Int} {a : Addr} (hd : decode c.code pc = .ok (.ifnonnull o, 3)) (ho : 0 ≤ (pc : Int) + o) (hp : ((pc : Int) + o).toNat = pc') (G : OG p e below Φ Q (T.setTop (mkF m pc' L S))) : OG p e below Φ Q (T.setTop (mkF m pc L (.ref a :: S))) := og_of (fun _ st => XS.ifnonnullYes X.here hx rfl rfl hd rfl ho hp st) G
theorem o_ifnonnullN (X : Stand p l e R s m args below meth c T locs cells slots) (hx : p.tables.exec = Jvm.exec) {o : Int} (hp : pc + 3 = pc') (hd : decode c.code pc = .ok (.ifnonnull o, 3)) (G : OG p e below Φ Q (T.setTop (mkF m pc' L S))) : OG p e below Φ Q (T.setTop (mkF m pc L (.null :: S))) := by
  subst hp; exact og_of (fun _ st => XS.ifnonnullNo X.here hx rfl hd rfl st) G
theorem o_acmpY (X : Stand p l e R s m args below meth c T locs cells slots) (hx : p.tables.exec = Jvm.exec) {cd : ClassFile.ACond} {a b : Addr} {o : Int} (hd : decode c.code pc = .ok (.if_acmp cd o, 3)) (hc : if_acmp.holds cd (some a) (some b) = true) (ho : 0 ≤ (pc : Int) + o) (hp : ((pc : Int) + o).toNat = pc') (G : OG p e below Φ Q (T.setTop (mkF m pc' L S))) : OG p e below Φ Q (T.setTop (mkF m pc L (.ref b :: .ref a :: S))) := og_of (fun _ st => XS.acmpYes X.here hx rfl rfl hd rfl hc ho hp st) G
theorem o_acmpN (X : Stand p l e R s m args below meth c T locs cells slots) (hx : p.tables.exec = Jvm.exec) {cd : ClassFile.ACond} {a b : Addr} {o : Int} (hp : pc + 3 = pc') (hd : decode c.code pc = .ok (.if_acmp cd o, 3)) (hc : if_acmp.holds cd (some a) (some b) = false) (G : OG p e below Φ Q (T.setTop (mkF m pc' L S))) : OG p e below Φ Q (T.setTop (mkF m pc L (.ref b :: .ref a :: S))) := by
  subst hp; exact og_of (fun _ st => XS.acmpNo X.here hx rfl hd rfl hc st) G
theorem o_ldcI (X : Stand p l e R s m args below meth c T locs cells slots) (hx : p.tables.exec = Jvm.exec) {Z : State} {a0 : Array Value} {own : String} {i : Nat} {v : Int32} (hp : pc + 2 = pc') (hd : decode c.code pc = .ok (.ldc i, 2)) (hZ : Z.Warmed39 s.vm) (hown : s.vm.findClass own = some m.cls) (w : (Cond.constant own i v).before a0 Z = true) (G : OG p e below Φ Q (T.setTop (mkF m pc' L (.int v :: S)))) : OG p e below Φ Q (T.setTop (mkF m pc L S)) := by
  subst hp; exact og_of (X.ldcInt hx hown (mvT hZ w) (g := mkF m pc L S) rfl hd) G
theorem o_ldcwI (X : Stand p l e R s m args below meth c T locs cells slots) (hx : p.tables.exec = Jvm.exec) {Z : State} {a0 : Array Value} {own : String} {i : Nat} {v : Int32} (hp : pc + 3 = pc') (hd : decode c.code pc = .ok (.ldc_w i, 3)) (hZ : Z.Warmed39 s.vm) (hown : s.vm.findClass own = some m.cls) (w : (Cond.constant own i v).before a0 Z = true) (G : OG p e below Φ Q (T.setTop (mkF m pc' L (.int v :: S)))) : OG p e below Φ Q (T.setTop (mkF m pc L S)) := by
  subst hp; exact og_of (X.ldcwInt hx hown (mvT hZ w) (g := mkF m pc L S) rfl hd) G
theorem o_ldc2L (X : Stand p l e R s m args below meth c T locs cells slots) (hx : p.tables.exec = Jvm.exec) {Z : State} {a0 : Array Value} {own : String} {i : Nat} {v : Int64} (hp : pc + 3 = pc') (hd : decode c.code pc = .ok (.ldc2_w i, 3)) (hZ : Z.Warmed39 s.vm) (hown : s.vm.findClass own = some m.cls) (w : (Cond.constantLong own i v).before a0 Z = true) (G : OG p e below Φ Q (T.setTop (mkF m pc' L (.long v :: S)))) : OG p e below Φ Q (T.setTop (mkF m pc L S)) := by
  subst hp; exact og_of (X.ldc2Long hx hown (mvT hZ w) (g := mkF m pc L S) rfl hd) G
theorem own_cat {x : Value} (h : x.isRef = true) : x.category = 1 := by cases x <;> simp_all [Value.isRef, Value.category]
theorem own_narR {x : Value} (h : x.isRef = true) (t : FieldType) : narrow t x = x := by rcases ref_cases h with rfl | ⟨a, rfl⟩ <;> cases t <;> rfl
theorem own_fitR {x : Value} {C : String} (h : x.isRef = true) : fits (.object C) x = true := by rcases ref_cases h with rfl | ⟨a, rfl⟩ <;> rfl
theorem own_selp {Z : State} {a0 : Array Value} {y : MethodName} {q : Nat} (hZ : Z.Warmed39 s.vm) (wi : (Cond.instantiable y.cls q).before a0 Z = true) (hp : (Cond.privateMethod y).before a0 Z = true) (hi : (Cond.instanceMethod y).before a0 Z = true) (hy : y.cls ≠ "java/lang/invoke/MethodHandle" ∧ y.cls ≠ "java/lang/invoke/VarHandle") : (Cond.selects y.cls y y).before args s = true := by
  have wi' : (Cond.instantiable y.cls q).before args s = true := mv hZ wi
  obtain ⟨cc, kk, h1, h2, -, h4, -⟩ := Cond.instantiable_spec wi'
  have hni : kk.isInterface = false := by simp only [Bool.or_eq_false_iff] at h4; exact h4.1
  exact selects_self_of_private h1 h2 hni (Cond.privateMethod_at (mvP hZ hp (args := args))) (mv hZ hi) hy
theorem own_staK {Z : State} {h h' : Heap} {C nn d : String} {v : Value} (F : Sta Z h C nn d v) (K : Keep h h' []) : Sta Z h' C nn d v := by
  obtain ⟨cf, i, k, f, st, cell, h1, h2, h3, h4, h5, r⟩ := F
  exact ⟨cf, i, k, f, st, cell, h1, h2, h3, h4, K.2.1 _ _ h5 (fun q => nomatch q), r⟩
end Own
end Jvm.RoadKit
namespace Jvm.Pilot.@@N@@
open Jvm Jvm.ClassFile Sem Op Lib Jvm.Free Jvm.Stand Jvm.LawKit Jvm.RoadKit Bundle Jvm.Pilot.@@N@@.Jvm.D
theorem own_d2_0 : decode jdk_30_method_1_code 0 = .ok (.aload_n 0, 1) := by decide +kernel
theorem own_d2_1 : decode jdk_30_method_1_code 1 = .ok (.invokespecial 1, 3) := by decide +kernel
theorem own_d2_4 : decode jdk_30_method_1_code 4 = .ok (.return_, 1) := by decide +kernel
theorem own_ef2 (m : MethodId) (a0 : Addr) : entryFrame m #[(.ref a0)] 1 = mkF m 0 #[.val (.ref a0)] [] := by first | (simp [entryFrame, mkF, argsToLocals, Value.category]; done) | rfl
def own_Q2 (Z : State) (a0 : Addr) (h0 : Heap) (n0 : Nat) (v : Option Value) (h : Heap) (L : List Loc) : Prop := v = none ∧ Fr n0 L ∧ h = h0
theorem own_pn3 : plainName "java/lang/Record" = true := by first | (simp [plainName, overriddenIn]; done) | decide +kernel
set_option maxRecDepth 65536 in
set_option maxHeartbeats 40000000 in
theorem own_rm2 (l : Launch) (Z : State) (aA : Array Value) (hw : ∀ d ∈ tables_1, d.before aA Z = true) (ws : List Jvm.Cond) (a0 : Addr) (h0 : Heap) (n0 : Nat) (Z0 : n0 ≤ h0.size) :
    MetFree l (⟨"java/lang/Record", "<init>", "()V"⟩ : MethodName) (head1 (Jvm.Cond.code (⟨"java/lang/Record", "<init>", "()V"⟩ : MethodName) jdk_30_method_1_code 1 none :: ws) ({ frames := 1, cells := 0, slots := 0, locals := 12 } : Room)) (fun a U => a = #[(.ref a0)] ∧ Z.Warmed39 U.vm ∧ U.heap = h0) (fun _ _ _ _ _ => True) (fun _ U o U' => ∃ v L, o = .returned v ∧ own_Q2 Z a0 h0 n0 v U'.heap L ∧ FrameEnd U o U' L ({ frames := 1, cells := 0, slots := 0, locals := 12 } : Room).cells ({ frames := 1, cells := 0, slots := 0, locals := 12 } : Room).slots) := by
  refine MetFree.of_bodySF (plainFor_of_name own_pn3) hisR ?_
  intro p e s m args below meth c s₁ Bd hml0 hP hK
  obtain ⟨rfl, hZ, hh⟩ := hP
  have hx := Bd.exec
  have hby := Bd.bytes
  have hlk : meth.locks = false := Bd.notSynchronized
  have hml : c.maxLocals = 1 := hml0
  have hown : s.vm.findClass "java/lang/Record" = some m.cls := findClass_of_methodNamed Bd.named
  have hnm := (name_of_methodNamed Bd.named Bd.method).1
  have X0 : Stand p l e ({ frames := 1, cells := 0, slots := 0, locals := 12 } : Room) s m #[(.ref a0)] below meth c s₁ [] 0 0 := Stand.of_body Bd
  have e0 : s₁.heap = h0 := by rw [← hh, Bd.state]; rfl
  have N0 := Fr.nil n0
  show OG p e below (FE s ({ frames := 1, cells := 0, slots := 0, locals := 12 } : Room).cells ({ frames := 1, cells := 0, slots := 0, locals := 12 } : Room).slots) (own_Q2 Z a0 h0 n0) (s₁.setTop (entryFrame m #[(.ref a0)] 1))
  refine og_of (fun _ k => castTop (own_ef2 m a0) k) ?_
  refine o_aloadN X0 hx rfl (hb hby own_d2_0) rfl rfl ?_
  obtain ⟨T1, X1, e1, st1⟩ := initO X0 hx hZ hown (hw _ (List.mem_of_getElem? (i := 13) rfl)) (hw _ (List.mem_of_getElem? (i := 14) rfl)) (hw _ (List.mem_of_getElem? (i := 15) rfl)) e0 (g := (mkF m 1 #[.val (.ref a0)] [(.ref a0)])) rfl (by rw [hml]; rfl) rfl (hb hby own_d2_1) (by decide) (W := 0) (by show 2 * 0 + _ ≤ _; exact Nat.le_of_eq rfl) (by decide)
  refine og_of st1 ?_
  show OG p e below _ _ (T1.setTop (mkF m 4 #[.val (.ref a0)] []))
  exact o_ret0 X1 hx Bd.returns (own_lv X1 hlk (by decide) (by decide)) (hb hby own_d2_4) ⟨rfl, N0, e1⟩
theorem own_pd0 : parseMethodDescriptor "()V" = some ⟨[], none⟩ := by decide +kernel
theorem own_d1_0 : decode prog_39_method_1_code 0 = .ok (.aload_n 0, 1) := by decide +kernel
theorem own_d1_1 : decode prog_39_method_1_code 1 = .ok (.invokespecial 1, 3) := by decide +kernel
theorem own_d1_4 : decode prog_39_method_1_code 4 = .ok (.iload_n 1, 1) := by decide +kernel
theorem own_d1_5 : decode prog_39_method_1_code 5 = .ok (.ifCond .ge 17, 3) := by decide +kernel
theorem own_d1_22 : decode prog_39_method_1_code 22 = .ok (.lload_n 2, 1) := by decide +kernel
theorem own_d1_23 : decode prog_39_method_1_code 23 = .ok (.lconst 0, 1) := by decide +kernel
theorem own_d1_24 : decode prog_39_method_1_code 24 = .ok (.lcmp, 1) := by decide +kernel
theorem own_d1_25 : decode prog_39_method_1_code 25 = .ok (.ifCond .ne 12, 3) := by decide +kernel
theorem own_d1_28 : decode prog_39_method_1_code 28 = .ok (.iload 6, 2) := by decide +kernel
theorem own_d1_30 : decode prog_39_method_1_code 30 = .ok (.ifCond .ne 7, 3) := by decide +kernel
theorem own_d1_33 : decode prog_39_method_1_code 33 = .ok (.iconst 1, 1) := by decide +kernel
theorem own_d1_34 : decode prog_39_method_1_code 34 = .ok (.goto 4, 3) := by decide +kernel
theorem own_d1_37 : decode prog_39_method_1_code 37 = .ok (.iconst 0, 1) := by decide +kernel
theorem own_d1_38 : decode prog_39_method_1_code 38 = .ok (.istore 7, 2) := by decide +kernel
theorem own_d1_40 : decode prog_39_method_1_code 40 = .ok (.lload_n 2, 1) := by decide +kernel
theorem own_d1_41 : decode prog_39_method_1_code 41 = .ok (.lconst 1, 1) := by decide +kernel
theorem own_d1_42 : decode prog_39_method_1_code 42 = .ok (.lcmp, 1) := by decide +kernel
theorem own_d1_43 : decode prog_39_method_1_code 43 = .ok (.ifCond .ge 22, 3) := by decide +kernel
theorem own_d1_46 : decode prog_39_method_1_code 46 = .ok (.iload 7, 2) := by decide +kernel
theorem own_d1_48 : decode prog_39_method_1_code 48 = .ok (.ifCond .ne 17, 3) := by decide +kernel
theorem own_d1_65 : decode prog_39_method_1_code 65 = .ok (.lload 4, 2) := by decide +kernel
theorem own_d1_67 : decode prog_39_method_1_code 67 = .ok (.lload_n 2, 1) := by decide +kernel
theorem own_d1_68 : decode prog_39_method_1_code 68 = .ok (.lcmp, 1) := by decide +kernel
theorem own_d1_69 : decode prog_39_method_1_code 69 = .ok (.ifCond .ge 19, 3) := by decide +kernel
theorem own_d1_88 : decode prog_39_method_1_code 88 = .ok (.iload 6, 2) := by decide +kernel
theorem own_d1_90 : decode prog_39_method_1_code 90 = .ok (.iconst 1, 1) := by decide +kernel
theorem own_d1_91 : decode prog_39_method_1_code 91 = .ok (.if_icmp .ge 23, 3) := by decide +kernel
theorem own_d1_94 : decode prog_39_method_1_code 94 = .ok (.iload 7, 2) := by decide +kernel
theorem own_d1_96 : decode prog_39_method_1_code 96 = .ok (.ifCond .ne 18, 3) := by decide +kernel
theorem own_d1_114 : decode prog_39_method_1_code 114 = .ok (.aload_n 0, 1) := by decide +kernel
theorem own_d1_115 : decode prog_39_method_1_code 115 = .ok (.iload_n 1, 1) := by decide +kernel
theorem own_d1_116 : decode prog_39_method_1_code 116 = .ok (.putfield 23, 3) := by decide +kernel
theorem own_d1_119 : decode prog_39_method_1_code 119 = .ok (.aload_n 0, 1) := by decide +kernel
theorem own_d1_120 : decode prog_39_method_1_code 120 = .ok (.lload_n 2, 1) := by decide +kernel
theorem own_d1_121 : decode prog_39_method_1_code 121 = .ok (.putfield 29, 3) := by decide +kernel
theorem own_d1_124 : decode prog_39_method_1_code 124 = .ok (.aload_n 0, 1) := by decide +kernel
theorem own_d1_125 : decode prog_39_method_1_code 125 = .ok (.lload 4, 2) := by decide +kernel
theorem own_d1_127 : decode prog_39_method_1_code 127 = .ok (.putfield 33, 3) := by decide +kernel
theorem own_d1_130 : decode prog_39_method_1_code 130 = .ok (.aload_n 0, 1) := by decide +kernel
theorem own_d1_131 : decode prog_39_method_1_code 131 = .ok (.iload 6, 2) := by decide +kernel
theorem own_d1_133 : decode prog_39_method_1_code 133 = .ok (.putfield 36, 3) := by decide +kernel
theorem own_d1_136 : decode prog_39_method_1_code 136 = .ok (.return_, 1) := by decide +kernel
theorem own_ef1 (m : MethodId) (a0 : Addr) (p1 : Int32) (q2 : Int64) (q3 : Int64) (p4 : Int32) : entryFrame m #[(.ref a0), (.int p1), (.long q2), (.long q3), (.int p4)] 8 = mkF m 0 #[.val (.ref a0), .val (.int p1), .val (.long q2), .second, .val (.long q3), .second, .val (.int p4), .unset] [] := by first | (simp [entryFrame, mkF, argsToLocals, Value.category]; done) | rfl
def own_Q1 (Z : State) (a0 : Addr) (p1 : Int32) (q2 : Int64) (q3 : Int64) (p4 : Int32) (h0 : Heap) (n0 : Nat) (v : Option Value) (h : Heap) (L : List Loc) : Prop := v = none ∧ Fr n0 L ∧ Keep h0 h [a0] ∧ Fld Z h a0 "com/example/nodeset/nodeset/NodeLabel" "document" "I" (.int p1) ∧ Fld Z h a0 "com/example/nodeset/nodeset/NodeLabel" "start" "J" (.long q2) ∧ Fld Z h a0 "com/example/nodeset/nodeset/NodeLabel" "end" "J" (.long q3) ∧ Fld Z h a0 "com/example/nodeset/nodeset/NodeLabel" "depth" "I" (.int p4)
theorem own_pn46 : plainName "com/example/nodeset/nodeset/NodeLabel" = true := by first | (simp [plainName, overriddenIn]; done) | decide +kernel
set_option maxRecDepth 65536 in
set_option maxHeartbeats 40000000 in
theorem own_rm1 (l : Launch) (Z : State) (aA : Array Value) (hw : ∀ d ∈ tables_1, d.before aA Z = true) (ws : List Jvm.Cond) (a0 : Addr) (p1 : Int32) (q2 : Int64) (q3 : Int64) (p4 : Int32) (h0 : Heap) (n0 : Nat) (Z0 : n0 ≤ h0.size) (pre0 : Exa Z h0 a0 "com/example/nodeset/nodeset/NodeLabel") (pre1 : n0 ≤ a0) (pre2 : Fld Z h0 a0 "com/example/nodeset/nodeset/NodeLabel" "document" "I" (.int (0 : Int32))) (pre3 : Fld Z h0 a0 "com/example/nodeset/nodeset/NodeLabel" "start" "J" (.long (0 : Int64))) (pre4 : Fld Z h0 a0 "com/example/nodeset/nodeset/NodeLabel" "end" "J" (.long (0 : Int64))) (pre5 : Fld Z h0 a0 "com/example/nodeset/nodeset/NodeLabel" "depth" "I" (.int (0 : Int32))) (h1 : ¬ (p1 < (0 : Int32))) (hS : ¬ (q2 < (1 : Int64)) ∨ (q2 = (0 : Int64) ∧ p4 = (0 : Int32))) (h3 : ¬ (q3 < q2)) (hD : ¬ (p4 < (1 : Int32)) ∨ (q2 = (0 : Int64) ∧ p4 = (0 : Int32))) :
    MetFree l (⟨"com/example/nodeset/nodeset/NodeLabel", "<init>", "(IJJI)V"⟩ : MethodName) (head1 (Jvm.Cond.code (⟨"com/example/nodeset/nodeset/NodeLabel", "<init>", "(IJJI)V"⟩ : MethodName) prog_39_method_1_code 8 none :: ws) ({ frames := 2, cells := 0, slots := 0, locals := 24 } : Room)) (fun a U => a = #[(.ref a0), (.int p1), (.long q2), (.long q3), (.int p4)] ∧ Z.Warmed39 U.vm ∧ U.heap = h0) (fun _ _ _ _ _ => True) (fun _ U o U' => ∃ v L, o = .returned v ∧ own_Q1 Z a0 p1 q2 q3 p4 h0 n0 v U'.heap L ∧ FrameEnd U o U' L ({ frames := 2, cells := 0, slots := 0, locals := 24 } : Room).cells ({ frames := 2, cells := 0, slots := 0, locals := 24 } : Room).slots) := by
  refine MetFree.of_bodySF (plainFor_of_name own_pn46) hisR ?_
  intro p e s m args below meth c s₁ Bd hml0 hP hK
  obtain ⟨rfl, hZ, hh⟩ := hP
  have hx := Bd.exec
  have hby := Bd.bytes
  have hlk : meth.locks = false := Bd.notSynchronized
  have hml : c.maxLocals = 8 := hml0
  have hown : s.vm.findClass "com/example/nodeset/nodeset/NodeLabel" = some m.cls := findClass_of_methodNamed Bd.named
  have hnm := (name_of_methodNamed Bd.named Bd.method).1
  have X0 : Stand p l e ({ frames := 2, cells := 0, slots := 0, locals := 24 } : Room) s m #[(.ref a0), (.int p1), (.long q2), (.long q3), (.int p4)] below meth c s₁ [] 0 0 := Stand.of_body Bd
  have e0 : s₁.heap = h0 := by rw [← hh, Bd.state]; rfl
  have N0 := Fr.nil n0
  show OG p e below (FE s ({ frames := 2, cells := 0, slots := 0, locals := 24 } : Room).cells ({ frames := 2, cells := 0, slots := 0, locals := 24 } : Room).slots) (own_Q1 Z a0 p1 q2 q3 p4 h0 n0) (s₁.setTop (entryFrame m #[(.ref a0), (.int p1), (.long q2), (.long q3), (.int p4)] 8))
  refine og_of (fun _ k => castTop (own_ef1 m a0 p1 q2 q3 p4) k) ?_
  refine o_aloadN X0 hx rfl (hb hby own_d1_0) rfl rfl ?_
  obtain ⟨_, _, ⟨T1, L1, k1, n1⟩, -, X1, ⟨Lc1, hQ1, l1, y1, z1⟩, st1⟩ := X0.specialBack hx (y := (⟨"java/lang/Record", "<init>", "()V"⟩ : MethodName)) rfl hown (mvT hZ (hw _ (List.mem_of_getElem? (i := 8) rfl))) (mvT hZ (hw _ (List.mem_of_getElem? (i := 9) rfl))) (mvT hZ (hw _ (List.mem_of_getElem? (i := 12) rfl))) (by decide) (backOf (W := 0) (own_rm2 l Z aA hw [] a0 h0 n0 Z0) hZ (hw _ (List.mem_of_getElem? (i := 12) rfl)) (hw _ (List.mem_of_getElem? (i := 11) rfl)) (by decide) (by decide)) (g := (mkF m 1 #[.val (.ref a0), .val (.int p1), .val (.long q2), .second, .val (.long q3), .second, .val (.int p4), .unset] [(.ref a0)])) rfl (by rw [hml]; rfl) (Steps.refl _) (a := a0) (argsL := []) (rest := []) (lenOf own_pd0 rfl) rfl (by show 2 * 0 + _ ≤ _; exact Nat.le_of_eq rfl) (hb hby own_d1_1) (fun _ _ => ⟨rfl, e0, Nat.le_of_ble_eq_true rfl, Nat.le_of_ble_eq_true rfl⟩)
  dsimp only [Pt.U, Pt.locs, Pt.cells, Pt.slots] at X1 l1 y1 z1 st1 hQ1
  subst l1 y1 z1
  obtain ⟨rfl, N1q, ee1⟩ := hQ1
  have N2 := Fr.app N0 N1q
  refine og_tr st1 ?_
  show OG p e below _ _ (T1.setTop (mkF m 4 #[.val (.ref a0), .val (.int p1), .val (.long q2), .second, .val (.long q3), .second, .val (.int p4), .unset] []))
  refine o_iloadN X1 hx rfl (hb hby own_d1_4) rfl ?_
  have hk3 : ¬ (p1 < (0 : Int32)) := h1
  refine o_ifY (pc' := 22) X1 hx (hb hby own_d1_5) ((if0 _ _).trans (flt hk3).2.1) (by decide) (by decide) ?_
  refine o_lloadN X1 hx rfl (hb hby own_d1_22) rfl ?_
  refine o_lconst (z := (0 : Int64)) X1 hx rfl (hb hby own_d1_23) (by decide) ?_
  refine o_lcmp X1 hx rfl (hb hby own_d1_24) ?_
  obtain ⟨ph6, hph6⟩ : ∃ z : Int32, (if q2 = (0 : Int64) then (if p4 = (0 : Int32) then (1 : Int32) else (0 : Int32)) else (0 : Int32)) = z := ⟨_, rfl⟩
  have J7 : OG p e below (FE s ({ frames := 2, cells := 0, slots := 0, locals := 24 } : Room).cells ({ frames := 2, cells := 0, slots := 0, locals := 24 } : Room).slots) (own_Q1 Z a0 p1 q2 q3 p4 h0 n0) (T1.setTop (mkF m 38 #[.val (.ref a0), .val (.int p1), .val (.long q2), .second, .val (.long q3), .second, .val (.int p4), .unset] [(.int ph6)])) := by
    refine o_istore X1 hx rfl (hb hby own_d1_38) (L' := #[.val (.ref a0), .val (.int p1), .val (.long q2), .second, .val (.long q3), .second, .val (.int p4), .val (.int ph6)]) rfl ?_
    refine o_lloadN X1 hx rfl (hb hby own_d1_40) rfl ?_
    refine o_lconst (z := (1 : Int64)) X1 hx rfl (hb hby own_d1_41) (by decide) ?_
    refine o_lcmp X1 hx rfl (hb hby own_d1_42) ?_
    have J10 : OG p e below (FE s ({ frames := 2, cells := 0, slots := 0, locals := 24 } : Room).cells ({ frames := 2, cells := 0, slots := 0, locals := 24 } : Room).slots) (own_Q1 Z a0 p1 q2 q3 p4 h0 n0) (T1.setTop (mkF m 65 #[.val (.ref a0), .val (.int p1), .val (.long q2), .second, .val (.long q3), .second, .val (.int p4), .val (.int ph6)] [])) := by
      refine o_lload X1 hx rfl (hb hby own_d1_65) rfl ?_
      refine o_lloadN X1 hx rfl (hb hby own_d1_67) rfl ?_
      refine o_lcmp X1 hx rfl (hb hby own_d1_68) ?_
      have hk11 : ¬ (q3 < q2) := h3
      refine o_ifY (pc' := 88) X1 hx (hb hby own_d1_69) (lcN_lt hk11).2 (by decide) (by decide) ?_
      refine o_iload X1 hx rfl (hb hby own_d1_88) rfl ?_
      refine o_iconst (z := (1 : Int32)) X1 hx rfl (hb hby own_d1_90) (by decide) ?_
      have J14 : OG p e below (FE s ({ frames := 2, cells := 0, slots := 0, locals := 24 } : Room).cells ({ frames := 2, cells := 0, slots := 0, locals := 24 } : Room).slots) (own_Q1 Z a0 p1 q2 q3 p4 h0 n0) (T1.setTop (mkF m 114 #[.val (.ref a0), .val (.int p1), .val (.long q2), .second, .val (.long q3), .second, .val (.int p4), .val (.int ph6)] [])) := by
        refine o_aloadN X1 hx rfl (hb hby own_d1_114) rfl rfl ?_
        refine o_iloadN X1 hx rfl (hb hby own_d1_115) rfl ?_
        obtain ⟨T15, h15, X15, e15, W15, st15⟩ := putF X1 hx hZ hown (host := "") (Or.inl (hw _ (List.mem_of_getElem? (i := 16) rfl))) Via.refl ee1 pre2 pre0 (Or.inr ⟨(hw _ (List.mem_of_getElem? (i := 17) rfl)), rfl, hnm⟩) (hw _ (List.mem_of_getElem? (i := 3) rfl)) (ty := .int) (by decide) rfl rfl (g := (mkF m 116 #[.val (.ref a0), .val (.int p1), .val (.long q2), .second, .val (.long q3), .second, .val (.int p4), .val (.int ph6)] [(.int p1), (.ref a0)])) rfl rfl (hb hby own_d1_116)
        have Fw15 := pre2.same W15
        have N15 := Fr.snoc X15 N2 pre1
        have Kp16 : Keep h0 h15 [a0] := (Keep.refl h0 [a0]).wr W15 (Or.inl (List.mem_of_getElem? (i := 0) rfl))
        refine og_of st15 ?_
        show OG p e below _ _ (T15.setTop (mkF m 119 #[.val (.ref a0), .val (.int p1), .val (.long q2), .second, .val (.long q3), .second, .val (.int p4), .val (.int ph6)] []))
        refine o_aloadN X15 hx rfl (hb hby own_d1_119) rfl rfl ?_
        refine o_lloadN X15 hx rfl (hb hby own_d1_120) rfl ?_
        have Fc17 : Exa Z h15 a0 "com/example/nodeset/nodeset/NodeLabel" := (Exa.wr W15 pre0)
        have Fc18 : Fld Z h15 a0 "com/example/nodeset/nodeset/NodeLabel" "start" "J" (.long (0 : Int64)) := (Fld.other W15 pre3 (Or.inr (slot_ne (Or.inr (hw _ (List.mem_of_getElem? (i := 19) rfl))) (Or.inr (hw _ (List.mem_of_getElem? (i := 17) rfl))) (by decide) (t := .long) (t' := .int) (by decide) (by decide))))
        obtain ⟨T19, h19, X19, e19, W19, st19⟩ := putF X15 hx hZ hown (host := "") (Or.inl (hw _ (List.mem_of_getElem? (i := 18) rfl))) Via.refl e15 Fc18 Fc17 (Or.inr ⟨(hw _ (List.mem_of_getElem? (i := 19) rfl)), rfl, hnm⟩) (hw _ (List.mem_of_getElem? (i := 3) rfl)) (ty := .long) (by decide) rfl rfl (g := (mkF m 121 #[.val (.ref a0), .val (.int p1), .val (.long q2), .second, .val (.long q3), .second, .val (.int p4), .val (.int ph6)] [(.long q2), (.ref a0)])) rfl rfl (hb hby own_d1_121)
        have Fw19 := Fc18.same W19
        have N19 := Fr.snoc X19 N15 pre1
        have Kp20 : Keep h0 h19 [a0] := Kp16.wr W19 (Or.inl (List.mem_of_getElem? (i := 0) rfl))
        refine og_of st19 ?_
        show OG p e below _ _ (T19.setTop (mkF m 124 #[.val (.ref a0), .val (.int p1), .val (.long q2), .second, .val (.long q3), .second, .val (.int p4), .val (.int ph6)] []))
        refine o_aloadN X19 hx rfl (hb hby own_d1_124) rfl rfl ?_
        refine o_lload X19 hx rfl (hb hby own_d1_125) rfl ?_
        have Fc21 : Exa Z h19 a0 "com/example/nodeset/nodeset/NodeLabel" := (Exa.wr W19 Fc17)
        have Fc22 : Fld Z h19 a0 "com/example/nodeset/nodeset/NodeLabel" "end" "J" (.long (0 : Int64)) := (Fld.other W19 (Fld.other W15 pre4 (Or.inr (slot_ne (Or.inr (hw _ (List.mem_of_getElem? (i := 21) rfl))) (Or.inr (hw _ (List.mem_of_getElem? (i := 17) rfl))) (by decide) (t := .long) (t' := .int) (by decide) (by decide)))) (Or.inr (slot_ne (Or.inr (hw _ (List.mem_of_getElem? (i := 21) rfl))) (Or.inr (hw _ (List.mem_of_getElem? (i := 19) rfl))) (by decide) (t := .long) (t' := .long) (by decide) (by decide))))
        obtain ⟨T23, h23, X23, e23, W23, st23⟩ := putF X19 hx hZ hown (host := "") (Or.inl (hw _ (List.mem_of_getElem? (i := 20) rfl))) Via.refl e19 Fc22 Fc21 (Or.inr ⟨(hw _ (List.mem_of_getElem? (i := 21) rfl)), rfl, hnm⟩) (hw _ (List.mem_of_getElem? (i := 3) rfl)) (ty := .long) (by decide) rfl rfl (g := (mkF m 127 #[.val (.ref a0), .val (.int p1), .val (.long q2), .second, .val (.long q3), .second, .val (.int p4), .val (.int ph6)] [(.long q3), (.ref a0)])) rfl rfl (hb hby own_d1_127)
        have Fw23 := Fc22.same W23
        have N23 := Fr.snoc X23 N19 pre1
        have Kp24 : Keep h0 h23 [a0] := Kp20.wr W23 (Or.inl (List.mem_of_getElem? (i := 0) rfl))
        refine og_of st23 ?_
        show OG p e below _ _ (T23.setTop (mkF m 130 #[.val (.ref a0), .val (.int p1), .val (.long q2), .second, .val (.long q3), .second, .val (.int p4), .val (.int ph6)] []))
        refine o_aloadN X23 hx rfl (hb hby own_d1_130) rfl rfl ?_
        refine o_iload X23 hx rfl (hb hby own_d1_131) rfl ?_
        have Fc25 : Exa Z h23 a0 "com/example/nodeset/nodeset/NodeLabel" := (Exa.wr W23 Fc21)
        have Fc26 : Fld Z h23 a0 "com/example/nodeset/nodeset/NodeLabel" "depth" "I" (.int (0 : Int32)) := (Fld.other W23 (Fld.other W19 (Fld.other W15 pre5 (Or.inr (slot_ne (Or.inr (hw _ (List.mem_of_getElem? (i := 23) rfl))) (Or.inr (hw _ (List.mem_of_getElem? (i := 17) rfl))) (by decide) (t := .int) (t' := .int) (by decide) (by decide)))) (Or.inr (slot_ne (Or.inr (hw _ (List.mem_of_getElem? (i := 23) rfl))) (Or.inr (hw _ (List.mem_of_getElem? (i := 19) rfl))) (by decide) (t := .int) (t' := .long) (by decide) (by decide)))) (Or.inr (slot_ne (Or.inr (hw _ (List.mem_of_getElem? (i := 23) rfl))) (Or.inr (hw _ (List.mem_of_getElem? (i := 21) rfl))) (by decide) (t := .int) (t' := .long) (by decide) (by decide))))
        obtain ⟨T27, h27, X27, e27, W27, st27⟩ := putF X23 hx hZ hown (host := "") (Or.inl (hw _ (List.mem_of_getElem? (i := 22) rfl))) Via.refl e23 Fc26 Fc25 (Or.inr ⟨(hw _ (List.mem_of_getElem? (i := 23) rfl)), rfl, hnm⟩) (hw _ (List.mem_of_getElem? (i := 3) rfl)) (ty := .int) (by decide) rfl rfl (g := (mkF m 133 #[.val (.ref a0), .val (.int p1), .val (.long q2), .second, .val (.long q3), .second, .val (.int p4), .val (.int ph6)] [(.int p4), (.ref a0)])) rfl rfl (hb hby own_d1_133)
        have Fw27 := Fc26.same W27
        have N27 := Fr.snoc X27 N23 pre1
        have Kp28 : Keep h0 h27 [a0] := Kp24.wr W27 (Or.inl (List.mem_of_getElem? (i := 0) rfl))
        refine og_of st27 ?_
        show OG p e below _ _ (T27.setTop (mkF m 136 #[.val (.ref a0), .val (.int p1), .val (.long q2), .second, .val (.long q3), .second, .val (.int p4), .val (.int ph6)] []))
        have Fc29 : Fld Z h27 a0 "com/example/nodeset/nodeset/NodeLabel" "document" "I" (.int p1) := (Fld.other W27 (Fld.other W23 (Fld.other W19 Fw15 (Or.inr (slot_ne (Or.inr (hw _ (List.mem_of_getElem? (i := 17) rfl))) (Or.inr (hw _ (List.mem_of_getElem? (i := 19) rfl))) (by decide) (t := .int) (t' := .long) (by decide) (by decide)))) (Or.inr (slot_ne (Or.inr (hw _ (List.mem_of_getElem? (i := 17) rfl))) (Or.inr (hw _ (List.mem_of_getElem? (i := 21) rfl))) (by decide) (t := .int) (t' := .long) (by decide) (by decide)))) (Or.inr (slot_ne (Or.inr (hw _ (List.mem_of_getElem? (i := 17) rfl))) (Or.inr (hw _ (List.mem_of_getElem? (i := 23) rfl))) (by decide) (t := .int) (t' := .int) (by decide) (by decide))))
        have Fc30 : Fld Z h27 a0 "com/example/nodeset/nodeset/NodeLabel" "start" "J" (.long q2) := (Fld.other W27 (Fld.other W23 Fw19 (Or.inr (slot_ne (Or.inr (hw _ (List.mem_of_getElem? (i := 19) rfl))) (Or.inr (hw _ (List.mem_of_getElem? (i := 21) rfl))) (by decide) (t := .long) (t' := .long) (by decide) (by decide)))) (Or.inr (slot_ne (Or.inr (hw _ (List.mem_of_getElem? (i := 19) rfl))) (Or.inr (hw _ (List.mem_of_getElem? (i := 23) rfl))) (by decide) (t := .long) (t' := .int) (by decide) (by decide))))
        have Fc31 : Fld Z h27 a0 "com/example/nodeset/nodeset/NodeLabel" "end" "J" (.long q3) := (Fld.other W27 Fw23 (Or.inr (slot_ne (Or.inr (hw _ (List.mem_of_getElem? (i := 21) rfl))) (Or.inr (hw _ (List.mem_of_getElem? (i := 23) rfl))) (by decide) (t := .long) (t' := .int) (by decide) (by decide))))
        subst hph6
        exact o_ret0 X27 hx Bd.returns (own_lv X27 hlk (by decide) (by decide)) (hb hby own_d1_136) ⟨rfl, N27, (by rw [e27]; exact Kp28), (by rw [e27]; exact Fc29), (by rw [e27]; exact Fc30), (by rw [e27]; exact Fc31), (by rw [e27]; exact Fw27)⟩
      by_cases hc32 : p4 < (1 : Int32)
      · skip
        refine o_icmpN (pc' := 94) X1 hx rfl (hb hby own_d1_91) (tlt hc32).2.1 ?_
        refine o_iload X1 hx rfl (hb hby own_d1_94) rfl ?_
        have hk33 : ¬ (ph6 = (0 : Int32)) := fun hq => by
          rw [← hph6] at hq; rcases hD with h | ⟨ha, hb⟩
          · exact h hc32
          · rw [if_pos ha, if_pos hb] at hq; exact absurd hq (by decide)
        refine o_ifY (pc' := 114) X1 hx (hb hby own_d1_96) ((if0 _ _).trans (feq hk33).2) (by decide) (by decide) ?_
        exact J14
      · skip
        refine o_icmpY (pc' := 114) X1 hx (hb hby own_d1_91) (flt hc32).2.1 (by decide) (by decide) ?_
        exact J14
    by_cases hc34 : q2 < (1 : Int64)
    · skip
      refine o_ifN (pc' := 46) X1 hx rfl (hb hby own_d1_43) (lcY_lt hc34).2 ?_
      refine o_iload X1 hx rfl (hb hby own_d1_46) rfl ?_
      have hk35 : ¬ (ph6 = (0 : Int32)) := fun hq => by
        rw [← hph6] at hq; rcases hS with h | ⟨ha, hb⟩
        · exact h hc34
        · rw [if_pos ha, if_pos hb] at hq; exact absurd hq (by decide)
      refine o_ifY (pc' := 65) X1 hx (hb hby own_d1_48) ((if0 _ _).trans (feq hk35).2) (by decide) (by decide) ?_
      exact J10
    · skip
      refine o_ifY (pc' := 65) X1 hx (hb hby own_d1_43) (lcN_lt hc34).2 (by decide) (by decide) ?_
      exact J10
  by_cases hc36 : q2 = (0 : Int64)
  · skip
    refine o_ifN (pc' := 28) X1 hx rfl (hb hby own_d1_25) (lcY_eq hc36).2 ?_
    refine o_iload X1 hx rfl (hb hby own_d1_28) rfl ?_
    by_cases hc37 : p4 = (0 : Int32)
    · skip
      refine o_ifN (pc' := 33) X1 hx rfl (hb hby own_d1_30) ((if0 _ _).trans (teq hc37).2) ?_
      refine o_iconst (z := (1 : Int32)) X1 hx rfl (hb hby own_d1_33) (by decide) ?_
      refine o_goto (pc' := 38) X1 hx (hb hby own_d1_34) (by decide) (by decide) ?_
      have q38 : ph6 = (1 : Int32) := by
        rw [← hph6]
        simp only [if_pos hc36, if_pos hc37]
      rw [q38] at J7
      exact J7
    · skip
      refine o_ifY (pc' := 37) X1 hx (hb hby own_d1_30) ((if0 _ _).trans (feq hc37).2) (by decide) (by decide) ?_
      refine o_iconst (z := (0 : Int32)) X1 hx rfl (hb hby own_d1_37) (by decide) ?_
      have q39 : ph6 = (0 : Int32) := by
        rw [← hph6]
        simp only [if_pos hc36, if_neg hc37]
      rw [q39] at J7
      exact J7
  · skip
    refine o_ifY (pc' := 37) X1 hx (hb hby own_d1_25) (lcN_eq hc36).2 (by decide) (by decide) ?_
    refine o_iconst (z := (0 : Int32)) X1 hx rfl (hb hby own_d1_37) (by decide) ?_
    have q40 : ph6 = (0 : Int32) := by
      rw [← hph6]
      simp only [if_neg hc36]
    rw [q40] at J7
    exact J7
theorem own_d4_0 : decode prog_39_method_2_code 0 = .ok (.aload_n 0, 1) := by decide +kernel
theorem own_d4_1 : decode prog_39_method_2_code 1 = .ok (.getfield 23, 3) := by decide +kernel
theorem own_d4_4 : decode prog_39_method_2_code 4 = .ok (.aload_n 1, 1) := by decide +kernel
theorem own_d4_5 : decode prog_39_method_2_code 5 = .ok (.getfield 23, 3) := by decide +kernel
theorem own_d4_8 : decode prog_39_method_2_code 8 = .ok (.if_icmp .ne 31, 3) := by decide +kernel
theorem own_d4_11 : decode prog_39_method_2_code 11 = .ok (.aload_n 0, 1) := by decide +kernel
theorem own_d4_12 : decode prog_39_method_2_code 12 = .ok (.getfield 29, 3) := by decide +kernel
theorem own_d4_15 : decode prog_39_method_2_code 15 = .ok (.aload_n 1, 1) := by decide +kernel
theorem own_d4_16 : decode prog_39_method_2_code 16 = .ok (.getfield 29, 3) := by decide +kernel
theorem own_d4_19 : decode prog_39_method_2_code 19 = .ok (.lcmp, 1) := by decide +kernel
theorem own_d4_20 : decode prog_39_method_2_code 20 = .ok (.ifCond .ge 19, 3) := by decide +kernel
theorem own_d4_23 : decode prog_39_method_2_code 23 = .ok (.aload_n 1, 1) := by decide +kernel
theorem own_d4_24 : decode prog_39_method_2_code 24 = .ok (.getfield 29, 3) := by decide +kernel
theorem own_d4_27 : decode prog_39_method_2_code 27 = .ok (.aload_n 0, 1) := by decide +kernel
theorem own_d4_28 : decode prog_39_method_2_code 28 = .ok (.getfield 33, 3) := by decide +kernel
theorem own_d4_31 : decode prog_39_method_2_code 31 = .ok (.lcmp, 1) := by decide +kernel
theorem own_d4_32 : decode prog_39_method_2_code 32 = .ok (.ifCond .gt 7, 3) := by decide +kernel
theorem own_d4_35 : decode prog_39_method_2_code 35 = .ok (.iconst 1, 1) := by decide +kernel
theorem own_d4_36 : decode prog_39_method_2_code 36 = .ok (.goto 4, 3) := by decide +kernel
theorem own_d4_39 : decode prog_39_method_2_code 39 = .ok (.iconst 0, 1) := by decide +kernel
theorem own_d4_40 : decode prog_39_method_2_code 40 = .ok (.ireturn, 1) := by decide +kernel
def own_f4 (a0 : Addr) (a1 : Addr) (d1 : Int32) (d2 : Int32) (s1 : Int64) (s2 : Int64) (en1 : Int64) : Int32 := (if d1 = d2 then (if s1 < s2 then (if en1 < s2 then (0 : Int32) else (1 : Int32)) else (0 : Int32)) else (0 : Int32))
theorem own_ef4 (m : MethodId) (a0 : Addr) (a1 : Addr) : entryFrame m #[(.ref a0), (.ref a1)] 2 = mkF m 0 #[.val (.ref a0), .val (.ref a1)] [] := by first | (simp [entryFrame, mkF, argsToLocals, Value.category]; done) | rfl
def own_Q4 (Z : State) (a0 : Addr) (a1 : Addr) (d1 : Int32) (d2 : Int32) (s1 : Int64) (s2 : Int64) (en1 : Int64) (h0 : Heap) (n0 : Nat) (v : Option Value) (h : Heap) (L : List Loc) : Prop := v = some (.int (own_f4 a0 a1 d1 d2 s1 s2 en1)) ∧ Fr n0 L ∧ h = h0
set_option maxRecDepth 65536 in
set_option maxHeartbeats 40000000 in
theorem own_rm4 (l : Launch) (Z : State) (aA : Array Value) (hw : ∀ d ∈ tables_1, d.before aA Z = true) (ws : List Jvm.Cond) (a0 : Addr) (a1 : Addr) (d1 : Int32) (d2 : Int32) (s1 : Int64) (s2 : Int64) (en1 : Int64) (h0 : Heap) (n0 : Nat) (Z0 : n0 ≤ h0.size) (pre0 : Fld Z h0 a0 "com/example/nodeset/nodeset/NodeLabel" "document" "I" (.int d1)) (pre1 : Fld Z h0 a1 "com/example/nodeset/nodeset/NodeLabel" "document" "I" (.int d2)) (pre2 : Fld Z h0 a0 "com/example/nodeset/nodeset/NodeLabel" "start" "J" (.long s1)) (pre3 : Fld Z h0 a1 "com/example/nodeset/nodeset/NodeLabel" "start" "J" (.long s2)) (pre4 : Fld Z h0 a0 "com/example/nodeset/nodeset/NodeLabel" "end" "J" (.long en1)) :
    MetFree l (⟨"com/example/nodeset/nodeset/NodeLabel", "isAncestorOf", "(Lcom/example/nodeset/nodeset/NodeLabel;)Z"⟩ : MethodName) (head1 (Jvm.Cond.code (⟨"com/example/nodeset/nodeset/NodeLabel", "isAncestorOf", "(Lcom/example/nodeset/nodeset/NodeLabel;)Z"⟩ : MethodName) prog_39_method_2_code 2 (some .boolean) :: ws) ({ frames := 0, cells := 0, slots := 0, locals := 0 } : Room)) (fun a U => a = #[(.ref a0), (.ref a1)] ∧ Z.Warmed39 U.vm ∧ U.heap = h0) (fun _ _ _ _ _ => True) (fun _ U o U' => ∃ v L, o = .returned v ∧ own_Q4 Z a0 a1 d1 d2 s1 s2 en1 h0 n0 v U'.heap L ∧ FrameEnd U o U' L ({ frames := 0, cells := 0, slots := 0, locals := 0 } : Room).cells ({ frames := 0, cells := 0, slots := 0, locals := 0 } : Room).slots) := by
  refine MetFree.of_bodySF (plainFor_of_name own_pn46) hisR ?_
  intro p e s m args below meth c s₁ Bd hml0 hP hK
  obtain ⟨rfl, hZ, hh⟩ := hP
  have hx := Bd.exec
  have hby := Bd.bytes
  have hlk : meth.locks = false := Bd.notSynchronized
  have hml : c.maxLocals = 2 := hml0
  have hown : s.vm.findClass "com/example/nodeset/nodeset/NodeLabel" = some m.cls := findClass_of_methodNamed Bd.named
  have hnm := (name_of_methodNamed Bd.named Bd.method).1
  have X0 : Stand p l e ({ frames := 0, cells := 0, slots := 0, locals := 0 } : Room) s m #[(.ref a0), (.ref a1)] below meth c s₁ [] 0 0 := Stand.of_body Bd
  have e0 : s₁.heap = h0 := by rw [← hh, Bd.state]; rfl
  have N0 := Fr.nil n0
  show OG p e below (FE s ({ frames := 0, cells := 0, slots := 0, locals := 0 } : Room).cells ({ frames := 0, cells := 0, slots := 0, locals := 0 } : Room).slots) (own_Q4 Z a0 a1 d1 d2 s1 s2 en1 h0 n0) (s₁.setTop (entryFrame m #[(.ref a0), (.ref a1)] 2))
  refine og_of (fun _ k => castTop (own_ef4 m a0 a1) k) ?_
  refine o_aloadN X0 hx rfl (hb hby own_d4_0) rfl rfl ?_
  obtain ⟨T1, X1, e1, st1⟩ := getF X0 hx hZ hown (host := "") (Or.inl (hw _ (List.mem_of_getElem? (i := 16) rfl))) Via.refl e0 pre0 (g := (mkF m 1 #[.val (.ref a0), .val (.ref a1)] [(.ref a0)])) rfl rfl (hb hby own_d4_1)
  refine og_of st1 ?_
  show OG p e below _ _ (T1.setTop (mkF m 4 #[.val (.ref a0), .val (.ref a1)] [(.int d1)]))
  refine o_aloadN X1 hx rfl (hb hby own_d4_4) rfl rfl ?_
  obtain ⟨T2, X2, e2, st2⟩ := getF X1 hx hZ hown (host := "") (Or.inl (hw _ (List.mem_of_getElem? (i := 16) rfl))) Via.refl e1 pre1 (g := (mkF m 5 #[.val (.ref a0), .val (.ref a1)] [(.ref a1), (.int d1)])) rfl rfl (hb hby own_d4_5)
  refine og_of st2 ?_
  show OG p e below _ _ (T2.setTop (mkF m 8 #[.val (.ref a0), .val (.ref a1)] [(.int d2), (.int d1)]))
  by_cases hc3 : d1 = d2
  · skip
    refine o_icmpN (pc' := 11) X2 hx rfl (hb hby own_d4_8) (teq hc3).2 ?_
    refine o_aloadN X2 hx rfl (hb hby own_d4_11) rfl rfl ?_
    obtain ⟨T4, X4, e4, st4⟩ := getF X2 hx hZ hown (host := "") (Or.inl (hw _ (List.mem_of_getElem? (i := 18) rfl))) Via.refl e2 pre2 (g := (mkF m 12 #[.val (.ref a0), .val (.ref a1)] [(.ref a0)])) rfl rfl (hb hby own_d4_12)
    refine og_of st4 ?_
    show OG p e below _ _ (T4.setTop (mkF m 15 #[.val (.ref a0), .val (.ref a1)] [(.long s1)]))
    refine o_aloadN X4 hx rfl (hb hby own_d4_15) rfl rfl ?_
    obtain ⟨T5, X5, e5, st5⟩ := getF X4 hx hZ hown (host := "") (Or.inl (hw _ (List.mem_of_getElem? (i := 18) rfl))) Via.refl e4 pre3 (g := (mkF m 16 #[.val (.ref a0), .val (.ref a1)] [(.ref a1), (.long s1)])) rfl rfl (hb hby own_d4_16)
    refine og_of st5 ?_
    show OG p e below _ _ (T5.setTop (mkF m 19 #[.val (.ref a0), .val (.ref a1)] [(.long s2), (.long s1)]))
    refine o_lcmp X5 hx rfl (hb hby own_d4_19) ?_
    by_cases hc6 : s1 < s2
    · skip
      refine o_ifN (pc' := 23) X5 hx rfl (hb hby own_d4_20) (lcY_lt hc6).2 ?_
      refine o_aloadN X5 hx rfl (hb hby own_d4_23) rfl rfl ?_
      obtain ⟨T7, X7, e7, st7⟩ := getF X5 hx hZ hown (host := "") (Or.inl (hw _ (List.mem_of_getElem? (i := 18) rfl))) Via.refl e5 pre3 (g := (mkF m 24 #[.val (.ref a0), .val (.ref a1)] [(.ref a1)])) rfl rfl (hb hby own_d4_24)
      refine og_of st7 ?_
      show OG p e below _ _ (T7.setTop (mkF m 27 #[.val (.ref a0), .val (.ref a1)] [(.long s2)]))
      refine o_aloadN X7 hx rfl (hb hby own_d4_27) rfl rfl ?_
      obtain ⟨T8, X8, e8, st8⟩ := getF X7 hx hZ hown (host := "") (Or.inl (hw _ (List.mem_of_getElem? (i := 20) rfl))) Via.refl e7 pre4 (g := (mkF m 28 #[.val (.ref a0), .val (.ref a1)] [(.ref a0), (.long s2)])) rfl rfl (hb hby own_d4_28)
      refine og_of st8 ?_
      show OG p e below _ _ (T8.setTop (mkF m 31 #[.val (.ref a0), .val (.ref a1)] [(.long en1), (.long s2)]))
      refine o_lcmp X8 hx rfl (hb hby own_d4_31) ?_
      by_cases hc9 : en1 < s2
      · skip
        refine o_ifY (pc' := 39) X8 hx (hb hby own_d4_32) (lcY_gt hc9).1 (by decide) (by decide) ?_
        refine o_iconst (z := (0 : Int32)) X8 hx rfl (hb hby own_d4_39) (by decide) ?_
        exact o_retB X8 hx Bd.returns (own_lv X8 hlk (by decide) (by decide)) (hb hby own_d4_40) (by decide) ⟨(by rw [own_f4, if_pos hc3, if_pos hc6, if_pos hc9]), N0, e8⟩
      · skip
        refine o_ifN (pc' := 35) X8 hx rfl (hb hby own_d4_32) (lcN_gt hc9).1 ?_
        refine o_iconst (z := (1 : Int32)) X8 hx rfl (hb hby own_d4_35) (by decide) ?_
        refine o_goto (pc' := 40) X8 hx (hb hby own_d4_36) (by decide) (by decide) ?_
        exact o_retB X8 hx Bd.returns (own_lv X8 hlk (by decide) (by decide)) (hb hby own_d4_40) (by decide) ⟨(by rw [own_f4, if_pos hc3, if_pos hc6, if_neg hc9]), N0, e8⟩
    · skip
      refine o_ifY (pc' := 39) X5 hx (hb hby own_d4_20) (lcN_lt hc6).2 (by decide) (by decide) ?_
      refine o_iconst (z := (0 : Int32)) X5 hx rfl (hb hby own_d4_39) (by decide) ?_
      exact o_retB X5 hx Bd.returns (own_lv X5 hlk (by decide) (by decide)) (hb hby own_d4_40) (by decide) ⟨(by rw [own_f4, if_pos hc3, if_neg hc6]), N0, e5⟩
  · skip
    refine o_icmpY (pc' := 39) X2 hx (hb hby own_d4_8) (feq hc3).2 (by decide) (by decide) ?_
    refine o_iconst (z := (0 : Int32)) X2 hx rfl (hb hby own_d4_39) (by decide) ?_
    exact o_retB X2 hx Bd.returns (own_lv X2 hlk (by decide) (by decide)) (hb hby own_d4_40) (by decide) ⟨(by rw [own_f4, if_neg hc3]), N0, e2⟩
theorem own_mod (w d : Int64) (hw : 0 ≤ w.toInt) (hd : 0 < d.toInt) : 0 ≤ (w % d).toInt ∧ (w % d).toInt < d.toInt := by
  rw [Int64.toInt_mod, Int.tmod_eq_emod_of_nonneg hw]
  exact ⟨Int.emod_nonneg _ (by omega), Int.emod_lt_of_pos _ hd⟩
theorem own_d0 (p : Int32) : ¬ ((p &&& (2147483647 : Int32)) < (0 : Int32)) := by
  have := c_mask p 2147483647 31 (by decide) (by decide)
  have z : (0 : Int32).toInt = 0 := rfl
  rw [Int32.lt_iff_toInt_lt]; omega
theorem own_mx (q : Int64) : 0 ≤ (q &&& (9223372036854775807 : Int64)).toInt := by
  rw [c_maskL q 9223372036854775807 63 (by decide) (by decide)]; omega
theorem own_dp (y : Int32) : ¬ ((1 : Int32) + (y &&& (255 : Int32))) < (1 : Int32) := by
  have a := c_and y 255 (by decide)
  have o : (255 : Int32).toInt = 255 := rfl
  have b := c_iadd 1 (y &&& 255)
  have r := rng32 (1 + (y &&& 255))
  have o1 : (1 : Int32).toInt = 1 := rfl
  rw [Int32.lt_iff_toInt_lt]; omega
theorem own_e (s n : Int64) (hs : 0 ≤ s.toInt) (hn : 0 ≤ n.toInt) : s.toInt ≤ (if ((9223372036854775807 : Int64) - s) < n then (9223372036854775807 : Int64) else (s + n)).toInt := by
  have a := c_lsub 9223372036854775807 s
  have r := rng64 (9223372036854775807 - s)
  have rs := rng64 s
  have rn := rng64 n
  have o : (9223372036854775807 : Int64).toInt = 9223372036854775807 := rfl
  have b := c_ladd s n
  have r2 := rng64 (s + n)
  split
  · omega
  · rename_i h; rw [Int64.lt_iff_toInt_lt] at h; omega
theorem own_sd (m : Int32) (x : Int64) (y : Int32) : 0 ≤ (if m = (0 : Int32) then (if x &&& (9223372036854775807 : Int64) = (0 : Int64) then (1 : Int64) else (x &&& (9223372036854775807 : Int64))) else (0 : Int64)).toInt ∧
    (¬ ((if m = (0 : Int32) then (if x &&& (9223372036854775807 : Int64) = (0 : Int64) then (1 : Int64) else (x &&& (9223372036854775807 : Int64))) else (0 : Int64)) < (1 : Int64)) ∧ ¬ ((if m = (0 : Int32) then ((1 : Int32) + (y &&& (255 : Int32))) else (0 : Int32)) < (1 : Int32)) ∨
     ((if m = (0 : Int32) then (if x &&& (9223372036854775807 : Int64) = (0 : Int64) then (1 : Int64) else (x &&& (9223372036854775807 : Int64))) else (0 : Int64)) = (0 : Int64) ∧ (if m = (0 : Int32) then ((1 : Int32) + (y &&& (255 : Int32))) else (0 : Int32)) = (0 : Int32))) := by
  by_cases h : m = (0 : Int32)
  · simp only [if_pos h]
    by_cases h2 : x &&& (9223372036854775807 : Int64) = (0 : Int64)
    · simp only [if_pos h2]; exact ⟨by decide, Or.inl ⟨by decide, own_dp y⟩⟩
    · simp only [if_neg h2]
      have q := own_mx x
      refine ⟨q, Or.inl ⟨?_, own_dp y⟩⟩
      have o : (1 : Int64).toInt = 1 := rfl
      have z : (0 : Int64).toInt = 0 := rfl
      have h3 : (x &&& (9223372036854775807 : Int64)).toInt ≠ 0 := fun e => h2 (Int64.toInt_inj.mp (by rw [e, z]))
      rw [Int64.lt_iff_toInt_lt, o]; omega
  · rw [if_neg h, if_neg h]; exact ⟨by decide, Or.inr ⟨rfl, rfl⟩⟩
theorem own_anc (a b : Addr) (d1 d2 : Int32) (s t e : Int64) : own_f4 a b d1 d2 s t e = if s < t ∧ ¬ e < t then (if d1 = d2 then (1 : Int32) else (0 : Int32)) else (0 : Int32) := by
  unfold own_f4
  by_cases h1 : d1 = d2 <;> by_cases h2 : s < t <;> by_cases h3 : e < t <;> simp [h1, h2, h3]
theorem own_t2 (t : Int64) (y : Int32) (ht : 0 ≤ t.toInt) : (¬ t < (1 : Int64) ∧ ¬ (if t = (0 : Int64) then (0 : Int32) else ((1 : Int32) + (y &&& (255 : Int32)))) < (1 : Int32)) ∨ (t = (0 : Int64) ∧ (if t = (0 : Int64) then (0 : Int32) else ((1 : Int32) + (y &&& (255 : Int32)))) = (0 : Int32)) := by
  by_cases h : t = (0 : Int64)
  · exact Or.inr ⟨h, if_pos h⟩
  · rw [if_neg h]
    have o : (1 : Int64).toInt = 1 := rfl
    have z : (0 : Int64).toInt = 0 := rfl
    have h3 : t.toInt ≠ 0 := fun e => h (Int64.toInt_inj.mp (by rw [e, z]))
    exact Or.inl ⟨by rw [Int64.lt_iff_toInt_lt, o]; omega, own_dp y⟩
theorem own_key (s e w : Int64) (c sd : Int32) (hs : 0 ≤ s.toInt) (hse : s.toInt ≤ e.toInt) (hw : 0 ≤ w.toInt) (T : Int64) (hT : (if c = (0 : Int32) then s else (if c = (1 : Int32) then (if s < (2 : Int64) then (0 : Int64) else ((1 : Int64) + (w % (s - (1 : Int64))))) else (if c = (2 : Int32) then (if s < e then ((s + (1 : Int64)) + (w % (e - s))) else s) else (if c = (3 : Int32) then (if s < e then e else s) else (if c = (4 : Int32) then (if e < (9223372036854775807 : Int64) then (e + (1 : Int64)) else s) else (if e < (9223372036854775807 : Int64) then ((e + (1 : Int64)) + (w % ((9223372036854775807 : Int64) - e))) else s)))))) = T) (E : Int32) (hE : (if c = (0 : Int32) then (0 : Int32) else (if c = (1 : Int32) then (0 : Int32) else (if c = (2 : Int32) then (if s < e then sd else (0 : Int32)) else (if c = (3 : Int32) then (if s < e then sd else (0 : Int32)) else (0 : Int32))))) = E) : 0 ≤ T.toInt ∧ E = if s < T ∧ ¬ e < T then sd else (0 : Int32) := by
  have rs := rng64 s
  have re := rng64 e
  have o0 : (0 : Int64).toInt = 0 := rfl
  have o1 : (1 : Int64).toInt = 1 := rfl
  have o2 : (2 : Int64).toInt = 2 := rfl
  have oM : (9223372036854775807 : Int64).toInt = 9223372036854775807 := rfl
  have neg : ∀ t : Int64, 0 ≤ t.toInt → (t.toInt ≤ s.toInt ∨ e.toInt < t.toInt) → 0 ≤ t.toInt ∧ (0 : Int32) = if s < t ∧ ¬ e < t then sd else (0 : Int32) := fun t h0 h => by
    refine ⟨h0, (if_neg ?_).symm⟩
    rw [Int64.lt_iff_toInt_lt, Int64.lt_iff_toInt_lt]; omega
  have pos : ∀ t : Int64, s.toInt < t.toInt → t.toInt ≤ e.toInt → 0 ≤ t.toInt ∧ sd = if s < t ∧ ¬ e < t then sd else (0 : Int32) := fun t h0 h => by
    refine ⟨by omega, (if_pos ?_).symm⟩
    rw [Int64.lt_iff_toInt_lt, Int64.lt_iff_toInt_lt]; omega
  by_cases c0 : c = (0 : Int32)
  · simp only [if_pos c0] at hT hE; subst hT hE; exact neg _ hs (Or.inl (Int.le_refl _))
  · simp only [if_neg c0] at hT hE
    by_cases c1 : c = (1 : Int32)
    · simp only [if_pos c1] at hT hE
      by_cases k : s < (2 : Int64)
      · simp only [if_pos k] at hT hE; subst hT hE; exact neg _ (by omega) (Or.inl (by omega))
      · simp only [if_neg k] at hT hE; subst hT hE
        rw [Int64.lt_iff_toInt_lt] at k
        have a := c_lsub s 1
        have ra := rng64 (s - 1)
        have md := own_mod w (s - 1) hw (by omega)
        have b := c_ladd 1 (w % (s - 1))
        have rb := rng64 (1 + (w % (s - 1)))
        exact neg _ (by omega) (Or.inl (by omega))
    · simp only [if_neg c1] at hT hE
      by_cases c2 : c = (2 : Int32)
      · simp only [if_pos c2] at hT hE
        by_cases k : s < e
        · simp only [if_pos k] at hT hE; subst hT hE
          rw [Int64.lt_iff_toInt_lt] at k
          have a := c_lsub e s
          have ra := rng64 (e - s)
          have md := own_mod w (e - s) hw (by omega)
          have b := c_ladd s 1
          have rb := rng64 (s + 1)
          have b2 := c_ladd (s + 1) (w % (e - s))
          have rb2 := rng64 ((s + 1) + (w % (e - s)))
          exact pos _ (by omega) (by omega)
        · simp only [if_neg k] at hT hE; subst hT hE; exact neg _ hs (Or.inl (Int.le_refl _))
      · simp only [if_neg c2] at hT hE
        by_cases c3 : c = (3 : Int32)
        · simp only [if_pos c3] at hT hE
          by_cases k : s < e
          · simp only [if_pos k] at hT hE; subst hT hE
            rw [Int64.lt_iff_toInt_lt] at k
            exact pos _ k (Int.le_refl _)
          · simp only [if_neg k] at hT hE; subst hT hE; exact neg _ hs (Or.inl (Int.le_refl _))
        · simp only [if_neg c3] at hT hE
          subst hE
          by_cases c4 : c = (4 : Int32)
          · simp only [if_pos c4] at hT
            by_cases k : e < (9223372036854775807 : Int64)
            · simp only [if_pos k] at hT; subst hT
              rw [Int64.lt_iff_toInt_lt] at k
              have b := c_ladd e 1
              have rb := rng64 (e + 1)
              exact neg _ (by omega) (Or.inr (by omega))
            · simp only [if_neg k] at hT; subst hT; exact neg _ hs (Or.inl (Int.le_refl _))
          · simp only [if_neg c4] at hT
            by_cases k : e < (9223372036854775807 : Int64)
            · simp only [if_pos k] at hT; subst hT
              rw [Int64.lt_iff_toInt_lt] at k
              have a := c_lsub 9223372036854775807 e
              have ra := rng64 (9223372036854775807 - e)
              have md := own_mod w (9223372036854775807 - e) hw (by omega)
              have b := c_ladd e 1
              have rb := rng64 (e + 1)
              have b2 := c_ladd (e + 1) (w % (9223372036854775807 - e))
              have rb2 := rng64 ((e + 1) + (w % (9223372036854775807 - e)))
              exact neg _ (by omega) (Or.inr (by omega))
            · simp only [if_neg k] at hT; subst hT; exact neg _ hs (Or.inl (Int.le_refl _))
theorem own_pd1 : parseMethodDescriptor "(IJJI)V" = some ⟨[.int, .long, .long, .int], none⟩ := by decide +kernel
theorem own_pd2 : parseMethodDescriptor "(Lcom/example/nodeset/nodeset/NodeLabel;)Z" = some ⟨[(.object "com/example/nodeset/nodeset/NodeLabel")], some .boolean⟩ := by decide +kernel
theorem own_ef0 (m : MethodId) (p0 : Int32) (p1 : Int32) (q2 : Int64) (q3 : Int64) (q4 : Int64) (p5 : Int32) : entryFrame m #[(.int p0), (.int p1), (.long q2), (.long q3), (.long q4), (.int p5)] maxLocals = mkF m 0 #[.val (.int p0), .val (.int p1), .val (.long q2), .second, .val (.long q3), .second, .val (.long q4), .second, .val (.int p5), .unset, .unset, .unset, .unset, .unset, .unset, .unset, .unset, .unset, .unset, .unset, .unset, .unset, .unset, .unset, .unset, .unset, .unset, .unset, .unset, .unset, .unset] [] := by first | (simp [entryFrame, mkF, argsToLocals, Value.category, maxLocals]; done) | rfl
def own_Q0 (Z : State) (p0 : Int32) (p1 : Int32) (q2 : Int64) (q3 : Int64) (q4 : Int64) (p5 : Int32) (h0 : Heap) (n0 : Nat) (v : Option Value) (h : Heap) (L : List Loc) : Prop := v = some (.int (1 : Int32)) ∧ Fr n0 L
theorem own_pn68 : plainName "com/example/nodeset/nodeset/NodeLabelIsAncestorOfPinLaw" = true := by first | (simp [plainName, overriddenIn]; done) | decide +kernel
set_option maxRecDepth 65536 in
set_option maxHeartbeats 40000000 in
theorem own_rm0 (l : Launch) (Z : State) (aA : Array Value) (hw : ∀ d ∈ tables_1, d.before aA Z = true) (ws : List Jvm.Cond) (p0 : Int32) (p1 : Int32) (q2 : Int64) (q3 : Int64) (q4 : Int64) (p5 : Int32) (h0 : Heap) (n0 : Nat) (Z0 : n0 ≤ h0.size) :
    MetFree l x (head1 (Jvm.Cond.code x code maxLocals ret :: ws) room_1) (fun a U => a = #[(.int p0), (.int p1), (.long q2), (.long q3), (.long q4), (.int p5)] ∧ Z.Warmed39 U.vm ∧ U.heap = h0) (fun _ _ _ _ _ => True) (fun _ U o U' => ∃ v L, o = .returned v ∧ own_Q0 Z p0 p1 q2 q3 q4 p5 h0 n0 v U'.heap L ∧ FrameEnd U o U' L room_1.cells room_1.slots) := by
  refine MetFree.of_bodySF (plainFor_of_name own_pn68) hisR ?_
  intro p e s m args below meth c s₁ Bd hml0 hP hK
  obtain ⟨rfl, hZ, hh⟩ := hP
  have hx := Bd.exec
  have hby := Bd.bytes
  have hlk : meth.locks = false := Bd.notSynchronized
  have hml : c.maxLocals = 31 := hml0
  have hown : s.vm.findClass "com/example/nodeset/nodeset/NodeLabelIsAncestorOfPinLaw" = some m.cls := findClass_of_methodNamed Bd.named
  have hnm := (name_of_methodNamed Bd.named Bd.method).1
  have X0 : Stand p l e room_1 s m #[(.int p0), (.int p1), (.long q2), (.long q3), (.long q4), (.int p5)] below meth c s₁ [] 0 0 := Stand.of_body Bd
  have e0 : s₁.heap = h0 := by rw [← hh, Bd.state]; rfl
  have N0 := Fr.nil n0
  show OG p e below (FE s room_1.cells room_1.slots) (own_Q0 Z p0 p1 q2 q3 q4 p5 h0 n0) (s₁.setTop (entryFrame m #[(.int p0), (.int p1), (.long q2), (.long q3), (.long q4), (.int p5)] maxLocals))
  refine og_of (fun _ k => castTop (own_ef0 m p0 p1 q2 q3 q4 p5) k) ?_
  refine o_iloadN X0 hx rfl (hb hby at_0) rfl ?_
  refine o_ldcI X0 hx rfl (hb hby at_1) hZ hown (hw _ (List.mem_of_getElem? (i := 0) rfl)) ?_
  obtain ⟨z1, hz1⟩ : ∃ z : Int32, p0 &&& (2147483647 : Int32) = z := ⟨_, rfl⟩
  refine o_iand (z := z1) X0 hx rfl (hb hby at_3) hz1 ?_
  refine o_istore X0 hx rfl (hb hby at_4) (L' := #[.val (.int p0), .val (.int p1), .val (.long q2), .second, .val (.long q3), .second, .val (.long q4), .second, .val (.int p5), .val (.int z1), .unset, .unset, .unset, .unset, .unset, .unset, .unset, .unset, .unset, .unset, .unset, .unset, .unset, .unset, .unset, .unset, .unset, .unset, .unset, .unset, .unset]) rfl ?_
  refine o_iload X0 hx rfl (hb hby at_6) rfl ?_
  refine o_bipush (z := (8 : Int32)) X0 hx rfl (hb hby at_8) (by decide) ?_
  obtain ⟨z2, hz2⟩ : ∃ z : Int32, p5 &&& (8 : Int32) = z := ⟨_, rfl⟩
  refine o_iand (z := z2) X0 hx rfl (hb hby at_10) hz2 ?_
  obtain ⟨ph4, hph4⟩ : ∃ z : Int32, (if z2 = (0 : Int32) then (p1 &&& (2147483647 : Int32)) else z1) = z := ⟨_, rfl⟩
  have J5 : OG p e below (FE s room_1.cells room_1.slots) (own_Q0 Z p0 p1 q2 q3 q4 p5 h0 n0) (s₁.setTop (mkF m 23 #[.val (.int p0), .val (.int p1), .val (.long q2), .second, .val (.long q3), .second, .val (.long q4), .second, .val (.int p5), .val (.int z1), .unset, .unset, .unset, .unset, .unset, .unset, .unset, .unset, .unset, .unset, .unset, .unset, .unset, .unset, .unset, .unset, .unset, .unset, .unset, .unset, .unset] [(.int ph4)])) := by
    refine o_istore X0 hx rfl (hb hby at_23) (L' := #[.val (.int p0), .val (.int p1), .val (.long q2), .second, .val (.long q3), .second, .val (.long q4), .second, .val (.int p5), .val (.int z1), .val (.int ph4), .unset, .unset, .unset, .unset, .unset, .unset, .unset, .unset, .unset, .unset, .unset, .unset, .unset, .unset, .unset, .unset, .unset, .unset, .unset, .unset]) rfl ?_
    refine o_iload X0 hx rfl (hb hby at_25) rfl ?_
    refine o_iload X0 hx rfl (hb hby at_27) rfl ?_
    obtain ⟨ph7, hph7⟩ : ∃ z : Int32, (if z1 = ph4 then (1 : Int32) else (0 : Int32)) = z := ⟨_, rfl⟩
    have J8 : OG p e below (FE s room_1.cells room_1.slots) (own_Q0 Z p0 p1 q2 q3 q4 p5 h0 n0) (s₁.setTop (mkF m 37 #[.val (.int p0), .val (.int p1), .val (.long q2), .second, .val (.long q3), .second, .val (.long q4), .second, .val (.int p5), .val (.int z1), .val (.int ph4), .unset, .unset, .unset, .unset, .unset, .unset, .unset, .unset, .unset, .unset, .unset, .unset, .unset, .unset, .unset, .unset, .unset, .unset, .unset, .unset] [(.int ph7)])) := by
      refine o_istore X0 hx rfl (hb hby at_37) (L' := #[.val (.int p0), .val (.int p1), .val (.long q2), .second, .val (.long q3), .second, .val (.long q4), .second, .val (.int p5), .val (.int z1), .val (.int ph4), .val (.int ph7), .unset, .unset, .unset, .unset, .unset, .unset, .unset, .unset, .unset, .unset, .unset, .unset, .unset, .unset, .unset, .unset, .unset, .unset, .unset]) rfl ?_
      refine o_iload X0 hx rfl (hb hby at_39) rfl ?_
      refine o_bipush (z := (16 : Int32)) X0 hx rfl (hb hby at_41) (by decide) ?_
      obtain ⟨z9, hz9⟩ : ∃ z : Int32, p5 &&& (16 : Int32) = z := ⟨_, rfl⟩
      refine o_iand (z := z9) X0 hx rfl (hb hby at_43) hz9 ?_
      obtain ⟨ph11, hph11⟩ : ∃ z : Int32, (if z9 = (0 : Int32) then (0 : Int32) else (1 : Int32)) = z := ⟨_, rfl⟩
      have J12 : OG p e below (FE s room_1.cells room_1.slots) (own_Q0 Z p0 p1 q2 q3 q4 p5 h0 n0) (s₁.setTop (mkF m 52 #[.val (.int p0), .val (.int p1), .val (.long q2), .second, .val (.long q3), .second, .val (.long q4), .second, .val (.int p5), .val (.int z1), .val (.int ph4), .val (.int ph7), .unset, .unset, .unset, .unset, .unset, .unset, .unset, .unset, .unset, .unset, .unset, .unset, .unset, .unset, .unset, .unset, .unset, .unset, .unset] [(.int ph11)])) := by
        refine o_istore X0 hx rfl (hb hby at_52) (L' := #[.val (.int p0), .val (.int p1), .val (.long q2), .second, .val (.long q3), .second, .val (.long q4), .second, .val (.int p5), .val (.int z1), .val (.int ph4), .val (.int ph7), .val (.int ph11), .unset, .unset, .unset, .unset, .unset, .unset, .unset, .unset, .unset, .unset, .unset, .unset, .unset, .unset, .unset, .unset, .unset, .unset]) rfl ?_
        refine o_iload X0 hx rfl (hb hby at_54) rfl ?_
        obtain ⟨ph15, hph15⟩ : ∃ z : Int64, (if ph11 = (0 : Int32) then (if (q2 &&& (9223372036854775807 : Int64)) = (0 : Int64) then (1 : Int64) else (q2 &&& (9223372036854775807 : Int64))) else (0 : Int64)) = z := ⟨_, rfl⟩
        obtain ⟨ph16, hph16⟩ : ∃ z : Int32, (if ph11 = (0 : Int32) then ((1 : Int32) + (((p5.toUInt32 >>> ((8 : Int32) &&& 31).toUInt32).toInt32) &&& (255 : Int32))) else (0 : Int32)) = z := ⟨_, rfl⟩
        have J17 : OG p e below (FE s room_1.cells room_1.slots) (own_Q0 Z p0 p1 q2 q3 q4 p5 h0 n0) (s₁.setTop (mkF m 98 #[.val (.int p0), .val (.int p1), .val (.long q2), .second, .val (.long q3), .second, .val (.long q4), .second, .val (.int p5), .val (.int z1), .val (.int ph4), .val (.int ph7), .val (.int ph11), .val (.long ph15), .second, .val (.int ph16), .unset, .unset, .unset, .unset, .unset, .unset, .unset, .unset, .unset, .unset, .unset, .unset, .unset, .unset, .unset] [])) := by
          have hSD : 0 ≤ ph15.toInt ∧ ((¬ ph15 < (1 : Int64) ∧ ¬ ph16 < (1 : Int32)) ∨ (ph15 = (0 : Int64) ∧ ph16 = (0 : Int32))) := by subst hz1 hz2 hph4 hph7 hz9 hph11 hph15 hph16; exact own_sd _ _ _
          refine o_lload X0 hx rfl (hb hby at_98) rfl ?_
          refine o_ldc2L X0 hx rfl (hb hby at_100) hZ hown (hw _ (List.mem_of_getElem? (i := 1) rfl)) ?_
          obtain ⟨z18, hz18⟩ : ∃ z : Int64, q3 &&& (9223372036854775807 : Int64) = z := ⟨_, rfl⟩
          refine o_land (z := z18) X0 hx rfl (hb hby at_103) hz18 ?_
          refine o_lstore X0 hx rfl (hb hby at_104) (L' := #[.val (.int p0), .val (.int p1), .val (.long q2), .second, .val (.long q3), .second, .val (.long q4), .second, .val (.int p5), .val (.int z1), .val (.int ph4), .val (.int ph7), .val (.int ph11), .val (.long ph15), .second, .val (.int ph16), .val (.long z18), .second, .unset, .unset, .unset, .unset, .unset, .unset, .unset, .unset, .unset, .unset, .unset, .unset, .unset]) rfl ?_
          refine o_lload X0 hx rfl (hb hby at_106) rfl ?_
          refine o_ldc2L X0 hx rfl (hb hby at_108) hZ hown (hw _ (List.mem_of_getElem? (i := 1) rfl)) ?_
          refine o_lload X0 hx rfl (hb hby at_111) rfl ?_
          obtain ⟨z19, hz19⟩ : ∃ z : Int64, (9223372036854775807 : Int64) - ph15 = z := ⟨_, rfl⟩
          refine o_lsub (z := z19) X0 hx rfl (hb hby at_113) hz19 ?_
          refine o_lcmp X0 hx rfl (hb hby at_114) ?_
          obtain ⟨ph21, hph21⟩ : ∃ z : Int64, (if z19 < z18 then (9223372036854775807 : Int64) else (ph15 + z18)) = z := ⟨_, rfl⟩
          have J22 : OG p e below (FE s room_1.cells room_1.slots) (own_Q0 Z p0 p1 q2 q3 q4 p5 h0 n0) (s₁.setTop (mkF m 129 #[.val (.int p0), .val (.int p1), .val (.long q2), .second, .val (.long q3), .second, .val (.long q4), .second, .val (.int p5), .val (.int z1), .val (.int ph4), .val (.int ph7), .val (.int ph11), .val (.long ph15), .second, .val (.int ph16), .val (.long z18), .second, .unset, .unset, .unset, .unset, .unset, .unset, .unset, .unset, .unset, .unset, .unset, .unset, .unset] [(.long ph21)])) := by
            have hE : ph15.toInt ≤ ph21.toInt := by rw [← hph21, ← hz19]; exact own_e _ _ hSD.1 (by rw [← hz18]; exact own_mx q3)
            refine o_lstore X0 hx rfl (hb hby at_129) (L' := #[.val (.int p0), .val (.int p1), .val (.long q2), .second, .val (.long q3), .second, .val (.long q4), .second, .val (.int p5), .val (.int z1), .val (.int ph4), .val (.int ph7), .val (.int ph11), .val (.long ph15), .second, .val (.int ph16), .val (.long z18), .second, .val (.long ph21), .second, .unset, .unset, .unset, .unset, .unset, .unset, .unset, .unset, .unset, .unset, .unset]) rfl ?_
            refine o_lload X0 hx rfl (hb hby at_131) rfl ?_
            refine o_ldc2L X0 hx rfl (hb hby at_133) hZ hown (hw _ (List.mem_of_getElem? (i := 1) rfl)) ?_
            obtain ⟨z23, hz23⟩ : ∃ z : Int64, q4 &&& (9223372036854775807 : Int64) = z := ⟨_, rfl⟩
            refine o_land (z := z23) X0 hx rfl (hb hby at_136) hz23 ?_
            refine o_lstore X0 hx rfl (hb hby at_137) (L' := #[.val (.int p0), .val (.int p1), .val (.long q2), .second, .val (.long q3), .second, .val (.long q4), .second, .val (.int p5), .val (.int z1), .val (.int ph4), .val (.int ph7), .val (.int ph11), .val (.long ph15), .second, .val (.int ph16), .val (.long z18), .second, .val (.long ph21), .second, .val (.long z23), .second, .unset, .unset, .unset, .unset, .unset, .unset, .unset, .unset, .unset]) rfl ?_
            refine o_iload X0 hx rfl (hb hby at_139) rfl ?_
            refine o_iconst (z := (5 : Int32)) X0 hx rfl (hb hby at_141) (by decide) ?_
            obtain ⟨z24, hz24⟩ : ∃ z : Int32, (p5.toUInt32 >>> ((5 : Int32) &&& 31).toUInt32).toInt32 = z := ⟨_, rfl⟩
            refine o_iushr (z := z24) X0 hx rfl (hb hby at_142) hz24 ?_
            refine o_bipush (z := (6 : Int32)) X0 hx rfl (hb hby at_143) (by decide) ?_
            obtain ⟨z25, hz25⟩ : ∃ z : Int32, z24 % (6 : Int32) = z := ⟨_, rfl⟩
            refine o_irem (z := z25) X0 hx rfl (hb hby at_145) hz25 (by decide) ?_
            refine o_istore X0 hx rfl (hb hby at_146) (L' := #[.val (.int p0), .val (.int p1), .val (.long q2), .second, .val (.long q3), .second, .val (.long q4), .second, .val (.int p5), .val (.int z1), .val (.int ph4), .val (.int ph7), .val (.int ph11), .val (.long ph15), .second, .val (.int ph16), .val (.long z18), .second, .val (.long ph21), .second, .val (.long z23), .second, .val (.int z25), .unset, .unset, .unset, .unset, .unset, .unset, .unset, .unset]) rfl ?_
            have hW : 0 ≤ z23.toInt := by rw [← hz23]; exact own_mx q4
            refine o_iload X0 hx rfl (hb hby at_148) rfl ?_
            obtain ⟨ph39, hph39⟩ : ∃ z : Int64, (if z25 = (0 : Int32) then ph15 else (if z25 = (1 : Int32) then (if ph15 < (2 : Int64) then (0 : Int64) else ((1 : Int64) + (z23 % (ph15 - (1 : Int64))))) else (if z25 = (2 : Int32) then (if ph15 < ph21 then ((ph15 + (1 : Int64)) + (z23 % (ph21 - ph15))) else ph15) else (if z25 = (3 : Int32) then (if ph15 < ph21 then ph21 else ph15) else (if z25 = (4 : Int32) then (if ph21 < (9223372036854775807 : Int64) then (ph21 + (1 : Int64)) else ph15) else (if ph21 < (9223372036854775807 : Int64) then ((ph21 + (1 : Int64)) + (z23 % ((9223372036854775807 : Int64) - ph21))) else ph15)))))) = z := ⟨_, rfl⟩
            obtain ⟨ph40, hph40⟩ : ∃ z : Int32, (if z25 = (0 : Int32) then (0 : Int32) else (if z25 = (1 : Int32) then (0 : Int32) else (if z25 = (2 : Int32) then (if ph15 < ph21 then ph7 else (0 : Int32)) else (if z25 = (3 : Int32) then (if ph15 < ph21 then ph7 else (0 : Int32)) else (0 : Int32))))) = z := ⟨_, rfl⟩
            have J41 : OG p e below (FE s room_1.cells room_1.slots) (own_Q0 Z p0 p1 q2 q3 q4 p5 h0 n0) (s₁.setTop (mkF m 349 #[.val (.int p0), .val (.int p1), .val (.long q2), .second, .val (.long q3), .second, .val (.long q4), .second, .val (.int p5), .val (.int z1), .val (.int ph4), .val (.int ph7), .val (.int ph11), .val (.long ph15), .second, .val (.int ph16), .val (.long z18), .second, .val (.long ph21), .second, .val (.long z23), .second, .val (.int z25), .val (.long ph39), .second, .val (.int ph40), .unset, .unset, .unset, .unset, .unset] [])) := by
              have hK := own_key ph15 ph21 z23 z25 ph7 hSD.1 hE hW ph39 hph39 ph40 hph40
              refine o_iload X0 hx rfl (hb hby at_349) rfl ?_
              refine o_iconst (z := (1 : Int32)) X0 hx rfl (hb hby at_351) (by decide) ?_
              obtain ⟨z42, hz42⟩ : ∃ z : Int32, p5 &&& (1 : Int32) = z := ⟨_, rfl⟩
              refine o_iand (z := z42) X0 hx rfl (hb hby at_352) hz42 ?_
              obtain ⟨ph44, hph44⟩ : ∃ z : Int64, (if z42 = (0 : Int32) then ph39 else (9223372036854775807 : Int64)) = z := ⟨_, rfl⟩
              have J45 : OG p e below (FE s room_1.cells room_1.slots) (own_Q0 Z p0 p1 q2 q3 q4 p5 h0 n0) (s₁.setTop (mkF m 364 #[.val (.int p0), .val (.int p1), .val (.long q2), .second, .val (.long q3), .second, .val (.long q4), .second, .val (.int p5), .val (.int z1), .val (.int ph4), .val (.int ph7), .val (.int ph11), .val (.long ph15), .second, .val (.int ph16), .val (.long z18), .second, .val (.long ph21), .second, .val (.long z23), .second, .val (.int z25), .val (.long ph39), .second, .val (.int ph40), .unset, .unset, .unset, .unset, .unset] [(.long ph44)])) := by
                have hE2 : ¬ (ph44 < ph39) := by
                  rw [← hph44, Int64.lt_iff_toInt_lt]; split
                  · exact Int.lt_irrefl _
                  · have := rng64 ph39; have oM : (9223372036854775807 : Int64).toInt = 9223372036854775807 := rfl; omega
                refine o_lstore X0 hx rfl (hb hby at_364) (L' := #[.val (.int p0), .val (.int p1), .val (.long q2), .second, .val (.long q3), .second, .val (.long q4), .second, .val (.int p5), .val (.int z1), .val (.int ph4), .val (.int ph7), .val (.int ph11), .val (.long ph15), .second, .val (.int ph16), .val (.long z18), .second, .val (.long ph21), .second, .val (.long z23), .second, .val (.int z25), .val (.long ph39), .second, .val (.int ph40), .val (.long ph44), .second, .unset, .unset, .unset]) rfl ?_
                refine o_lload X0 hx rfl (hb hby at_366) rfl ?_
                refine o_lconst (z := (0 : Int64)) X0 hx rfl (hb hby at_368) (by decide) ?_
                refine o_lcmp X0 hx rfl (hb hby at_369) ?_
                obtain ⟨ph47, hph47⟩ : ∃ z : Int32, (if ph39 = (0 : Int64) then (0 : Int32) else ((1 : Int32) + (((p5.toUInt32 >>> ((16 : Int32) &&& 31).toUInt32).toInt32) &&& (255 : Int32)))) = z := ⟨_, rfl⟩
                have J48 : OG p e below (FE s room_1.cells room_1.slots) (own_Q0 Z p0 p1 q2 q3 q4 p5 h0 n0) (s₁.setTop (mkF m 388 #[.val (.int p0), .val (.int p1), .val (.long q2), .second, .val (.long q3), .second, .val (.long q4), .second, .val (.int p5), .val (.int z1), .val (.int ph4), .val (.int ph7), .val (.int ph11), .val (.long ph15), .second, .val (.int ph16), .val (.long z18), .second, .val (.long ph21), .second, .val (.long z23), .second, .val (.int z25), .val (.long ph39), .second, .val (.int ph40), .val (.long ph44), .second, .unset, .unset, .unset] [(.int ph47)])) := by
                  have hT2 : (¬ ph39 < (1 : Int64) ∧ ¬ ph47 < (1 : Int32)) ∨ (ph39 = (0 : Int64) ∧ ph47 = (0 : Int32)) := by rw [← hph47]; exact own_t2 _ _ hK.1
                  refine o_istore X0 hx rfl (hb hby at_388) (L' := #[.val (.int p0), .val (.int p1), .val (.long q2), .second, .val (.long q3), .second, .val (.long q4), .second, .val (.int p5), .val (.int z1), .val (.int ph4), .val (.int ph7), .val (.int ph11), .val (.long ph15), .second, .val (.int ph16), .val (.long z18), .second, .val (.long ph21), .second, .val (.long z23), .second, .val (.int z25), .val (.long ph39), .second, .val (.int ph40), .val (.long ph44), .second, .val (.int ph47), .unset, .unset]) rfl ?_
                  obtain ⟨T49, h49, X49, e49, E49, A49, D49, -, st49⟩ := newO X0 hx hZ hown (hw _ (List.mem_of_getElem? (i := 2) rfl)) (hw _ (List.mem_of_getElem? (i := 3) rfl)) (hw _ (List.mem_of_getElem? (i := 4) rfl)) e0 (g := (mkF m 390 #[.val (.int p0), .val (.int p1), .val (.long q2), .second, .val (.long q3), .second, .val (.long q4), .second, .val (.int p5), .val (.int z1), .val (.int ph4), .val (.int ph7), .val (.int ph11), .val (.long ph15), .second, .val (.int ph16), .val (.long z18), .second, .val (.long ph21), .second, .val (.long z23), .second, .val (.int z25), .val (.long ph39), .second, .val (.int ph40), .val (.long ph44), .second, .val (.int ph47), .unset, .unset] [])) rfl (hb hby at_390) (by decide) (by decide)
                  obtain ⟨b49, g49⟩ : ∃ z, z = h0.size := ⟨_, rfl⟩
                  rw [← g49] at A49 D49 st49
                  have gn49 : n0 ≤ b49 := Nat.le_trans Z0 (Nat.le_of_eq g49.symm)
                  have sz49 : h0.size ≤ b49 := Nat.le_trans (Keep.refl h0 []).1 (Nat.le_of_eq g49.symm)
                  have Kp50 : Keep h0 h49 [] := (Keep.refl h0 []).ext E49
                  have F49_17 : Fld Z h49 b49 "com/example/nodeset/nodeset/NodeLabel" "document" "I" (.int (0 : Int32)) := D49 (Or.inr (hw _ (List.mem_of_getElem? (i := 17) rfl))) (ty := .int) (by decide)
                  have F49_19 : Fld Z h49 b49 "com/example/nodeset/nodeset/NodeLabel" "start" "J" (.long (0 : Int64)) := D49 (Or.inr (hw _ (List.mem_of_getElem? (i := 19) rfl))) (ty := .long) (by decide)
                  have F49_21 : Fld Z h49 b49 "com/example/nodeset/nodeset/NodeLabel" "end" "J" (.long (0 : Int64)) := D49 (Or.inr (hw _ (List.mem_of_getElem? (i := 21) rfl))) (ty := .long) (by decide)
                  have F49_23 : Fld Z h49 b49 "com/example/nodeset/nodeset/NodeLabel" "depth" "I" (.int (0 : Int32)) := D49 (Or.inr (hw _ (List.mem_of_getElem? (i := 23) rfl))) (ty := .int) (by decide)
                  refine og_of st49 ?_
                  show OG p e below _ _ (T49.setTop (mkF m 393 #[.val (.int p0), .val (.int p1), .val (.long q2), .second, .val (.long q3), .second, .val (.long q4), .second, .val (.int p5), .val (.int z1), .val (.int ph4), .val (.int ph7), .val (.int ph11), .val (.long ph15), .second, .val (.int ph16), .val (.long z18), .second, .val (.long ph21), .second, .val (.long z23), .second, .val (.int z25), .val (.long ph39), .second, .val (.int ph40), .val (.long ph44), .second, .val (.int ph47), .unset, .unset] [(.ref b49)]))
                  refine o_dup X49 hx rfl (hb hby at_393) rfl ?_
                  refine o_iload X49 hx rfl (hb hby at_394) rfl ?_
                  refine o_lload X49 hx rfl (hb hby at_396) rfl ?_
                  refine o_lload X49 hx rfl (hb hby at_398) rfl ?_
                  refine o_iload X49 hx rfl (hb hby at_400) rfl ?_
                  have hw_52 : ¬ (z1 < (0 : Int32)) := by subst hz1 hz2 hph4 hph7 hz9 hph11 hph15 hph16 hz18 hz19 hph21 hz23 hz24 hz25 hph39 hph40 hz42 hph44 hph47; exact own_d0 _
                  have hw_53 : ¬ (ph15 < (1 : Int64)) ∨ (ph15 = (0 : Int64) ∧ ph16 = (0 : Int32)) := hSD.2.imp And.left id
                  have hw_54 : ¬ (ph21 < ph15) := by rw [Int64.lt_iff_toInt_lt]; omega
                  have hw_55 : ¬ (ph16 < (1 : Int32)) ∨ (ph15 = (0 : Int64) ∧ ph16 = (0 : Int32)) := hSD.2.imp And.right id
                  obtain ⟨_, _, ⟨T51, L51, k51, n51⟩, -, X51, ⟨Lc51, hQ51, l51, y51, z51⟩, st51⟩ := X49.specialBack hx (y := (⟨"com/example/nodeset/nodeset/NodeLabel", "<init>", "(IJJI)V"⟩ : MethodName)) rfl hown (mvT hZ (hw _ (List.mem_of_getElem? (i := 5) rfl))) (mvT hZ (hw _ (List.mem_of_getElem? (i := 6) rfl))) (mvT hZ (hw _ (List.mem_of_getElem? (i := 7) rfl))) (by decide) (backOf (W := 1) (own_rm1 l Z aA hw [] b49 z1 ph15 ph21 ph16 h49 n0 (Nat.le_trans Z0 E49.1) A49 gn49 F49_17 F49_19 F49_21 F49_23 hw_52 hw_53 hw_54 hw_55) hZ (hw _ (List.mem_of_getElem? (i := 7) rfl)) (hw _ (List.mem_of_getElem? (i := 4) rfl)) (by decide) (by decide)) (g := (mkF m 402 #[.val (.int p0), .val (.int p1), .val (.long q2), .second, .val (.long q3), .second, .val (.long q4), .second, .val (.int p5), .val (.int z1), .val (.int ph4), .val (.int ph7), .val (.int ph11), .val (.long ph15), .second, .val (.int ph16), .val (.long z18), .second, .val (.long ph21), .second, .val (.long z23), .second, .val (.int z25), .val (.long ph39), .second, .val (.int ph40), .val (.long ph44), .second, .val (.int ph47), .unset, .unset] [(.int ph16), (.long ph21), (.long ph15), (.int z1), (.ref b49), (.ref b49)])) rfl (by rw [hml]; rfl) (Steps.refl _) (a := b49) (argsL := [(.int z1), (.long ph15), (.long ph21), (.int ph16)]) (rest := [(.ref b49)]) (lenOf own_pd1 rfl) rfl (by show 2 * 0 + _ ≤ _; exact Nat.le_of_eq rfl) (hb hby at_402) (fun _ _ => ⟨rfl, e49, Nat.le_of_ble_eq_true rfl, Nat.le_of_ble_eq_true rfl⟩)
                  dsimp only [Pt.U, Pt.locs, Pt.cells, Pt.slots] at X51 l51 y51 z51 st51 hQ51
                  subst l51 y51 z51
                  obtain ⟨rfl, N51q, K51, f51_0, f51_1, f51_2, f51_3⟩ := hQ51
                  have N56 := Fr.app N0 N51q
                  have Kp57 : Keep h0 T51.heap [] := Kp50.trans K51 (allS (Or.inr sz49) all0)
                  refine og_tr st51 ?_
                  show OG p e below _ _ (T51.setTop (mkF m 405 #[.val (.int p0), .val (.int p1), .val (.long q2), .second, .val (.long q3), .second, .val (.long q4), .second, .val (.int p5), .val (.int z1), .val (.int ph4), .val (.int ph7), .val (.int ph11), .val (.long ph15), .second, .val (.int ph16), .val (.long z18), .second, .val (.long ph21), .second, .val (.long z23), .second, .val (.int z25), .val (.long ph39), .second, .val (.int ph40), .val (.long ph44), .second, .val (.int ph47), .unset, .unset] [(.ref b49)]))
                  refine o_astore X51 hx rfl (hb hby at_405) rfl (L' := #[.val (.int p0), .val (.int p1), .val (.long q2), .second, .val (.long q3), .second, .val (.long q4), .second, .val (.int p5), .val (.int z1), .val (.int ph4), .val (.int ph7), .val (.int ph11), .val (.long ph15), .second, .val (.int ph16), .val (.long z18), .second, .val (.long ph21), .second, .val (.long z23), .second, .val (.int z25), .val (.long ph39), .second, .val (.int ph40), .val (.long ph44), .second, .val (.int ph47), .val (.ref b49), .unset]) rfl ?_
                  obtain ⟨T58, h58, X58, e58, E58, A58, D58, -, st58⟩ := newO X51 hx hZ hown (hw _ (List.mem_of_getElem? (i := 2) rfl)) (hw _ (List.mem_of_getElem? (i := 3) rfl)) (hw _ (List.mem_of_getElem? (i := 4) rfl)) rfl (g := (mkF m 407 #[.val (.int p0), .val (.int p1), .val (.long q2), .second, .val (.long q3), .second, .val (.long q4), .second, .val (.int p5), .val (.int z1), .val (.int ph4), .val (.int ph7), .val (.int ph11), .val (.long ph15), .second, .val (.int ph16), .val (.long z18), .second, .val (.long ph21), .second, .val (.long z23), .second, .val (.int z25), .val (.long ph39), .second, .val (.int ph40), .val (.long ph44), .second, .val (.int ph47), .val (.ref b49), .unset] [])) rfl (hb hby at_407) (by decide) (by decide)
                  obtain ⟨b58, g58⟩ : ∃ z, z = T51.heap.size := ⟨_, rfl⟩
                  rw [← g58] at A58 D58 st58
                  have Fc59 : Exa Z T51.heap b49 "com/example/nodeset/nodeset/NodeLabel" := (A49.keep K51)
                  have ne60 : b49 ≠ b58 := Nat.ne_of_lt (Nat.lt_of_lt_of_le Fc59.lt (Nat.le_of_eq g58.symm))
                  have gn58 : n0 ≤ b58 := Nat.le_trans (Nat.le_trans (Nat.le_trans Z0 E49.1) K51.1) (Nat.le_of_eq g58.symm)
                  have sz58 : h0.size ≤ b58 := Nat.le_trans Kp57.1 (Nat.le_of_eq g58.symm)
                  have Kp61 : Keep h0 h58 [] := Kp57.ext E58
                  have F58_17 : Fld Z h58 b58 "com/example/nodeset/nodeset/NodeLabel" "document" "I" (.int (0 : Int32)) := D58 (Or.inr (hw _ (List.mem_of_getElem? (i := 17) rfl))) (ty := .int) (by decide)
                  have F58_19 : Fld Z h58 b58 "com/example/nodeset/nodeset/NodeLabel" "start" "J" (.long (0 : Int64)) := D58 (Or.inr (hw _ (List.mem_of_getElem? (i := 19) rfl))) (ty := .long) (by decide)
                  have F58_21 : Fld Z h58 b58 "com/example/nodeset/nodeset/NodeLabel" "end" "J" (.long (0 : Int64)) := D58 (Or.inr (hw _ (List.mem_of_getElem? (i := 21) rfl))) (ty := .long) (by decide)
                  have F58_23 : Fld Z h58 b58 "com/example/nodeset/nodeset/NodeLabel" "depth" "I" (.int (0 : Int32)) := D58 (Or.inr (hw _ (List.mem_of_getElem? (i := 23) rfl))) (ty := .int) (by decide)
                  refine og_of st58 ?_
                  show OG p e below _ _ (T58.setTop (mkF m 410 #[.val (.int p0), .val (.int p1), .val (.long q2), .second, .val (.long q3), .second, .val (.long q4), .second, .val (.int p5), .val (.int z1), .val (.int ph4), .val (.int ph7), .val (.int ph11), .val (.long ph15), .second, .val (.int ph16), .val (.long z18), .second, .val (.long ph21), .second, .val (.long z23), .second, .val (.int z25), .val (.long ph39), .second, .val (.int ph40), .val (.long ph44), .second, .val (.int ph47), .val (.ref b49), .unset] [(.ref b58)]))
                  refine o_dup X58 hx rfl (hb hby at_410) rfl ?_
                  refine o_iload X58 hx rfl (hb hby at_411) rfl ?_
                  refine o_lload X58 hx rfl (hb hby at_413) rfl ?_
                  refine o_lload X58 hx rfl (hb hby at_415) rfl ?_
                  refine o_iload X58 hx rfl (hb hby at_417) rfl ?_
                  have hw_63 : ¬ (ph4 < (0 : Int32)) := by subst hz1 hz2 hph4 hph7 hz9 hph11 hph15 hph16 hz18 hz19 hph21 hz23 hz24 hz25 hph39 hph40 hz42 hph44 hph47; split; exact own_d0 _; exact own_d0 _
                  have hw_64 : ¬ (ph39 < (1 : Int64)) ∨ (ph39 = (0 : Int64) ∧ ph47 = (0 : Int32)) := hT2.imp And.left id
                  have hw_65 : ¬ (ph44 < ph39) := hE2
                  have hw_66 : ¬ (ph47 < (1 : Int32)) ∨ (ph39 = (0 : Int64) ∧ ph47 = (0 : Int32)) := hT2.imp And.right id
                  obtain ⟨_, _, ⟨T62, L62, k62, n62⟩, -, X62, ⟨Lc62, hQ62, l62, y62, z62⟩, st62⟩ := X58.specialBack hx (y := (⟨"com/example/nodeset/nodeset/NodeLabel", "<init>", "(IJJI)V"⟩ : MethodName)) rfl hown (mvT hZ (hw _ (List.mem_of_getElem? (i := 5) rfl))) (mvT hZ (hw _ (List.mem_of_getElem? (i := 6) rfl))) (mvT hZ (hw _ (List.mem_of_getElem? (i := 7) rfl))) (by decide) (backOf (W := 1) (own_rm1 l Z aA hw [] b58 ph4 ph39 ph44 ph47 h58 n0 (Nat.le_trans (Nat.le_trans (Nat.le_trans Z0 E49.1) K51.1) E58.1) A58 gn58 F58_17 F58_19 F58_21 F58_23 hw_63 hw_64 hw_65 hw_66) hZ (hw _ (List.mem_of_getElem? (i := 7) rfl)) (hw _ (List.mem_of_getElem? (i := 4) rfl)) (by decide) (by decide)) (g := (mkF m 419 #[.val (.int p0), .val (.int p1), .val (.long q2), .second, .val (.long q3), .second, .val (.long q4), .second, .val (.int p5), .val (.int z1), .val (.int ph4), .val (.int ph7), .val (.int ph11), .val (.long ph15), .second, .val (.int ph16), .val (.long z18), .second, .val (.long ph21), .second, .val (.long z23), .second, .val (.int z25), .val (.long ph39), .second, .val (.int ph40), .val (.long ph44), .second, .val (.int ph47), .val (.ref b49), .unset] [(.int ph47), (.long ph44), (.long ph39), (.int ph4), (.ref b58), (.ref b58)])) rfl (by rw [hml]; rfl) (Steps.refl _) (a := b58) (argsL := [(.int ph4), (.long ph39), (.long ph44), (.int ph47)]) (rest := [(.ref b58)]) (lenOf own_pd1 rfl) rfl (by show 2 * 0 + _ ≤ _; exact Nat.le_of_eq rfl) (hb hby at_419) (fun _ _ => ⟨rfl, e58, Nat.le_of_ble_eq_true rfl, Nat.le_of_ble_eq_true rfl⟩)
                  dsimp only [Pt.U, Pt.locs, Pt.cells, Pt.slots] at X62 l62 y62 z62 st62 hQ62
                  subst l62 y62 z62
                  obtain ⟨rfl, N62q, K62, f62_0, f62_1, f62_2, f62_3⟩ := hQ62
                  have N67 := Fr.app N56 N62q
                  have Kp68 : Keep h0 T62.heap [] := Kp61.trans K62 (allS (Or.inr sz58) all0)
                  refine og_tr st62 ?_
                  show OG p e below _ _ (T62.setTop (mkF m 422 #[.val (.int p0), .val (.int p1), .val (.long q2), .second, .val (.long q3), .second, .val (.long q4), .second, .val (.int p5), .val (.int z1), .val (.int ph4), .val (.int ph7), .val (.int ph11), .val (.long ph15), .second, .val (.int ph16), .val (.long z18), .second, .val (.long ph21), .second, .val (.long z23), .second, .val (.int z25), .val (.long ph39), .second, .val (.int ph40), .val (.long ph44), .second, .val (.int ph47), .val (.ref b49), .unset] [(.ref b58)]))
                  refine o_astore X62 hx rfl (hb hby at_422) rfl (L' := #[.val (.int p0), .val (.int p1), .val (.long q2), .second, .val (.long q3), .second, .val (.long q4), .second, .val (.int p5), .val (.int z1), .val (.int ph4), .val (.int ph7), .val (.int ph11), .val (.long ph15), .second, .val (.int ph16), .val (.long z18), .second, .val (.long ph21), .second, .val (.long z23), .second, .val (.int z25), .val (.long ph39), .second, .val (.int ph40), .val (.long ph44), .second, .val (.int ph47), .val (.ref b49), .val (.ref b58)]) rfl ?_
                  refine o_aload X62 hx rfl (hb hby at_424) rfl rfl ?_
                  refine o_aload X62 hx rfl (hb hby at_426) rfl rfl ?_
                  have Fc70 : Fld Z T62.heap b49 "com/example/nodeset/nodeset/NodeLabel" "document" "I" (.int z1) := ((Fld.ext E58 f51_0).keep K62 (ninS ne60 nin0))
                  have Fc71 : Fld Z T62.heap b49 "com/example/nodeset/nodeset/NodeLabel" "start" "J" (.long ph15) := ((Fld.ext E58 f51_1).keep K62 (ninS ne60 nin0))
                  have Fc72 : Fld Z T62.heap b49 "com/example/nodeset/nodeset/NodeLabel" "end" "J" (.long ph21) := ((Fld.ext E58 f51_2).keep K62 (ninS ne60 nin0))
                  have Fc73 : Exa Z T62.heap b49 "com/example/nodeset/nodeset/NodeLabel" := ((Exa.ext E58 Fc59).keep K62)
                  obtain ⟨cq69, kq69, q69a, q69b, q69c⟩ := isOf hZ rfl Fc73
                  obtain ⟨_, _, ⟨T69, L69, k69, n69⟩, -, X69, ⟨Lc69, hQ69, l69, y69, z69⟩, st69⟩ := X62.virtualBack hx (y := (⟨"com/example/nodeset/nodeset/NodeLabel", "isAncestorOf", "(Lcom/example/nodeset/nodeset/NodeLabel;)Z"⟩ : MethodName)) (z := (⟨"com/example/nodeset/nodeset/NodeLabel", "isAncestorOf", "(Lcom/example/nodeset/nodeset/NodeLabel;)Z"⟩ : MethodName)) hown (mvT hZ (hw _ (List.mem_of_getElem? (i := 24) rfl))) (mvT hZ (hw _ (List.mem_of_getElem? (i := 25) rfl))) (notFace_of_selects (args := #[]) (mvT hZ (hw _ (List.mem_of_getElem? (i := 27) rfl)))) (mvT hZ (hw _ (List.mem_of_getElem? (i := 27) rfl))) (mvT hZ (hw _ (List.mem_of_getElem? (i := 26) rfl))) (by decide) (backOf (W := 0) (own_rm4 l Z aA hw [] b49 b58 z1 ph4 ph15 ph39 ph21 T62.heap n0 (Nat.le_trans (Nat.le_trans (Nat.le_trans (Nat.le_trans Z0 E49.1) K51.1) E58.1) K62.1) Fc70 f62_0 Fc71 f62_1 Fc72) hZ (hw _ (List.mem_of_getElem? (i := 28) rfl)) (hw _ (List.mem_of_getElem? (i := 4) rfl)) (by decide) (by decide)) q69a q69c (g := (mkF m 428 #[.val (.int p0), .val (.int p1), .val (.long q2), .second, .val (.long q3), .second, .val (.long q4), .second, .val (.int p5), .val (.int z1), .val (.int ph4), .val (.int ph7), .val (.int ph11), .val (.long ph15), .second, .val (.int ph16), .val (.long z18), .second, .val (.long ph21), .second, .val (.long z23), .second, .val (.int z25), .val (.long ph39), .second, .val (.int ph40), .val (.long ph44), .second, .val (.int ph47), .val (.ref b49), .val (.ref b58)] [(.ref b58), (.ref b49)])) rfl (by rw [hml]; rfl) (Steps.refl _) (argsL := [(.ref b58)]) (rest := []) (lenOf own_pd2 rfl) rfl (by show 2 * 0 + _ ≤ _; exact Nat.le_of_eq rfl) (hb hby at_428) (fun _ _ => ⟨rfl, rfl, Nat.le_of_ble_eq_true rfl, Nat.le_of_ble_eq_true rfl⟩)
                  dsimp only [Pt.U, Pt.locs, Pt.cells, Pt.slots] at X69 l69 y69 z69 st69 hQ69
                  subst l69 y69 z69
                  obtain ⟨rfl, N69q, ee69⟩ := hQ69
                  have N74 := Fr.app N67 N69q
                  refine og_tr st69 ?_
                  show OG p e below _ _ (T69.setTop (mkF m 431 #[.val (.int p0), .val (.int p1), .val (.long q2), .second, .val (.long q3), .second, .val (.long q4), .second, .val (.int p5), .val (.int z1), .val (.int ph4), .val (.int ph7), .val (.int ph11), .val (.long ph15), .second, .val (.int ph16), .val (.long z18), .second, .val (.long ph21), .second, .val (.long z23), .second, .val (.int z25), .val (.long ph39), .second, .val (.int ph40), .val (.long ph44), .second, .val (.int ph47), .val (.ref b49), .val (.ref b58)] [(.int (own_f4 b49 b58 z1 ph4 ph15 ph39 ph21))]))
                  refine o_iload X69 hx rfl (hb hby at_431) rfl ?_
                  have hk75 : (own_f4 b49 b58 z1 ph4 ph15 ph39 ph21) = ph40 := by rw [own_anc, hK.2, ← hph7]
                  refine o_icmpN (pc' := 436) X69 hx rfl (hb hby at_433) (teq hk75).2 ?_
                  refine o_iconst (z := (1 : Int32)) X69 hx rfl (hb hby at_436) (by decide) ?_
                  refine o_goto (pc' := 441) X69 hx (hb hby at_437) (by decide) (by decide) ?_
                  subst hz1 hz2 hph4 hph7 hz9 hph11 hph15 hph16 hz18 hz19 hph21 hz23 hz24 hz25 hph39 hph40 hz42 hph44 hph47
                  exact o_retB X69 hx Bd.returns (own_lv X69 hlk (by decide) (by decide)) (hb hby at_441) (by decide) ⟨rfl, N74⟩
                by_cases hc76 : ph39 = (0 : Int64)
                · skip
                  refine o_ifN (pc' := 373) X0 hx rfl (hb hby at_370) (lcY_eq hc76).2 ?_
                  refine o_iconst (z := (0 : Int32)) X0 hx rfl (hb hby at_373) (by decide) ?_
                  refine o_goto (pc' := 388) X0 hx (hb hby at_374) (by decide) (by decide) ?_
                  have q77 : ph47 = (0 : Int32) := by
                    rw [← hph47]
                    simp only [if_pos hc76]
                  rw [q77] at J48
                  exact J48
                · skip
                  refine o_ifY (pc' := 377) X0 hx (hb hby at_370) (lcN_eq hc76).2 (by decide) (by decide) ?_
                  refine o_iconst (z := (1 : Int32)) X0 hx rfl (hb hby at_377) (by decide) ?_
                  refine o_iload X0 hx rfl (hb hby at_378) rfl ?_
                  refine o_bipush (z := (16 : Int32)) X0 hx rfl (hb hby at_380) (by decide) ?_
                  refine o_iushr (z := ((p5.toUInt32 >>> ((16 : Int32) &&& 31).toUInt32).toInt32)) X0 hx rfl (hb hby at_382) rfl ?_
                  refine o_sipush (z := (255 : Int32)) X0 hx rfl (hb hby at_383) (by decide) ?_
                  refine o_iand (z := (((p5.toUInt32 >>> ((16 : Int32) &&& 31).toUInt32).toInt32) &&& (255 : Int32))) X0 hx rfl (hb hby at_386) rfl ?_
                  refine o_iadd (z := ((1 : Int32) + (((p5.toUInt32 >>> ((16 : Int32) &&& 31).toUInt32).toInt32) &&& (255 : Int32)))) X0 hx rfl (hb hby at_387) rfl ?_
                  have q78 : ph47 = ((1 : Int32) + (((p5.toUInt32 >>> ((16 : Int32) &&& 31).toUInt32).toInt32) &&& (255 : Int32))) := by
                    rw [← hph47]
                    simp only [if_neg hc76]
                  rw [q78] at J48
                  exact J48
              by_cases hc79 : z42 = (0 : Int32)
              · skip
                refine o_ifY (pc' := 362) X0 hx (hb hby at_353) ((if0 _ _).trans (teq hc79).1) (by decide) (by decide) ?_
                refine o_lload X0 hx rfl (hb hby at_362) rfl ?_
                have q80 : ph44 = ph39 := by
                  rw [← hph44]
                  simp only [if_pos hc79]
                rw [q80] at J45
                exact J45
              · skip
                refine o_ifN (pc' := 356) X0 hx rfl (hb hby at_353) ((if0 _ _).trans (feq hc79).1) ?_
                refine o_ldc2L X0 hx rfl (hb hby at_356) hZ hown (hw _ (List.mem_of_getElem? (i := 1) rfl)) ?_
                refine o_goto (pc' := 364) X0 hx (hb hby at_359) (by decide) (by decide) ?_
                have q81 : ph44 = (9223372036854775807 : Int64) := by
                  rw [← hph44]
                  simp only [if_neg hc79]
                rw [q81] at J45
                exact J45
            by_cases hc82 : z25 = (0 : Int32)
            · skip
              refine o_ifN (pc' := 153) X0 hx rfl (hb hby at_150) ((if0 _ _).trans (teq hc82).2) ?_
              refine o_lload X0 hx rfl (hb hby at_153) rfl ?_
              refine o_lstore X0 hx rfl (hb hby at_155) (L' := #[.val (.int p0), .val (.int p1), .val (.long q2), .second, .val (.long q3), .second, .val (.long q4), .second, .val (.int p5), .val (.int z1), .val (.int ph4), .val (.int ph7), .val (.int ph11), .val (.long ph15), .second, .val (.int ph16), .val (.long z18), .second, .val (.long ph21), .second, .val (.long z23), .second, .val (.int z25), .val (.long ph15), .second, .unset, .unset, .unset, .unset, .unset, .unset]) rfl ?_
              refine o_iconst (z := (0 : Int32)) X0 hx rfl (hb hby at_157) (by decide) ?_
              refine o_istore X0 hx rfl (hb hby at_158) (L' := #[.val (.int p0), .val (.int p1), .val (.long q2), .second, .val (.long q3), .second, .val (.long q4), .second, .val (.int p5), .val (.int z1), .val (.int ph4), .val (.int ph7), .val (.int ph11), .val (.long ph15), .second, .val (.int ph16), .val (.long z18), .second, .val (.long ph21), .second, .val (.long z23), .second, .val (.int z25), .val (.long ph15), .second, .val (.int (0 : Int32)), .unset, .unset, .unset, .unset, .unset]) rfl ?_
              refine o_goto (pc' := 349) X0 hx (hb hby at_160) (by decide) (by decide) ?_
              have q83 : ph39 = ph15 := by
                rw [← hph39]
                simp only [if_pos hc82]
              have q84 : ph40 = (0 : Int32) := by
                rw [← hph40]
                simp only [if_pos hc82]
              rw [q83, q84] at J41
              exact J41
            · skip
              refine o_ifY (pc' := 163) X0 hx (hb hby at_150) ((if0 _ _).trans (feq hc82).2) (by decide) (by decide) ?_
              refine o_iload X0 hx rfl (hb hby at_163) rfl ?_
              refine o_iconst (z := (1 : Int32)) X0 hx rfl (hb hby at_165) (by decide) ?_
              by_cases hc85 : z25 = (1 : Int32)
              · skip
                refine o_icmpN (pc' := 169) X0 hx rfl (hb hby at_166) (teq hc85).2 ?_
                refine o_lload X0 hx rfl (hb hby at_169) rfl ?_
                refine o_ldc2L X0 hx rfl (hb hby at_171) hZ hown (hw _ (List.mem_of_getElem? (i := 29) rfl)) ?_
                refine o_lcmp X0 hx rfl (hb hby at_174) ?_
                by_cases hc86 : ph15 < (2 : Int64)
                · skip
                  refine o_ifY (pc' := 190) X0 hx (hb hby at_175) (lcY_lt hc86).1 (by decide) (by decide) ?_
                  refine o_lconst (z := (0 : Int64)) X0 hx rfl (hb hby at_190) (by decide) ?_
                  refine o_lstore X0 hx rfl (hb hby at_191) (L' := #[.val (.int p0), .val (.int p1), .val (.long q2), .second, .val (.long q3), .second, .val (.long q4), .second, .val (.int p5), .val (.int z1), .val (.int ph4), .val (.int ph7), .val (.int ph11), .val (.long ph15), .second, .val (.int ph16), .val (.long z18), .second, .val (.long ph21), .second, .val (.long z23), .second, .val (.int z25), .val (.long (0 : Int64)), .second, .unset, .unset, .unset, .unset, .unset, .unset]) rfl ?_
                  refine o_iconst (z := (0 : Int32)) X0 hx rfl (hb hby at_193) (by decide) ?_
                  refine o_istore X0 hx rfl (hb hby at_194) (L' := #[.val (.int p0), .val (.int p1), .val (.long q2), .second, .val (.long q3), .second, .val (.long q4), .second, .val (.int p5), .val (.int z1), .val (.int ph4), .val (.int ph7), .val (.int ph11), .val (.long ph15), .second, .val (.int ph16), .val (.long z18), .second, .val (.long ph21), .second, .val (.long z23), .second, .val (.int z25), .val (.long (0 : Int64)), .second, .val (.int (0 : Int32)), .unset, .unset, .unset, .unset, .unset]) rfl ?_
                  refine o_goto (pc' := 349) X0 hx (hb hby at_196) (by decide) (by decide) ?_
                  have q87 : ph39 = (0 : Int64) := by
                    rw [← hph39]
                    simp only [if_neg hc82, if_pos hc85, if_pos hc86]
                  have q88 : ph40 = (0 : Int32) := by
                    rw [← hph40]
                    simp only [if_neg hc82, if_pos hc85, if_pos hc86]
                  rw [q87, q88] at J41
                  exact J41
                · skip
                  refine o_ifN (pc' := 178) X0 hx rfl (hb hby at_175) (lcN_lt hc86).1 ?_
                  refine o_lconst (z := (1 : Int64)) X0 hx rfl (hb hby at_178) (by decide) ?_
                  refine o_lload X0 hx rfl (hb hby at_179) rfl ?_
                  refine o_lload X0 hx rfl (hb hby at_181) rfl ?_
                  refine o_lconst (z := (1 : Int64)) X0 hx rfl (hb hby at_183) (by decide) ?_
                  refine o_lsub (z := (ph15 - (1 : Int64))) X0 hx rfl (hb hby at_184) rfl ?_
                  have hw_89 : (ph15 - (1 : Int64)) ≠ 0 := by
                    have o2 : (2 : Int64).toInt = 2 := rfl
                    have o1 : (1 : Int64).toInt = 1 := rfl
                    have o0 : (0 : Int64).toInt = 0 := rfl
                    have hh := hc86
                    rw [Int64.lt_iff_toInt_lt, o2] at hh
                    have a := c_lsub ph15 1
                    have r := rng64 (ph15 - 1)
                    have r2 := rng64 ph15
                    intro q; rw [q, o0] at a; omega
                  refine o_lrem (z := (z23 % (ph15 - (1 : Int64)))) X0 hx rfl (hb hby at_185) rfl hw_89 ?_
                  refine o_ladd (z := ((1 : Int64) + (z23 % (ph15 - (1 : Int64))))) X0 hx rfl (hb hby at_186) rfl ?_
                  refine o_goto (pc' := 191) X0 hx (hb hby at_187) (by decide) (by decide) ?_
                  refine o_lstore X0 hx rfl (hb hby at_191) (L' := #[.val (.int p0), .val (.int p1), .val (.long q2), .second, .val (.long q3), .second, .val (.long q4), .second, .val (.int p5), .val (.int z1), .val (.int ph4), .val (.int ph7), .val (.int ph11), .val (.long ph15), .second, .val (.int ph16), .val (.long z18), .second, .val (.long ph21), .second, .val (.long z23), .second, .val (.int z25), .val (.long ((1 : Int64) + (z23 % (ph15 - (1 : Int64))))), .second, .unset, .unset, .unset, .unset, .unset, .unset]) rfl ?_
                  refine o_iconst (z := (0 : Int32)) X0 hx rfl (hb hby at_193) (by decide) ?_
                  refine o_istore X0 hx rfl (hb hby at_194) (L' := #[.val (.int p0), .val (.int p1), .val (.long q2), .second, .val (.long q3), .second, .val (.long q4), .second, .val (.int p5), .val (.int z1), .val (.int ph4), .val (.int ph7), .val (.int ph11), .val (.long ph15), .second, .val (.int ph16), .val (.long z18), .second, .val (.long ph21), .second, .val (.long z23), .second, .val (.int z25), .val (.long ((1 : Int64) + (z23 % (ph15 - (1 : Int64))))), .second, .val (.int (0 : Int32)), .unset, .unset, .unset, .unset, .unset]) rfl ?_
                  refine o_goto (pc' := 349) X0 hx (hb hby at_196) (by decide) (by decide) ?_
                  have q90 : ph39 = ((1 : Int64) + (z23 % (ph15 - (1 : Int64)))) := by
                    rw [← hph39]
                    simp only [if_neg hc82, if_pos hc85, if_neg hc86]
                  have q91 : ph40 = (0 : Int32) := by
                    rw [← hph40]
                    simp only [if_neg hc82, if_pos hc85, if_neg hc86]
                  rw [q90, q91] at J41
                  exact J41
              · skip
                refine o_icmpY (pc' := 199) X0 hx (hb hby at_166) (feq hc85).2 (by decide) (by decide) ?_
                refine o_iload X0 hx rfl (hb hby at_199) rfl ?_
                refine o_iconst (z := (2 : Int32)) X0 hx rfl (hb hby at_201) (by decide) ?_
                by_cases hc92 : z25 = (2 : Int32)
                · skip
                  refine o_icmpN (pc' := 205) X0 hx rfl (hb hby at_202) (teq hc92).2 ?_
                  refine o_lload X0 hx rfl (hb hby at_205) rfl ?_
                  refine o_lload X0 hx rfl (hb hby at_207) rfl ?_
                  refine o_lcmp X0 hx rfl (hb hby at_209) ?_
                  by_cases hc93 : ph15 < ph21
                  · skip
                    refine o_ifN (pc' := 213) X0 hx rfl (hb hby at_210) (lcY_gt hc93).2 ?_
                    refine o_lload X0 hx rfl (hb hby at_213) rfl ?_
                    refine o_lconst (z := (1 : Int64)) X0 hx rfl (hb hby at_215) (by decide) ?_
                    refine o_ladd (z := (ph15 + (1 : Int64))) X0 hx rfl (hb hby at_216) rfl ?_
                    refine o_lload X0 hx rfl (hb hby at_217) rfl ?_
                    refine o_lload X0 hx rfl (hb hby at_219) rfl ?_
                    refine o_lload X0 hx rfl (hb hby at_221) rfl ?_
                    refine o_lsub (z := (ph21 - ph15)) X0 hx rfl (hb hby at_223) rfl ?_
                    have hw_94 : (ph21 - ph15) ≠ 0 := by
                      have hh := hc93
                      rw [Int64.lt_iff_toInt_lt] at hh
                      have a := c_lsub ph21 ph15
                      have r1 := rng64 ph21
                      have r2 := rng64 ph15
                      have o0 : (0 : Int64).toInt = 0 := rfl
                      intro q
                      rw [q, o0] at a
                      omega
                    refine o_lrem (z := (z23 % (ph21 - ph15))) X0 hx rfl (hb hby at_224) rfl hw_94 ?_
                    refine o_ladd (z := ((ph15 + (1 : Int64)) + (z23 % (ph21 - ph15)))) X0 hx rfl (hb hby at_225) rfl ?_
                    refine o_lstore X0 hx rfl (hb hby at_226) (L' := #[.val (.int p0), .val (.int p1), .val (.long q2), .second, .val (.long q3), .second, .val (.long q4), .second, .val (.int p5), .val (.int z1), .val (.int ph4), .val (.int ph7), .val (.int ph11), .val (.long ph15), .second, .val (.int ph16), .val (.long z18), .second, .val (.long ph21), .second, .val (.long z23), .second, .val (.int z25), .val (.long ((ph15 + (1 : Int64)) + (z23 % (ph21 - ph15)))), .second, .unset, .unset, .unset, .unset, .unset, .unset]) rfl ?_
                    refine o_iload X0 hx rfl (hb hby at_228) rfl ?_
                    refine o_istore X0 hx rfl (hb hby at_230) (L' := #[.val (.int p0), .val (.int p1), .val (.long q2), .second, .val (.long q3), .second, .val (.long q4), .second, .val (.int p5), .val (.int z1), .val (.int ph4), .val (.int ph7), .val (.int ph11), .val (.long ph15), .second, .val (.int ph16), .val (.long z18), .second, .val (.long ph21), .second, .val (.long z23), .second, .val (.int z25), .val (.long ((ph15 + (1 : Int64)) + (z23 % (ph21 - ph15)))), .second, .val (.int ph7), .unset, .unset, .unset, .unset, .unset]) rfl ?_
                    refine o_goto (pc' := 349) X0 hx (hb hby at_232) (by decide) (by decide) ?_
                    have q95 : ph39 = ((ph15 + (1 : Int64)) + (z23 % (ph21 - ph15))) := by
                      rw [← hph39]
                      simp only [if_neg hc82, if_neg hc85, if_pos hc92, if_pos hc93]
                    have q96 : ph40 = ph7 := by
                      rw [← hph40]
                      simp only [if_neg hc82, if_neg hc85, if_pos hc92, if_pos hc93]
                    rw [q95, q96] at J41
                    exact J41
                  · skip
                    refine o_ifY (pc' := 235) X0 hx (hb hby at_210) (lcN_gt hc93).2 (by decide) (by decide) ?_
                    refine o_lload X0 hx rfl (hb hby at_235) rfl ?_
                    refine o_lstore X0 hx rfl (hb hby at_237) (L' := #[.val (.int p0), .val (.int p1), .val (.long q2), .second, .val (.long q3), .second, .val (.long q4), .second, .val (.int p5), .val (.int z1), .val (.int ph4), .val (.int ph7), .val (.int ph11), .val (.long ph15), .second, .val (.int ph16), .val (.long z18), .second, .val (.long ph21), .second, .val (.long z23), .second, .val (.int z25), .val (.long ph15), .second, .unset, .unset, .unset, .unset, .unset, .unset]) rfl ?_
                    refine o_iconst (z := (0 : Int32)) X0 hx rfl (hb hby at_239) (by decide) ?_
                    refine o_istore X0 hx rfl (hb hby at_240) (L' := #[.val (.int p0), .val (.int p1), .val (.long q2), .second, .val (.long q3), .second, .val (.long q4), .second, .val (.int p5), .val (.int z1), .val (.int ph4), .val (.int ph7), .val (.int ph11), .val (.long ph15), .second, .val (.int ph16), .val (.long z18), .second, .val (.long ph21), .second, .val (.long z23), .second, .val (.int z25), .val (.long ph15), .second, .val (.int (0 : Int32)), .unset, .unset, .unset, .unset, .unset]) rfl ?_
                    refine o_goto (pc' := 349) X0 hx (hb hby at_242) (by decide) (by decide) ?_
                    have q97 : ph39 = ph15 := by
                      rw [← hph39]
                      simp only [if_neg hc82, if_neg hc85, if_pos hc92, if_neg hc93]
                    have q98 : ph40 = (0 : Int32) := by
                      rw [← hph40]
                      simp only [if_neg hc82, if_neg hc85, if_pos hc92, if_neg hc93]
                    rw [q97, q98] at J41
                    exact J41
                · skip
                  refine o_icmpY (pc' := 245) X0 hx (hb hby at_202) (feq hc92).2 (by decide) (by decide) ?_
                  refine o_iload X0 hx rfl (hb hby at_245) rfl ?_
                  refine o_iconst (z := (3 : Int32)) X0 hx rfl (hb hby at_247) (by decide) ?_
                  by_cases hc99 : z25 = (3 : Int32)
                  · skip
                    refine o_icmpN (pc' := 251) X0 hx rfl (hb hby at_248) (teq hc99).2 ?_
                    refine o_lload X0 hx rfl (hb hby at_251) rfl ?_
                    refine o_lload X0 hx rfl (hb hby at_253) rfl ?_
                    refine o_lcmp X0 hx rfl (hb hby at_255) ?_
                    by_cases hc100 : ph15 < ph21
                    · skip
                      refine o_ifN (pc' := 259) X0 hx rfl (hb hby at_256) (lcY_gt hc100).2 ?_
                      refine o_lload X0 hx rfl (hb hby at_259) rfl ?_
                      refine o_lstore X0 hx rfl (hb hby at_261) (L' := #[.val (.int p0), .val (.int p1), .val (.long q2), .second, .val (.long q3), .second, .val (.long q4), .second, .val (.int p5), .val (.int z1), .val (.int ph4), .val (.int ph7), .val (.int ph11), .val (.long ph15), .second, .val (.int ph16), .val (.long z18), .second, .val (.long ph21), .second, .val (.long z23), .second, .val (.int z25), .val (.long ph21), .second, .unset, .unset, .unset, .unset, .unset, .unset]) rfl ?_
                      refine o_iload X0 hx rfl (hb hby at_263) rfl ?_
                      refine o_istore X0 hx rfl (hb hby at_265) (L' := #[.val (.int p0), .val (.int p1), .val (.long q2), .second, .val (.long q3), .second, .val (.long q4), .second, .val (.int p5), .val (.int z1), .val (.int ph4), .val (.int ph7), .val (.int ph11), .val (.long ph15), .second, .val (.int ph16), .val (.long z18), .second, .val (.long ph21), .second, .val (.long z23), .second, .val (.int z25), .val (.long ph21), .second, .val (.int ph7), .unset, .unset, .unset, .unset, .unset]) rfl ?_
                      refine o_goto (pc' := 349) X0 hx (hb hby at_267) (by decide) (by decide) ?_
                      have q101 : ph39 = ph21 := by
                        rw [← hph39]
                        simp only [if_neg hc82, if_neg hc85, if_neg hc92, if_pos hc99, if_pos hc100]
                      have q102 : ph40 = ph7 := by
                        rw [← hph40]
                        simp only [if_neg hc82, if_neg hc85, if_neg hc92, if_pos hc99, if_pos hc100]
                      rw [q101, q102] at J41
                      exact J41
                    · skip
                      refine o_ifY (pc' := 270) X0 hx (hb hby at_256) (lcN_gt hc100).2 (by decide) (by decide) ?_
                      refine o_lload X0 hx rfl (hb hby at_270) rfl ?_
                      refine o_lstore X0 hx rfl (hb hby at_272) (L' := #[.val (.int p0), .val (.int p1), .val (.long q2), .second, .val (.long q3), .second, .val (.long q4), .second, .val (.int p5), .val (.int z1), .val (.int ph4), .val (.int ph7), .val (.int ph11), .val (.long ph15), .second, .val (.int ph16), .val (.long z18), .second, .val (.long ph21), .second, .val (.long z23), .second, .val (.int z25), .val (.long ph15), .second, .unset, .unset, .unset, .unset, .unset, .unset]) rfl ?_
                      refine o_iconst (z := (0 : Int32)) X0 hx rfl (hb hby at_274) (by decide) ?_
                      refine o_istore X0 hx rfl (hb hby at_275) (L' := #[.val (.int p0), .val (.int p1), .val (.long q2), .second, .val (.long q3), .second, .val (.long q4), .second, .val (.int p5), .val (.int z1), .val (.int ph4), .val (.int ph7), .val (.int ph11), .val (.long ph15), .second, .val (.int ph16), .val (.long z18), .second, .val (.long ph21), .second, .val (.long z23), .second, .val (.int z25), .val (.long ph15), .second, .val (.int (0 : Int32)), .unset, .unset, .unset, .unset, .unset]) rfl ?_
                      refine o_goto (pc' := 349) X0 hx (hb hby at_277) (by decide) (by decide) ?_
                      have q103 : ph39 = ph15 := by
                        rw [← hph39]
                        simp only [if_neg hc82, if_neg hc85, if_neg hc92, if_pos hc99, if_neg hc100]
                      have q104 : ph40 = (0 : Int32) := by
                        rw [← hph40]
                        simp only [if_neg hc82, if_neg hc85, if_neg hc92, if_pos hc99, if_neg hc100]
                      rw [q103, q104] at J41
                      exact J41
                  · skip
                    refine o_icmpY (pc' := 280) X0 hx (hb hby at_248) (feq hc99).2 (by decide) (by decide) ?_
                    refine o_iload X0 hx rfl (hb hby at_280) rfl ?_
                    refine o_iconst (z := (4 : Int32)) X0 hx rfl (hb hby at_282) (by decide) ?_
                    by_cases hc105 : z25 = (4 : Int32)
                    · skip
                      refine o_icmpN (pc' := 286) X0 hx rfl (hb hby at_283) (teq hc105).2 ?_
                      refine o_lload X0 hx rfl (hb hby at_286) rfl ?_
                      refine o_ldc2L X0 hx rfl (hb hby at_288) hZ hown (hw _ (List.mem_of_getElem? (i := 1) rfl)) ?_
                      refine o_lcmp X0 hx rfl (hb hby at_291) ?_
                      by_cases hc106 : ph21 < (9223372036854775807 : Int64)
                      · skip
                        refine o_ifN (pc' := 295) X0 hx rfl (hb hby at_292) (lcY_lt hc106).2 ?_
                        refine o_lload X0 hx rfl (hb hby at_295) rfl ?_
                        refine o_lconst (z := (1 : Int64)) X0 hx rfl (hb hby at_297) (by decide) ?_
                        refine o_ladd (z := (ph21 + (1 : Int64))) X0 hx rfl (hb hby at_298) rfl ?_
                        refine o_lstore X0 hx rfl (hb hby at_299) (L' := #[.val (.int p0), .val (.int p1), .val (.long q2), .second, .val (.long q3), .second, .val (.long q4), .second, .val (.int p5), .val (.int z1), .val (.int ph4), .val (.int ph7), .val (.int ph11), .val (.long ph15), .second, .val (.int ph16), .val (.long z18), .second, .val (.long ph21), .second, .val (.long z23), .second, .val (.int z25), .val (.long (ph21 + (1 : Int64))), .second, .unset, .unset, .unset, .unset, .unset, .unset]) rfl ?_
                        refine o_goto (pc' := 308) X0 hx (hb hby at_301) (by decide) (by decide) ?_
                        refine o_iconst (z := (0 : Int32)) X0 hx rfl (hb hby at_308) (by decide) ?_
                        refine o_istore X0 hx rfl (hb hby at_309) (L' := #[.val (.int p0), .val (.int p1), .val (.long q2), .second, .val (.long q3), .second, .val (.long q4), .second, .val (.int p5), .val (.int z1), .val (.int ph4), .val (.int ph7), .val (.int ph11), .val (.long ph15), .second, .val (.int ph16), .val (.long z18), .second, .val (.long ph21), .second, .val (.long z23), .second, .val (.int z25), .val (.long (ph21 + (1 : Int64))), .second, .val (.int (0 : Int32)), .unset, .unset, .unset, .unset, .unset]) rfl ?_
                        refine o_goto (pc' := 349) X0 hx (hb hby at_311) (by decide) (by decide) ?_
                        have q107 : ph39 = (ph21 + (1 : Int64)) := by
                          rw [← hph39]
                          simp only [if_neg hc82, if_neg hc85, if_neg hc92, if_neg hc99, if_pos hc105, if_pos hc106]
                        have q108 : ph40 = (0 : Int32) := by
                          rw [← hph40]
                          simp only [if_neg hc82, if_neg hc85, if_neg hc92, if_neg hc99, if_pos hc105, if_pos hc106]
                        rw [q107, q108] at J41
                        exact J41
                      · skip
                        refine o_ifY (pc' := 304) X0 hx (hb hby at_292) (lcN_lt hc106).2 (by decide) (by decide) ?_
                        refine o_lload X0 hx rfl (hb hby at_304) rfl ?_
                        refine o_lstore X0 hx rfl (hb hby at_306) (L' := #[.val (.int p0), .val (.int p1), .val (.long q2), .second, .val (.long q3), .second, .val (.long q4), .second, .val (.int p5), .val (.int z1), .val (.int ph4), .val (.int ph7), .val (.int ph11), .val (.long ph15), .second, .val (.int ph16), .val (.long z18), .second, .val (.long ph21), .second, .val (.long z23), .second, .val (.int z25), .val (.long ph15), .second, .unset, .unset, .unset, .unset, .unset, .unset]) rfl ?_
                        refine o_iconst (z := (0 : Int32)) X0 hx rfl (hb hby at_308) (by decide) ?_
                        refine o_istore X0 hx rfl (hb hby at_309) (L' := #[.val (.int p0), .val (.int p1), .val (.long q2), .second, .val (.long q3), .second, .val (.long q4), .second, .val (.int p5), .val (.int z1), .val (.int ph4), .val (.int ph7), .val (.int ph11), .val (.long ph15), .second, .val (.int ph16), .val (.long z18), .second, .val (.long ph21), .second, .val (.long z23), .second, .val (.int z25), .val (.long ph15), .second, .val (.int (0 : Int32)), .unset, .unset, .unset, .unset, .unset]) rfl ?_
                        refine o_goto (pc' := 349) X0 hx (hb hby at_311) (by decide) (by decide) ?_
                        have q109 : ph39 = ph15 := by
                          rw [← hph39]
                          simp only [if_neg hc82, if_neg hc85, if_neg hc92, if_neg hc99, if_pos hc105, if_neg hc106]
                        have q110 : ph40 = (0 : Int32) := by
                          rw [← hph40]
                          simp only [if_neg hc82, if_neg hc85, if_neg hc92, if_neg hc99, if_pos hc105, if_neg hc106]
                        rw [q109, q110] at J41
                        exact J41
                    · skip
                      refine o_icmpY (pc' := 314) X0 hx (hb hby at_283) (feq hc105).2 (by decide) (by decide) ?_
                      refine o_lload X0 hx rfl (hb hby at_314) rfl ?_
                      refine o_ldc2L X0 hx rfl (hb hby at_316) hZ hown (hw _ (List.mem_of_getElem? (i := 1) rfl)) ?_
                      refine o_lcmp X0 hx rfl (hb hby at_319) ?_
                      by_cases hc111 : ph21 < (9223372036854775807 : Int64)
                      · skip
                        refine o_ifN (pc' := 323) X0 hx rfl (hb hby at_320) (lcY_lt hc111).2 ?_
                        refine o_lload X0 hx rfl (hb hby at_323) rfl ?_
                        refine o_lconst (z := (1 : Int64)) X0 hx rfl (hb hby at_325) (by decide) ?_
                        refine o_ladd (z := (ph21 + (1 : Int64))) X0 hx rfl (hb hby at_326) rfl ?_
                        refine o_lload X0 hx rfl (hb hby at_327) rfl ?_
                        refine o_ldc2L X0 hx rfl (hb hby at_329) hZ hown (hw _ (List.mem_of_getElem? (i := 1) rfl)) ?_
                        refine o_lload X0 hx rfl (hb hby at_332) rfl ?_
                        refine o_lsub (z := ((9223372036854775807 : Int64) - ph21)) X0 hx rfl (hb hby at_334) rfl ?_
                        have hw_112 : ((9223372036854775807 : Int64) - ph21) ≠ 0 := by
                          have hh := hc111
                          rw [Int64.lt_iff_toInt_lt] at hh
                          have a := c_lsub (9223372036854775807 : Int64) ph21
                          have r1 := rng64 (9223372036854775807 : Int64)
                          have r2 := rng64 ph21
                          have o0 : (0 : Int64).toInt = 0 := rfl
                          intro q
                          rw [q, o0] at a
                          omega
                        refine o_lrem (z := (z23 % ((9223372036854775807 : Int64) - ph21))) X0 hx rfl (hb hby at_335) rfl hw_112 ?_
                        refine o_ladd (z := ((ph21 + (1 : Int64)) + (z23 % ((9223372036854775807 : Int64) - ph21)))) X0 hx rfl (hb hby at_336) rfl ?_
                        refine o_lstore X0 hx rfl (hb hby at_337) (L' := #[.val (.int p0), .val (.int p1), .val (.long q2), .second, .val (.long q3), .second, .val (.long q4), .second, .val (.int p5), .val (.int z1), .val (.int ph4), .val (.int ph7), .val (.int ph11), .val (.long ph15), .second, .val (.int ph16), .val (.long z18), .second, .val (.long ph21), .second, .val (.long z23), .second, .val (.int z25), .val (.long ((ph21 + (1 : Int64)) + (z23 % ((9223372036854775807 : Int64) - ph21)))), .second, .unset, .unset, .unset, .unset, .unset, .unset]) rfl ?_
                        refine o_goto (pc' := 346) X0 hx (hb hby at_339) (by decide) (by decide) ?_
                        refine o_iconst (z := (0 : Int32)) X0 hx rfl (hb hby at_346) (by decide) ?_
                        refine o_istore X0 hx rfl (hb hby at_347) (L' := #[.val (.int p0), .val (.int p1), .val (.long q2), .second, .val (.long q3), .second, .val (.long q4), .second, .val (.int p5), .val (.int z1), .val (.int ph4), .val (.int ph7), .val (.int ph11), .val (.long ph15), .second, .val (.int ph16), .val (.long z18), .second, .val (.long ph21), .second, .val (.long z23), .second, .val (.int z25), .val (.long ((ph21 + (1 : Int64)) + (z23 % ((9223372036854775807 : Int64) - ph21)))), .second, .val (.int (0 : Int32)), .unset, .unset, .unset, .unset, .unset]) rfl ?_
                        have q113 : ph39 = ((ph21 + (1 : Int64)) + (z23 % ((9223372036854775807 : Int64) - ph21))) := by
                          rw [← hph39]
                          simp only [if_neg hc82, if_neg hc85, if_neg hc92, if_neg hc99, if_neg hc105, if_pos hc111]
                        have q114 : ph40 = (0 : Int32) := by
                          rw [← hph40]
                          simp only [if_neg hc82, if_neg hc85, if_neg hc92, if_neg hc99, if_neg hc105, if_pos hc111]
                        rw [q113, q114] at J41
                        exact J41
                      · skip
                        refine o_ifY (pc' := 342) X0 hx (hb hby at_320) (lcN_lt hc111).2 (by decide) (by decide) ?_
                        refine o_lload X0 hx rfl (hb hby at_342) rfl ?_
                        refine o_lstore X0 hx rfl (hb hby at_344) (L' := #[.val (.int p0), .val (.int p1), .val (.long q2), .second, .val (.long q3), .second, .val (.long q4), .second, .val (.int p5), .val (.int z1), .val (.int ph4), .val (.int ph7), .val (.int ph11), .val (.long ph15), .second, .val (.int ph16), .val (.long z18), .second, .val (.long ph21), .second, .val (.long z23), .second, .val (.int z25), .val (.long ph15), .second, .unset, .unset, .unset, .unset, .unset, .unset]) rfl ?_
                        refine o_iconst (z := (0 : Int32)) X0 hx rfl (hb hby at_346) (by decide) ?_
                        refine o_istore X0 hx rfl (hb hby at_347) (L' := #[.val (.int p0), .val (.int p1), .val (.long q2), .second, .val (.long q3), .second, .val (.long q4), .second, .val (.int p5), .val (.int z1), .val (.int ph4), .val (.int ph7), .val (.int ph11), .val (.long ph15), .second, .val (.int ph16), .val (.long z18), .second, .val (.long ph21), .second, .val (.long z23), .second, .val (.int z25), .val (.long ph15), .second, .val (.int (0 : Int32)), .unset, .unset, .unset, .unset, .unset]) rfl ?_
                        have q115 : ph39 = ph15 := by
                          rw [← hph39]
                          simp only [if_neg hc82, if_neg hc85, if_neg hc92, if_neg hc99, if_neg hc105, if_neg hc111]
                        have q116 : ph40 = (0 : Int32) := by
                          rw [← hph40]
                          simp only [if_neg hc82, if_neg hc85, if_neg hc92, if_neg hc99, if_neg hc105, if_neg hc111]
                        rw [q115, q116] at J41
                        exact J41
          by_cases hc117 : z19 < z18
          · skip
            refine o_ifN (pc' := 118) X0 hx rfl (hb hby at_115) (lcY_gt hc117).2 ?_
            refine o_ldc2L X0 hx rfl (hb hby at_118) hZ hown (hw _ (List.mem_of_getElem? (i := 1) rfl)) ?_
            refine o_goto (pc' := 129) X0 hx (hb hby at_121) (by decide) (by decide) ?_
            have q118 : ph21 = (9223372036854775807 : Int64) := by
              rw [← hph21]
              simp only [if_pos hc117]
            rw [q118] at J22
            exact J22
          · skip
            refine o_ifY (pc' := 124) X0 hx (hb hby at_115) (lcN_gt hc117).2 (by decide) (by decide) ?_
            refine o_lload X0 hx rfl (hb hby at_124) rfl ?_
            refine o_lload X0 hx rfl (hb hby at_126) rfl ?_
            refine o_ladd (z := (ph15 + z18)) X0 hx rfl (hb hby at_128) rfl ?_
            have q119 : ph21 = (ph15 + z18) := by
              rw [← hph21]
              simp only [if_neg hc117]
            rw [q119] at J22
            exact J22
        by_cases hc120 : ph11 = (0 : Int32)
        · skip
          refine o_ifY (pc' := 68) X0 hx (hb hby at_56) ((if0 _ _).trans (teq hc120).1) (by decide) (by decide) ?_
          refine o_lloadN X0 hx rfl (hb hby at_68) rfl ?_
          refine o_ldc2L X0 hx rfl (hb hby at_69) hZ hown (hw _ (List.mem_of_getElem? (i := 1) rfl)) ?_
          refine o_land (z := (q2 &&& (9223372036854775807 : Int64))) X0 hx rfl (hb hby at_72) rfl ?_
          refine o_lstore X0 hx rfl (hb hby at_73) (L' := #[.val (.int p0), .val (.int p1), .val (.long q2), .second, .val (.long q3), .second, .val (.long q4), .second, .val (.int p5), .val (.int z1), .val (.int ph4), .val (.int ph7), .val (.int ph11), .val (.long (q2 &&& (9223372036854775807 : Int64))), .second, .unset, .unset, .unset, .unset, .unset, .unset, .unset, .unset, .unset, .unset, .unset, .unset, .unset, .unset, .unset, .unset]) rfl ?_
          refine o_lload X0 hx rfl (hb hby at_75) rfl ?_
          refine o_lconst (z := (0 : Int64)) X0 hx rfl (hb hby at_77) (by decide) ?_
          refine o_lcmp X0 hx rfl (hb hby at_78) ?_
          by_cases hc121 : (q2 &&& (9223372036854775807 : Int64)) = (0 : Int64)
          · skip
            refine o_ifN (pc' := 82) X0 hx rfl (hb hby at_79) (lcY_eq hc121).2 ?_
            refine o_lconst (z := (1 : Int64)) X0 hx rfl (hb hby at_82) (by decide) ?_
            refine o_lstore X0 hx rfl (hb hby at_83) (L' := #[.val (.int p0), .val (.int p1), .val (.long q2), .second, .val (.long q3), .second, .val (.long q4), .second, .val (.int p5), .val (.int z1), .val (.int ph4), .val (.int ph7), .val (.int ph11), .val (.long (1 : Int64)), .second, .unset, .unset, .unset, .unset, .unset, .unset, .unset, .unset, .unset, .unset, .unset, .unset, .unset, .unset, .unset, .unset]) rfl ?_
            refine o_iconst (z := (1 : Int32)) X0 hx rfl (hb hby at_85) (by decide) ?_
            refine o_iload X0 hx rfl (hb hby at_86) rfl ?_
            refine o_bipush (z := (8 : Int32)) X0 hx rfl (hb hby at_88) (by decide) ?_
            refine o_iushr (z := ((p5.toUInt32 >>> ((8 : Int32) &&& 31).toUInt32).toInt32)) X0 hx rfl (hb hby at_90) rfl ?_
            refine o_sipush (z := (255 : Int32)) X0 hx rfl (hb hby at_91) (by decide) ?_
            refine o_iand (z := (((p5.toUInt32 >>> ((8 : Int32) &&& 31).toUInt32).toInt32) &&& (255 : Int32))) X0 hx rfl (hb hby at_94) rfl ?_
            refine o_iadd (z := ((1 : Int32) + (((p5.toUInt32 >>> ((8 : Int32) &&& 31).toUInt32).toInt32) &&& (255 : Int32)))) X0 hx rfl (hb hby at_95) rfl ?_
            refine o_istore X0 hx rfl (hb hby at_96) (L' := #[.val (.int p0), .val (.int p1), .val (.long q2), .second, .val (.long q3), .second, .val (.long q4), .second, .val (.int p5), .val (.int z1), .val (.int ph4), .val (.int ph7), .val (.int ph11), .val (.long (1 : Int64)), .second, .val (.int ((1 : Int32) + (((p5.toUInt32 >>> ((8 : Int32) &&& 31).toUInt32).toInt32) &&& (255 : Int32)))), .unset, .unset, .unset, .unset, .unset, .unset, .unset, .unset, .unset, .unset, .unset, .unset, .unset, .unset, .unset]) rfl ?_
            have q122 : ph15 = (1 : Int64) := by
              rw [← hph15]
              simp only [if_pos hc120, if_pos hc121]
            have q123 : ph16 = ((1 : Int32) + (((p5.toUInt32 >>> ((8 : Int32) &&& 31).toUInt32).toInt32) &&& (255 : Int32))) := by
              rw [← hph16]
              simp only [if_pos hc120, if_pos hc121]
            rw [q122, q123] at J17
            exact J17
          · skip
            refine o_ifY (pc' := 85) X0 hx (hb hby at_79) (lcN_eq hc121).2 (by decide) (by decide) ?_
            refine o_iconst (z := (1 : Int32)) X0 hx rfl (hb hby at_85) (by decide) ?_
            refine o_iload X0 hx rfl (hb hby at_86) rfl ?_
            refine o_bipush (z := (8 : Int32)) X0 hx rfl (hb hby at_88) (by decide) ?_
            refine o_iushr (z := ((p5.toUInt32 >>> ((8 : Int32) &&& 31).toUInt32).toInt32)) X0 hx rfl (hb hby at_90) rfl ?_
            refine o_sipush (z := (255 : Int32)) X0 hx rfl (hb hby at_91) (by decide) ?_
            refine o_iand (z := (((p5.toUInt32 >>> ((8 : Int32) &&& 31).toUInt32).toInt32) &&& (255 : Int32))) X0 hx rfl (hb hby at_94) rfl ?_
            refine o_iadd (z := ((1 : Int32) + (((p5.toUInt32 >>> ((8 : Int32) &&& 31).toUInt32).toInt32) &&& (255 : Int32)))) X0 hx rfl (hb hby at_95) rfl ?_
            refine o_istore X0 hx rfl (hb hby at_96) (L' := #[.val (.int p0), .val (.int p1), .val (.long q2), .second, .val (.long q3), .second, .val (.long q4), .second, .val (.int p5), .val (.int z1), .val (.int ph4), .val (.int ph7), .val (.int ph11), .val (.long (q2 &&& (9223372036854775807 : Int64))), .second, .val (.int ((1 : Int32) + (((p5.toUInt32 >>> ((8 : Int32) &&& 31).toUInt32).toInt32) &&& (255 : Int32)))), .unset, .unset, .unset, .unset, .unset, .unset, .unset, .unset, .unset, .unset, .unset, .unset, .unset, .unset, .unset]) rfl ?_
            have q124 : ph15 = (q2 &&& (9223372036854775807 : Int64)) := by
              rw [← hph15]
              simp only [if_pos hc120, if_neg hc121]
            have q125 : ph16 = ((1 : Int32) + (((p5.toUInt32 >>> ((8 : Int32) &&& 31).toUInt32).toInt32) &&& (255 : Int32))) := by
              rw [← hph16]
              simp only [if_pos hc120, if_neg hc121]
            rw [q124, q125] at J17
            exact J17
        · skip
          refine o_ifN (pc' := 59) X0 hx rfl (hb hby at_56) ((if0 _ _).trans (feq hc120).1) ?_
          refine o_lconst (z := (0 : Int64)) X0 hx rfl (hb hby at_59) (by decide) ?_
          refine o_lstore X0 hx rfl (hb hby at_60) (L' := #[.val (.int p0), .val (.int p1), .val (.long q2), .second, .val (.long q3), .second, .val (.long q4), .second, .val (.int p5), .val (.int z1), .val (.int ph4), .val (.int ph7), .val (.int ph11), .val (.long (0 : Int64)), .second, .unset, .unset, .unset, .unset, .unset, .unset, .unset, .unset, .unset, .unset, .unset, .unset, .unset, .unset, .unset, .unset]) rfl ?_
          refine o_iconst (z := (0 : Int32)) X0 hx rfl (hb hby at_62) (by decide) ?_
          refine o_istore X0 hx rfl (hb hby at_63) (L' := #[.val (.int p0), .val (.int p1), .val (.long q2), .second, .val (.long q3), .second, .val (.long q4), .second, .val (.int p5), .val (.int z1), .val (.int ph4), .val (.int ph7), .val (.int ph11), .val (.long (0 : Int64)), .second, .val (.int (0 : Int32)), .unset, .unset, .unset, .unset, .unset, .unset, .unset, .unset, .unset, .unset, .unset, .unset, .unset, .unset, .unset]) rfl ?_
          refine o_goto (pc' := 98) X0 hx (hb hby at_65) (by decide) (by decide) ?_
          have q126 : ph15 = (0 : Int64) := by
            rw [← hph15]
            simp only [if_neg hc120]
          have q127 : ph16 = (0 : Int32) := by
            rw [← hph16]
            simp only [if_neg hc120]
          rw [q126, q127] at J17
          exact J17
      by_cases hc128 : z9 = (0 : Int32)
      · skip
        refine o_ifY (pc' := 51) X0 hx (hb hby at_44) ((if0 _ _).trans (teq hc128).1) (by decide) (by decide) ?_
        refine o_iconst (z := (0 : Int32)) X0 hx rfl (hb hby at_51) (by decide) ?_
        have q129 : ph11 = (0 : Int32) := by
          rw [← hph11]
          simp only [if_pos hc128]
        rw [q129] at J12
        exact J12
      · skip
        refine o_ifN (pc' := 47) X0 hx rfl (hb hby at_44) ((if0 _ _).trans (feq hc128).1) ?_
        refine o_iconst (z := (1 : Int32)) X0 hx rfl (hb hby at_47) (by decide) ?_
        refine o_goto (pc' := 52) X0 hx (hb hby at_48) (by decide) (by decide) ?_
        have q130 : ph11 = (1 : Int32) := by
          rw [← hph11]
          simp only [if_neg hc128]
        rw [q130] at J12
        exact J12
    by_cases hc131 : z1 = ph4
    · skip
      refine o_icmpN (pc' := 32) X0 hx rfl (hb hby at_29) (teq hc131).2 ?_
      refine o_iconst (z := (1 : Int32)) X0 hx rfl (hb hby at_32) (by decide) ?_
      refine o_goto (pc' := 37) X0 hx (hb hby at_33) (by decide) (by decide) ?_
      have q132 : ph7 = (1 : Int32) := by
        rw [← hph7]
        simp only [if_pos hc131]
      rw [q132] at J8
      exact J8
    · skip
      refine o_icmpY (pc' := 36) X0 hx (hb hby at_29) (feq hc131).2 (by decide) (by decide) ?_
      refine o_iconst (z := (0 : Int32)) X0 hx rfl (hb hby at_36) (by decide) ?_
      have q133 : ph7 = (0 : Int32) := by
        rw [← hph7]
        simp only [if_neg hc131]
      rw [q133] at J8
      exact J8
  by_cases hc134 : z2 = (0 : Int32)
  · skip
    refine o_ifY (pc' := 19) X0 hx (hb hby at_11) ((if0 _ _).trans (teq hc134).1) (by decide) (by decide) ?_
    refine o_iloadN X0 hx rfl (hb hby at_19) rfl ?_
    refine o_ldcI X0 hx rfl (hb hby at_20) hZ hown (hw _ (List.mem_of_getElem? (i := 0) rfl)) ?_
    refine o_iand (z := (p1 &&& (2147483647 : Int32))) X0 hx rfl (hb hby at_22) rfl ?_
    have q135 : ph4 = (p1 &&& (2147483647 : Int32)) := by
      rw [← hph4]
      simp only [if_pos hc134]
    rw [q135] at J5
    exact J5
  · skip
    refine o_ifN (pc' := 14) X0 hx rfl (hb hby at_11) ((if0 _ _).trans (feq hc134).1) ?_
    refine o_iload X0 hx rfl (hb hby at_14) rfl ?_
    refine o_goto (pc' := 23) X0 hx (hb hby at_16) (by decide) (by decide) ?_
    have q136 : ph4 = z1 := by
      rw [← hph4]
      simp only [if_neg hc134]
    rw [q136] at J5
    exact J5
set_option maxRecDepth 65536 in
set_option maxHeartbeats 40000000 in
theorem own_comes {Post : Tables → Env → Array Value → State → Outcome → State → Prop} (hpost : ∀ tb e args s v u, (limb_1_1.after args s (.returned v) u = true ∧ limb_1_2.after args s (.returned v) u = true ∧ True) → FrameEnd s (.returned v) u (Jvm.fieldLocs frame_1_writes args s ++ Jvm.arrayLocs frame_1_arrays args s ++ Jvm.staticLocs frame_1_statics s) 16 128 → Post tb e args s (.returned v) u) :
    ArmFor flags0 classFile x code maxLocals ret World_1 tables_1 room_1 Calls_1 rest_1 Pre_1 Post := by
  intro l hfl _ _ p e ha hc hk s m args below hf hA hF happ hP
  obtain ⟨hcalls, hrest, hpre⟩ := hP
  obtain ⟨-, -, -, hnamed, -, -, -, hat⟩ := (Spec.applies_iff hf).mp happ
  obtain ⟨hg, hn⟩ := and_e (Cond.before_iff.mp (show (Jvm.Cond.and given_1 narrow_1).before args s = true from hpre))
  obtain ⟨g0, gr0⟩ := and_e hg
  obtain ⟨gi0, gr1⟩ := and_e gr0
  obtain ⟨gi1, gr2⟩ := and_e gr1
  obtain ⟨gi2, gr3⟩ := and_e gr2
  obtain ⟨gi3, gr4⟩ := and_e gr3
  obtain ⟨gi4, gr5⟩ := and_e gr4
  have gi5 := gr5
  obtain ⟨w0, w1, w2, w3, w4, w5, rfl⟩ : ∃ w0 w1 w2 w3 w4 w5 : Value, args = #[w0, w1, w2, w3, w4, w5] := by
    have hs : args.size = 6 := by simpa [Cond.value, given_1] using g0
    obtain ⟨L⟩ := args
    match L, hs with
    | [w0, w1, w2, w3, w4, w5], _ => exact ⟨w0, w1, w2, w3, w4, w5, rfl⟩
  have hw := fun d (hd : d ∈ tables_1) => atoms_spec (ws := Jvm.Cond.code x code maxLocals ret :: tables_1) hat d (List.mem_cons_of_mem _ hd)
  have hfit : Fit s := fun {y c} hc i hi => by
    obtain ⟨ha, rfl⟩ := Array.getElem?_eq_some_iff.mp hc
    have q := List.all_eq_true.mp ((Array.all_eq_true_iff_forall_mem.mp hF) _ (Array.getElem_mem ha)) i (List.mem_range.mpr hi)
    simpa [Array.getElem?_eq_getElem hi] using q
  obtain ⟨i0, ei0⟩ := is_v gi0
  obtain rfl : w0 = (.int i0) := Option.some.inj ei0
  obtain ⟨i1, ei1⟩ := is_v gi1
  obtain rfl : w1 = (.int i1) := Option.some.inj ei1
  obtain ⟨i2, ei2⟩ := isL_v gi2
  obtain rfl : w2 = (.long i2) := Option.some.inj ei2
  obtain ⟨i3, ei3⟩ := isL_v gi3
  obtain rfl : w3 = (.long i3) := Option.some.inj ei3
  obtain ⟨i4, ei4⟩ := isL_v gi4
  obtain rfl : w4 = (.long i4) := Option.some.inj ei4
  obtain ⟨i5, ei5⟩ := is_v gi5
  obtain rfl : w5 = (.int i5) := Option.some.inj ei5
  obtain ⟨n, o, h1, h2, h3, _, L, rfl, ⟨rfl, N⟩, hq⟩ := own_rm0 l s _ hw tables_1 i0 i1 i2 i3 i4 i5  s.heap s.heap.size (Nat.le_refl _)  p e ha hc hk s m _ below hf ((Spec.applies_iff_loose hf).mp happ).1 ⟨rfl, State.Warmed39.refl s, rfl⟩ trivial
  refine ⟨n, _, h1, h2, h3, hpost _ _ _ _ _ _ ⟨Cond.after_iff.mpr rfl, Cond.after_iff.mpr (eq_i res_at (Term.int_eval (1)) rfl), trivial⟩ ⟨hq.1, hq.2.1, (hq.2.2.sift fun y hy => Or.inr (N y hy)).mono (by decide) (by decide)⟩⟩
theorem main_1_1 : Claimed_1_1 := own_comes fun _ _ _ _ _ _ h hF => ⟨h.1, hF⟩
theorem main_1_2 : Claimed_1_2 := own_comes fun _ _ _ _ _ _ h hF => ⟨h.2.1, hF⟩
end Jvm.Pilot.@@N@@
namespace Jvm.Pilot.@@N@@
open Jvm Jvm.ClassFile Sem Op Lib Jvm.Free Jvm.Stand Jvm.Pilot.@@N@@.Jvm.D
/-! MADE BY PROGRAM (witnessworld.py) out of the Statement's table words and the real class files: 11 classes; the members and pool entries that the words name. The judged class is class 1, her method 1. -/
namespace start1
open Jvm.ClassFile
def u (s : String) : CpInfo := .utf8 (stringToUtf16 s)
/-- a pool by its gaps: so many unusable entries, then the entry; so many at the end -/
def gap : Nat → List CpInfo → List CpInfo
  | 0, r => r
  | n + 1, r => .unusable :: gap n r
def poolList (es : List (Nat × CpInfo)) (last : Nat) : List CpInfo := es.foldr (fun e r => gap e.1 (e.2 :: r)) (gap last [])
def pool (es : List (Nat × CpInfo)) (last : Nat) : Array CpInfo := ⟨poolList es last⟩
def fileOf (pool : Array CpInfo) (this : Nat) (attrs : Array Attribute := #[]) (ms : Array MethodInfo := #[]) (fl : Nat := 33) (sup : Nat := 0) (ifs : Array Nat := #[]) (fds : Array FieldInfo := #[]) : ClassFile where
  minorVersion := 0
  majorVersion := 65
  constantPool := pool
  accessFlags := fl
  thisClass := this
  superClass := sup
  interfaces := ifs
  fields := fds
  methods := ms
  attributes := attrs
def plain (name : String) (sup : Option ClassId) : Class where
  name := name
  kind := .ordinary
  loader := none
  accessFlags := 33
  super := sup
  interfaces := #[]
  cf := none
  fields := #[]
  methods := #[]
  instanceTypes := #[]
  staticTypes := #[]
  resolved := #[]
  callSites := []
  init := .initialized
  statics := none
  mirror := none

def pool0 : Array CpInfo := pool [(5, u "<init>"), (0, u "()V"), (1, .class_ 10), (1, u "java/lang/Object")] 113

def k0c0 : Code := { maxStack := 0, maxLocals := 1, code := object_method_1_code, exceptionTable := #[], attributes := #[] }
def k0m0 : Method := { name := "<init>", desc := "()V", sig := { parameters := [], returnType := none }, accessFlags := 1, code := some k0c0 }
/-- java/lang/Object -/
def k0 : Class := { plain "java/lang/Object" none with
  accessFlags := 33
  interfaces := #[]
  cf := some (fileOf pool0 8 #[] #[{ accessFlags := 1, nameIndex := 5, descriptorIndex := 6, attributes := #[] }] 33 0 #[] #[])
  fields := #[]
  methods := #[k0m0]
  instanceTypes := #[]
  staticTypes := #[]
  resolved := Array.replicate 124 none
  statics := none }

def pool1 : Array CpInfo := pool [(2, .class_ 4), (1, u "java/lang/Object"), (0, u "<init>"), (0, u "()V"), (0, .integer 2147483647), (0, .long 9223372036854775807), (1, .long 2), (1, .class_ 13), (0, u "com/example/nodeset/nodeset/NodeLabel"), (0, .methodref 12 15), (0, .nameAndType 5 16), (0, u "(IJJI)V"), (0, .methodref 12 18), (0, .nameAndType 19 20), (0, u "isAncestorOf"), (0, u "(Lcom/example/nodeset/nodeset/NodeLabel;)Z"), (0, .class_ 22), (0, u "com/example/nodeset/nodeset/NodeLabelIsAncestorOfPinLaw"), (2, u "law"), (0, u "(IIJJJI)Z")] 3

def k1m0 : Method := { name := "<init>", desc := "()V", sig := { parameters := [], returnType := none }, accessFlags := 1, code := none }
def k1c1 : Code := { maxStack := 8, maxLocals := 31, code := code, exceptionTable := #[], attributes := #[] }
def k1m1 : Method := { name := "law", desc := "(IIJJJI)Z", sig := { parameters := [.int, .int, .long, .long, .long, .int], returnType := some .boolean }, accessFlags := 9, code := some k1c1 }
/-- com/example/nodeset/nodeset/NodeLabelIsAncestorOfPinLaw -/
def k1 : Class := { plain "com/example/nodeset/nodeset/NodeLabelIsAncestorOfPinLaw" (some 0) with
  accessFlags := 49
  interfaces := #[]
  cf := some (fileOf pool1 21 #[] #[{ accessFlags := 1, nameIndex := 5, descriptorIndex := 6, attributes := #[] }, { accessFlags := 9, nameIndex := 25, descriptorIndex := 26, attributes := #[] }] 49 2 #[] #[])
  fields := #[]
  methods := #[k1m0, k1m1]
  instanceTypes := #[]
  staticTypes := #[]
  resolved := Array.replicate 30 none
  statics := none }

def pool2 : Array CpInfo := pool [(1, .methodref 2 3), (0, .class_ 4), (0, .nameAndType 5 6), (0, u "java/lang/Object"), (0, u "<init>"), (0, u "()V"), (0, .class_ 8), (0, u "java/lang/Record")] 13

def k2c0 : Code := { maxStack := 1, maxLocals := 1, code := jdk_30_method_1_code, exceptionTable := #[], attributes := #[] }
def k2m0 : Method := { name := "<init>", desc := "()V", sig := { parameters := [], returnType := none }, accessFlags := 4, code := some k2c0 }
/-- java/lang/Record -/
def k2 : Class := { plain "java/lang/Record" (some 0) with
  accessFlags := 1057
  interfaces := #[]
  cf := some (fileOf pool2 7 #[] #[{ accessFlags := 4, nameIndex := 5, descriptorIndex := 6, attributes := #[] }] 1057 2 #[] #[])
  fields := #[]
  methods := #[k2m0]
  instanceTypes := #[]
  staticTypes := #[]
  resolved := Array.replicate 22 none
  statics := none }

def pool3 : Array CpInfo := pool [(1, .class_ 2), (0, u "java/lang/Comparable"), (0, .class_ 4), (0, u "java/lang/Object")] 7

/-- java/lang/Comparable -/
def k3 : Class := { plain "java/lang/Comparable" (some 0) with
  accessFlags := 1537
  interfaces := #[]
  cf := some (fileOf pool3 1 #[] #[] 1537 3 #[] #[])
  fields := #[]
  methods := #[]
  instanceTypes := #[]
  staticTypes := #[]
  resolved := Array.replicate 12 none
  statics := none }

def pool4 : Array CpInfo := pool [(1, .methodref 2 3), (0, .class_ 4), (0, .nameAndType 5 6), (0, u "java/lang/Record"), (0, u "<init>"), (0, u "()V"), (16, .fieldref 24 25), (0, .class_ 26), (0, .nameAndType 27 28), (0, u "com/example/nodeset/nodeset/NodeLabel"), (0, u "document"), (0, u "I"), (0, .fieldref 24 30), (0, .nameAndType 31 32), (0, u "start"), (0, u "J"), (0, .fieldref 24 34), (0, .nameAndType 35 32), (0, u "end"), (0, .fieldref 24 37), (0, .nameAndType 38 28), (0, u "depth"), (2, u "isAncestorOf"), (0, u "(Lcom/example/nodeset/nodeset/NodeLabel;)Z"), (26, .class_ 70), (0, u "java/lang/Comparable"), (0, u "(IJJI)V")] 49

def k4c0 : Code := { maxStack := 6, maxLocals := 8, code := prog_39_method_1_code, exceptionTable := #[], attributes := #[] }
def k4m0 : Method := { name := "<init>", desc := "(IJJI)V", sig := { parameters := [.int, .long, .long, .int], returnType := none }, accessFlags := 1, code := some k4c0 }
def k4c1 : Code := { maxStack := 4, maxLocals := 2, code := prog_39_method_2_code, exceptionTable := #[], attributes := #[] }
def k4m1 : Method := { name := "isAncestorOf", desc := "(Lcom/example/nodeset/nodeset/NodeLabel;)Z", sig := { parameters := [(.object "com/example/nodeset/nodeset/NodeLabel")], returnType := some .boolean }, accessFlags := 1, code := some k4c1 }
/-- com/example/nodeset/nodeset/NodeLabel -/
def k4 : Class := { plain "com/example/nodeset/nodeset/NodeLabel" (some 2) with
  accessFlags := 49
  interfaces := #[3]
  cf := some (fileOf pool4 24 #[] #[{ accessFlags := 1, nameIndex := 5, descriptorIndex := 71, attributes := #[] }, { accessFlags := 1, nameIndex := 41, descriptorIndex := 42, attributes := #[] }] 49 2 #[69] #[{ accessFlags := 18, nameIndex := 27, descriptorIndex := 28, attributes := #[] }, { accessFlags := 18, nameIndex := 31, descriptorIndex := 32, attributes := #[] }, { accessFlags := 18, nameIndex := 35, descriptorIndex := 32, attributes := #[] }, { accessFlags := 18, nameIndex := 38, descriptorIndex := 28, attributes := #[] }])
  fields := #[{ name := "document", type := .int, accessFlags := 18, slot := 0, constantValue := 0 }, { name := "start", type := .long, accessFlags := 18, slot := 1, constantValue := 0 }, { name := "end", type := .long, accessFlags := 18, slot := 2, constantValue := 0 }, { name := "depth", type := .int, accessFlags := 18, slot := 3, constantValue := 0 }]
  methods := #[k4m0, k4m1]
  instanceTypes := #[.int, .long, .long, .int]
  staticTypes := #[]
  resolved := Array.replicate 121 none
  statics := none }

def pool5 : Array CpInfo := pool [(1, u "java/lang/Cloneable"), (0, .class_ 1), (0, u "java/lang/Object"), (0, .class_ 3)] 3

/-- java/lang/Cloneable -/
def k5 : Class := { plain "java/lang/Cloneable" (some 0) with
  accessFlags := 1537
  interfaces := #[]
  cf := some (fileOf pool5 2 #[] #[] 1537 4 #[] #[])
  fields := #[]
  methods := #[]
  instanceTypes := #[]
  staticTypes := #[]
  resolved := Array.replicate 8 none
  statics := none }

def pool6 : Array CpInfo := pool [(1, u "java/io/Serializable"), (0, .class_ 1), (0, u "java/lang/Object"), (0, .class_ 3)] 3

/-- java/io/Serializable -/
def k6 : Class := { plain "java/io/Serializable" (some 0) with
  accessFlags := 1537
  interfaces := #[]
  cf := some (fileOf pool6 2 #[] #[] 1537 4 #[] #[])
  fields := #[]
  methods := #[]
  instanceTypes := #[]
  staticTypes := #[]
  resolved := Array.replicate 8 none
  statics := none }

/-- the primitive byte -/
def k7 : Class := { plain "byte" none with kind := .primitive 'B', accessFlags := 0x411 }
/-- [B -/
def k8 : Class := { plain "[B" (some 0) with kind := .array 7 .byte, interfaces := #[5, 6], accessFlags := 1041 }

/-- the primitive int -/
def k9 : Class := { plain "int" none with kind := .primitive 'I', accessFlags := 0x411 }
/-- [I -/
def k10 : Class := { plain "[I" (some 0) with kind := .array 9 .int, interfaces := #[5, 6], accessFlags := 1041 }

def heap : Heap := #[]
def classes : Array Class := #[k0, k1, k2, k3, k4, k5, k6, k7, k8, k9, k10]
def interned : List (Array UInt16 × Addr) := []
def slotsUsed : Nat := 0
def theMethod : MethodId := ⟨1, 1⟩
def args0 : Array Value := #[.int 5, .int 7, .long 4, .long 3, .long 2, .int 9]
def aboutOver (below : List Frame) : State where
  vm := { classes := classes, interned := interned.toArray }
  heap := heap
  slotsUsed := slotsUsed
  threads := #[{ frames := .invoking theMethod args0 :: below }]
def below0 : List Frame := [.native { method := ⟨0, 0⟩, args := #[] }]
def about1 : State := aboutOver below0
def p0 : Program := .bare "" "" ""
def e0 : Env := launch0.env 0 0 0
theorem w_frames : about1.frames = Frame.invoking theMethod args0 :: below0 := rfl
set_option maxRecDepth 65536 in
theorem w_args : argsFit about1.vm theMethod args0 = true := by decide +kernel
set_option maxRecDepth 65536 in
theorem w_heap : heapFits about1 = true := by decide +kernel
set_option maxRecDepth 65536 in
theorem w_runnable : about1.curStatus? = some .runnable := by decide +kernel
set_option maxRecDepth 65536 in
theorem w_alone : about1.alone = true := by decide +kernel
set_option maxRecDepth 65536 in
theorem w_named : about1.methodNamed? x = some theMethod := by decide +kernel
set_option maxRecDepth 65536 in
theorem w_hears : about1.hears theMethod below0 = true := by decide +kernel
set_option maxRecDepth 65536 in
theorem w_ripe : about1.ripe theMethod args0 below0 = true := by decide +kernel
theorem w_running : about1.status = .running := rfl
set_option maxRecDepth 65536 in
theorem w_room : about1.hasRoom e0.platform room_1 = true :=
  launch0.hasRoom_least _ room_1 (by decide +kernel) (by decide +kernel) (by decide +kernel) (by decide +kernel) (by decide +kernel) (by decide +kernel)
theorem allAtoms_all (ts : List Jvm.Cond) (a : Array Jvm.Value) (st : Jvm.State) : (allAtoms ts).before a st = ts.all (fun c => c.before a st) := by
  induction ts with
  | nil => rfl
  | cons c t ih =>
    show (Jvm.Cond.and c (allAtoms t)).before a st = _
    rw [Jvm.Cond.before_and, ih, List.all_cons]
def words1 : List Jvm.Cond := Jvm.Cond.code x code maxLocals ret :: tables_1
/-- a 'code' word, met by the world's own term for the bytes: nothing is compared byte by byte -/
theorem code_word {y : MethodName} {bytes : ByteArray} {mx : Nat} {rt : Option FieldType} {a : Array Value} {s : State} {m : MethodId} {meth : Method} {c : Code} (h1 : s.methodNamed? y = some m) (h2 : s.vm.method? m = some meth) (h3 : meth.code = some c) (h4 : c.code = bytes)
    (h5 : (c.maxLocals == mx && c.exceptionTable.isEmpty && decide (c.maxStack ≤ mostOperands) && decide (meth.sig.returnType = rt) && !meth.locks && decide (parseMethodDescriptor y.desc = some meth.sig)) = true) : (Jvm.Cond.code y bytes mx rt).before a s = true := by
  simp only [Bool.and_eq_true, beq_iff_eq, Bool.not_eq_true', decide_eq_true_eq] at h5
  obtain ⟨⟨⟨⟨⟨g1, g2⟩, g3⟩, g4⟩, g5⟩, g6⟩ := h5
  simp [Cond.before, Cond.holds, Cond.value, h1, h2, h3, h4, g1, g2, g3, g4, g5, g6]
def isCode : Jvm.Cond → Bool
  | .code _ _ _ _ => true
  | _ => false
theorem all_split {L : List Jvm.Cond} {P : Jvm.Cond → Bool} (h1 : L.all (fun c => isCode c || P c) = true) (h2 : ∀ c ∈ L.filter isCode, P c = true) : L.all P = true := by
  refine List.all_eq_true.mpr fun c hc => ?_
  have h := List.all_eq_true.mp h1 c hc
  rcases Bool.eq_false_or_eq_true (isCode c) with hi | hi
  · exact h2 c (List.mem_filter.mpr ⟨hc, hi⟩)
  · simpa [hi] using h
set_option maxRecDepth 65536 in
theorem w_c0 : (Jvm.Cond.code x code maxLocals ret).before args0 about1 = true := code_word (m := ⟨1, 1⟩) (meth := k1m1) (c := k1c1) (by decide +kernel) rfl rfl rfl (by decide +kernel)
set_option maxRecDepth 65536 in
theorem w_c1 : (Jvm.Cond.code ({ cls := "com/example/nodeset/nodeset/NodeLabel", name := "<init>", desc := "(IJJI)V" } : Jvm.MethodName) prog_39_method_1_code (8 : Nat) (Option.none : Option Jvm.ClassFile.FieldType)).before args0 about1 = true := code_word (m := ⟨4, 0⟩) (meth := k4m0) (c := k4c0) (by decide +kernel) rfl rfl rfl (by decide +kernel)
set_option maxRecDepth 65536 in
theorem w_c2 : (Jvm.Cond.code ({ cls := "java/lang/Record", name := "<init>", desc := "()V" } : Jvm.MethodName) jdk_30_method_1_code (1 : Nat) (Option.none : Option Jvm.ClassFile.FieldType)).before args0 about1 = true := code_word (m := ⟨2, 0⟩) (meth := k2m0) (c := k2c0) (by decide +kernel) rfl rfl rfl (by decide +kernel)
set_option maxRecDepth 65536 in
theorem w_c3 : (Jvm.Cond.code ({ cls := "java/lang/Object", name := "<init>", desc := "()V" } : Jvm.MethodName) object_method_1_code (1 : Nat) (Option.none : Option Jvm.ClassFile.FieldType)).before args0 about1 = true := code_word (m := ⟨0, 0⟩) (meth := k0m0) (c := k0c0) (by decide +kernel) rfl rfl rfl (by decide +kernel)
set_option maxRecDepth 65536 in
theorem w_c4 : (Jvm.Cond.code ({ cls := "com/example/nodeset/nodeset/NodeLabel", name := "isAncestorOf", desc := "(Lcom/example/nodeset/nodeset/NodeLabel;)Z" } : Jvm.MethodName) prog_39_method_2_code (2 : Nat) (Option.some Jvm.ClassFile.FieldType.boolean)).before args0 about1 = true := code_word (m := ⟨4, 1⟩) (meth := k4m1) (c := k4c1) (by decide +kernel) rfl rfl rfl (by decide +kernel)
def codes1 : List Jvm.Cond := [Jvm.Cond.code x code maxLocals ret, Jvm.Cond.code ({ cls := "com/example/nodeset/nodeset/NodeLabel", name := "<init>", desc := "(IJJI)V" } : Jvm.MethodName) prog_39_method_1_code (8 : Nat) (Option.none : Option Jvm.ClassFile.FieldType), Jvm.Cond.code ({ cls := "java/lang/Record", name := "<init>", desc := "()V" } : Jvm.MethodName) jdk_30_method_1_code (1 : Nat) (Option.none : Option Jvm.ClassFile.FieldType), Jvm.Cond.code ({ cls := "java/lang/Object", name := "<init>", desc := "()V" } : Jvm.MethodName) object_method_1_code (1 : Nat) (Option.none : Option Jvm.ClassFile.FieldType), Jvm.Cond.code ({ cls := "com/example/nodeset/nodeset/NodeLabel", name := "isAncestorOf", desc := "(Lcom/example/nodeset/nodeset/NodeLabel;)Z" } : Jvm.MethodName) prog_39_method_2_code (2 : Nat) (Option.some Jvm.ClassFile.FieldType.boolean)]
set_option maxRecDepth 65536 in
theorem codes_eq : words1.filter isCode = codes1 := rfl
theorem w_codes : ∀ c ∈ words1.filter isCode, c.before args0 about1 = true := by
  rw [codes_eq]
  intro c hc
  simp only [codes1, List.mem_cons, List.not_mem_nil, or_false] at hc
  rcases hc with rfl | rfl | rfl | rfl | rfl
  · exact w_c0
  · exact w_c1
  · exact w_c2
  · exact w_c3
  · exact w_c4
set_option maxRecDepth 65536 in
theorem w_t1 : (words1.take 24).all (fun c => isCode c || c.before args0 about1) = true := by decide +kernel
set_option maxRecDepth 65536 in
theorem w_t2 : (words1.drop 24).all (fun c => isCode c || c.before args0 about1) = true := by decide +kernel
theorem w_tables : (allAtoms (Jvm.Cond.code x code maxLocals ret :: tables_1)).before args0 about1 = true := by
  rw [allAtoms_all]
  show words1.all (fun c => c.before args0 about1) = true
  refine all_split ?_ w_codes
  rw [← List.take_append_drop 24 words1, List.all_append, w_t1, w_t2]
  rfl
set_option maxRecDepth 65536 in
theorem w_case : (Jvm.Cond.and given_1 narrow_1).before args0 about1 = true := by decide +kernel
theorem w_applies : (headSpec (Jvm.Cond.code x code maxLocals ret :: tables_1) room_1).applies x e0.platform about1 = true :=
  (Spec.applies_iff w_frames).mpr ⟨w_running, w_runnable, w_alone, w_named, w_hears, w_ripe, w_room, w_tables⟩
theorem atStart : AtStart classFile x code maxLocals ret World_1 tables_1 room_1 Calls_1 rest_1 Pre_1 launch0 p0 e0 about1 theMethod args0 below0 :=
  ⟨lists_1, trivial, launch0.admits_env _ _ _, launch0.least_env, fairChoices_fair.cas, fairChoices_fair.clock, w_frames, w_args, w_heap, w_applies, trivial, trivial, w_case⟩
end start1
theorem witness_1 : WitnessClaimed_1 := ⟨start1.p0, start1.e0, start1.about1, start1.theMethod, start1.args0, start1.below0, start1.atStart⟩
end Jvm.Pilot.@@N@@

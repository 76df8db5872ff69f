import JvmDerived
import JvmDerived.Pilot.@@N@@Statement
import JvmDerived.Pilot.@@N@@Code
set_option linter.unusedVariables false
set_option linter.unusedSimpArgs false
namespace Jvm.RoadKit
open Sem ClassFile Op Lib Jvm.Stand Jvm.Free Jvm.LawKit
section Own
variable {p : Program} {l : Launch} {e : Env} {R : Room} {s : State} {m : MethodId} {args : Array Value} {below : List Frame} {meth : Method} {c : Code} {T : State} {locs : List Loc} {cells slots : Nat} {Q : Option Value → Heap → List Loc → Prop} {Φ : Outcome → State → List Loc → Prop} {k n : Nat} {pc pc' : Nat} {L L' : Array Slot} {S : List Value}
def OG (p : Program) (e : Env) (below : List Frame) (Φ : Outcome → State → List Loc → Prop) (Q : Option Value → Heap → List Loc → Prop) (t : State) : Prop :=
  ∃ s₂ o, Steps p.tables e below t s₂ ∧ s₂.status = .running ∧ Ended s₂ below o ∧ ∃ v L, o = .returned v ∧ Q v s₂.heap L ∧ Φ o s₂ L
abbrev FE (s : State) (k n : Nat) : Outcome → State → List Loc → Prop := fun o t L => FrameEnd s o t L k n
abbrev FEW (s : State) (k n : Nat) : Outcome → State → List Loc → Prop := fun o t L => ReturnedEndW s o t L k n
theorem og_of {t t' : State} (st : ∀ g, Steps p.tables e below t' g → Steps p.tables e below t g) (G : OG p e below Φ Q t') : OG p e below Φ Q t := by
  obtain ⟨s₂, o, h, r⟩ := G; exact ⟨s₂, o, st _ h, r⟩
theorem og_tr {t t' : State} (st : Steps p.tables e below t t') (G : OG p e below Φ Q t') : OG p e below Φ Q t := og_of (fun _ k => st.trans k) G
def Lv (e : Env) (below : List Frame) (Φ : Outcome → State → List Loc → Prop) (m : MethodId) (meth : Method) (T : State) (locs : List Loc) : Prop :=
  ∀ v : Option Value, (meth.sig.returnType = none → v = none) → ∃ fs, (∀ (f : JFrame) (acts : List Action), f.method = m → f.locked = none → f.entered = [] → (doReturn e (T.setTop f) acts v).1 = T.setFrames fs) ∧ (T.setFrames fs).status = .running ∧ Ended (T.setFrames fs) below (.returned v) ∧ Φ (.returned v) (T.setFrames fs) locs
theorem own_lv (X : Stand p l e R s m args below meth c T locs cells slots) (hlk : meth.locks = false) (hk : cells ≤ k) (hn : slots ≤ n) : Lv e below (FE s k n) m meth T locs := fun v hv => by
  obtain ⟨fs, hr, hrun, hended, hW, hsame⟩ := X.leave (v := v) hv hlk
  exact ⟨fs, hr, hrun, hended, ⟨_, rfl⟩, hW, hsame.mono hk hn⟩
theorem own_lvW {vm₁ : Vm} {q : Nat} (X : Stand p l e R (s.setVm vm₁) m args below meth c T locs cells slots) (hlk : meth.locks = false) (hS : s.Since vm₁ q) (hq : q ≤ T.heap.size) (hk : cells ≤ k) (hn : slots ≤ n) : Lv e below (FEW s k n) m meth T locs := fun v hv => by
  obtain ⟨fs, hr, hrun, hended, h1, h2, h3, h4⟩ := X.leaveW hS hq (v := v) hv hlk
  exact ⟨fs, hr, hrun, hended, h1, h2, h3, h4.mono hk hn⟩
theorem og_end (hE : Lv e below Φ m meth T locs) {v : Option Value} (hv : meth.sig.returnType = none → v = none) {g : JFrame}
    (st : ∀ fs, (∀ (f : JFrame) (acts : List Action), f.method = m → f.locked = none → f.entered = [] → (doReturn e (T.setTop f) acts v).1 = T.setFrames fs) → Steps p.tables e below (T.setTop g) (T.setFrames fs))
    (hQ : Q v T.heap locs) : OG p e below Φ Q (T.setTop g) := by
  obtain ⟨fs, hr, hrun, hended, hF⟩ := hE v hv
  exact ⟨_, _, st fs hr, hrun, hended, _, _, rfl, hQ, hF⟩
theorem own_mono (X : Stand p l e R s m args below meth c T locs cells slots) {cells' slots' : Nat} (hc : cells ≤ cells') (hs : slots ≤ slots') : Stand p l e R s m args below meth c T locs cells' slots' :=
  ⟨X.admits, X.cas, X.clock, X.frames, X.room, X.hears, X.method, X.code, X.here, X.tail, X.warmed, X.limits, X.bytes, X.same.mono hc hs⟩
theorem retI (X : Stand p l e R s m args below meth c T locs cells slots) (hx : p.tables.exec = Jvm.exec) {pc : Nat} {Ls : Array Slot} {z : Int32} {rest : List Value} (hret : meth.sig.returnType = some .int) (hd : decode c.code pc = .ok (.ireturn, 1)) {fs : List Frame}
    (hl : ∀ (f : JFrame) (acts : List Action), f.method = m → f.locked = none → f.entered = [] → (doReturn e (T.setTop f) acts (some (.int z))).1 = T.setFrames fs) : Steps p.tables e below (T.setTop (mkF m pc Ls (.int z :: rest))) (T.setFrames fs) := by
  have hm' : T.vm.method? m = some meth := X.method'
  have hn : narrow .int (.int z) = .int z := rfl
  show Steps p.tables e below (T.setTop { method := m, pc := pc, locals := Ls, stack := _ :: rest, locked := none }) _
  jvm_step X.here [X.here.top, hx, hd, hm', hret, hn]
  first | (intro acts; rw [hl _ acts rfl rfl rfl]) | rw [hl _ _ rfl rfl rfl]
  exact Steps.refl _
theorem o_retI (X : Stand p l e R s m args below meth c T locs cells slots) (hx : p.tables.exec = Jvm.exec) (hret : meth.sig.returnType = some .int) (hE : Lv e below Φ m meth T locs) (hd : decode c.code pc = .ok (.ireturn, 1)) {z : Int32} (hQ : Q (some (.int z)) T.heap locs) : OG p e below Φ Q (T.setTop (mkF m pc L (.int z :: S))) :=
  og_end hE (fun h => by rw [hret] at h; cases h) (fun fs hr => retI X hx hret hd hr) hQ
theorem o_retN (X : Stand p l e R s m args below meth c T locs cells slots) (hx : p.tables.exec = Jvm.exec) {t : FieldType} (hret : meth.sig.returnType = some t) (ht : t = .boolean ∨ t = .byte ∨ t = .char ∨ t = .short) (hE : Lv e below Φ m meth T locs) (hd : decode c.code pc = .ok (.ireturn, 1)) {z : Int32} (hQ : Q (some (.int (nar t z))) T.heap locs) : OG p e below Φ Q (T.setTop (mkF m pc L (.int z :: S))) :=
  og_end hE (fun h => by rw [hret] at h; cases h) (fun fs hr => retN X hx hret ht hd hr) hQ
theorem o_retB (X : Stand p l e R s m args below meth c T locs cells slots) (hx : p.tables.exec = Jvm.exec) (hret : meth.sig.returnType = some .boolean) (hE : Lv e below Φ m meth T locs) (hd : decode c.code pc = .ok (.ireturn, 1)) {z : Int32} (hz : z = 0 ∨ z = 1) (hQ : Q (some (.int z)) T.heap locs) : OG p e below Φ Q (T.setTop (mkF m pc L (.int z :: S))) :=
  o_retN X hx hret (Or.inl rfl) hE hd (by have q : nar .boolean z = z := by { rcases hz with rfl | rfl <;> rfl }; rw [q]; exact hQ)
theorem o_retL (X : Stand p l e R s m args below meth c T locs cells slots) (hx : p.tables.exec = Jvm.exec) (hret : meth.sig.returnType = some .long) (hE : Lv e below Φ m meth T locs) (hd : decode c.code pc = .ok (.lreturn, 1)) {z : Int64} (hQ : Q (some (.long z)) T.heap locs) : OG p e below Φ Q (T.setTop (mkF m pc L (.long z :: S))) :=
  og_end hE (fun h => by rw [hret] at h; cases h) (fun fs hr => retOut X hx hret rfl (Or.inr (Or.inl ⟨rfl, rfl, z, rfl⟩)) hd hr) hQ
theorem o_retA (X : Stand p l e R s m args below meth c T locs cells slots) (hx : p.tables.exec = Jvm.exec) {t : FieldType} (hret : meth.sig.returnType = some t) (ht : t.isReference = true) (hE : Lv e below Φ m meth T locs) (hd : decode c.code pc = .ok (.areturn, 1)) {w : Value} (hw : w.isRef = true) (hnw : narrow t w = w) (hQ : Q (some w) T.heap locs) : OG p e below Φ Q (T.setTop (mkF m pc L (w :: S))) :=
  og_end hE (fun h => by rw [hret] at h; cases h) (fun fs hr => retOut X hx hret hnw (Or.inr (Or.inr (Or.inr (Or.inr ⟨rfl, ht, hw⟩)))) hd hr) hQ
theorem o_ret0 (X : Stand p l e R s m args below meth c T locs cells slots) (hx : p.tables.exec = Jvm.exec) (hret : meth.sig.returnType = none) (hE : Lv e below Φ m meth T locs) (hd : decode c.code pc = .ok (.return_, 1)) (hQ : Q none T.heap locs) : OG p e below Φ Q (T.setTop (mkF m pc L [])) :=
  og_end hE (fun _ => rfl) (fun fs hr => X.returnOut hx hret hd hr) hQ
theorem lcY_eq {x y : Int64} (h : x = y) : ifCond.holds .eq (lcmpW x y) = true ∧ ifCond.holds .ne (lcmpW x y) = false := ⟨(if0 _ _).trans (teq ((lw_eq x y).mpr h)).1, (if0 _ _).trans (teq ((lw_eq x y).mpr h)).2⟩
theorem lcN_eq {x y : Int64} (h : ¬ x = y) : ifCond.holds .eq (lcmpW x y) = false ∧ ifCond.holds .ne (lcmpW x y) = true := ⟨(if0 _ _).trans (feq (mt (lw_eq x y).mp h)).1, (if0 _ _).trans (feq (mt (lw_eq x y).mp h)).2⟩
theorem lcY_lt {x y : Int64} (h : x < y) : ifCond.holds .lt (lcmpW x y) = true ∧ ifCond.holds .ge (lcmpW x y) = false := ⟨(if0 _ _).trans (tlt ((lw_lt x y).mpr h)).1, (if0 _ _).trans (tlt ((lw_lt x y).mpr h)).2.1⟩
theorem lcN_lt {x y : Int64} (h : ¬ x < y) : ifCond.holds .lt (lcmpW x y) = false ∧ ifCond.holds .ge (lcmpW x y) = true := ⟨(if0 _ _).trans (flt (mt (lw_lt x y).mp h)).1, (if0 _ _).trans (flt (mt (lw_lt x y).mp h)).2.1⟩
theorem lcY_gt {x y : Int64} (h : y < x) : ifCond.holds .gt (lcmpW x y) = true ∧ ifCond.holds .le (lcmpW x y) = false := ⟨(if0 _ _).trans (tlt ((lw_gt x y).mpr h)).2.2.1, (if0 _ _).trans (tlt ((lw_gt x y).mpr h)).2.2.2⟩
theorem lcN_gt {x y : Int64} (h : ¬ y < x) : ifCond.holds .gt (lcmpW x y) = false ∧ ifCond.holds .le (lcmpW x y) = true := ⟨(if0 _ _).trans (flt (mt (lw_gt x y).mp h)).2.2.1, (if0 _ _).trans (flt (mt (lw_gt x y).mp h)).2.2.2⟩
theorem o_iloadN (X : Stand p l e R s m args below meth c T locs cells slots) (hx : p.tables.exec = Jvm.exec) {i : Fin 4} {v : Int32} (hp : pc + 1 = pc') (hd : decode c.code pc = .ok (.iload_n i, 1)) (hl : L[i.val]? = some (.val (.int v))) (G : OG p e below Φ Q (T.setTop (mkF m pc' L (.int v :: S)))) : OG p e below Φ Q (T.setTop (mkF m pc L S)) := by
  subst hp; exact og_of (fun _ st => XS.iloadN X.here hx rfl hd hl st) G
theorem o_iload (X : Stand p l e R s m args below meth c T locs cells slots) (hx : p.tables.exec = Jvm.exec) {i : Nat} {v : Int32} (hp : pc + 2 = pc') (hd : decode c.code pc = .ok (.iload i, 2)) (hl : L[i]? = some (.val (.int v))) (G : OG p e below Φ Q (T.setTop (mkF m pc' L (.int v :: S)))) : OG p e below Φ Q (T.setTop (mkF m pc L S)) := by
  subst hp; exact og_of (fun _ st => XS.iload X.here hx rfl hd hl st) G
theorem o_istoreN (X : Stand p l e R s m args below meth c T locs cells slots) (hx : p.tables.exec = Jvm.exec) {i : Fin 4} {v : Int32} (hp : pc + 1 = pc') (hd : decode c.code pc = .ok (.istore_n i, 1)) (hl : storeLocals L i.val (.int v) = some L') (G : OG p e below Φ Q (T.setTop (mkF m pc' L' S))) : OG p e below Φ Q (T.setTop (mkF m pc L (.int v :: S))) := by
  subst hp; exact og_of (fun _ st => XS.istoreN X.here hx rfl hd rfl hl st) G
theorem o_istore (X : Stand p l e R s m args below meth c T locs cells slots) (hx : p.tables.exec = Jvm.exec) {i : Nat} {v : Int32} (hp : pc + 2 = pc') (hd : decode c.code pc = .ok (.istore i, 2)) (hl : storeLocals L i (.int v) = some L') (G : OG p e below Φ Q (T.setTop (mkF m pc' L' S))) : OG p e below Φ Q (T.setTop (mkF m pc L (.int v :: S))) := by
  subst hp; exact og_of (fun _ st => XS.istore X.here hx rfl hd rfl hl st) G
theorem o_lloadN (X : Stand p l e R s m args below meth c T locs cells slots) (hx : p.tables.exec = Jvm.exec) {i : Fin 4} {v : Int64} (hp : pc + 1 = pc') (hd : decode c.code pc = .ok (.lload_n i, 1)) (hl : L[i.val]? = some (.val (.long v))) (G : OG p e below Φ Q (T.setTop (mkF m pc' L (.long v :: S)))) : OG p e below Φ Q (T.setTop (mkF m pc L S)) := by
  subst hp; exact og_of (fun _ st => XS.lloadN X.here hx rfl hd hl st) G
theorem o_lload (X : Stand p l e R s m args below meth c T locs cells slots) (hx : p.tables.exec = Jvm.exec) {i : Nat} {v : Int64} (hp : pc + 2 = pc') (hd : decode c.code pc = .ok (.lload i, 2)) (hl : L[i]? = some (.val (.long v))) (G : OG p e below Φ Q (T.setTop (mkF m pc' L (.long v :: S)))) : OG p e below Φ Q (T.setTop (mkF m pc L S)) := by
  subst hp; exact og_of (fun _ st => XS.lload X.here hx rfl hd hl st) G
theorem o_lstoreN (X : Stand p l e R s m args below meth c T locs cells slots) (hx : p.tables.exec = Jvm.exec) {i : Fin 4} {v : Int64} (hp : pc + 1 = pc') (hd : decode c.code pc = .ok (.lstore_n i, 1)) (hl : storeLocals L i.val (.long v) = some L') (G : OG p e below Φ Q (T.setTop (mkF m pc' L' S))) : OG p e below Φ Q (T.setTop (mkF m pc L (.long v :: S))) := by
  subst hp; exact og_of (fun _ st => XS.lstoreN X.here hx rfl hd rfl hl st) G
theorem o_lstore (X : Stand p l e R s m args below meth c T locs cells slots) (hx : p.tables.exec = Jvm.exec) {i : Nat} {v : Int64} (hp : pc + 2 = pc') (hd : decode c.code pc = .ok (.lstore i, 2)) (hl : storeLocals L i (.long v) = some L') (G : OG p e below Φ Q (T.setTop (mkF m pc' L' S))) : OG p e below Φ Q (T.setTop (mkF m pc L (.long v :: S))) := by
  subst hp; exact og_of (fun _ st => XS.lstore X.here hx rfl hd rfl hl st) G
theorem o_aloadN (X : Stand p l e R s m args below meth c T locs cells slots) (hx : p.tables.exec = Jvm.exec) {i : Fin 4} {v : Value} (hp : pc + 1 = pc') (hd : decode c.code pc = .ok (.aload_n i, 1)) (hl : L[i.val]? = some (.val v)) (hv : v.isRef = true) (G : OG p e below Φ Q (T.setTop (mkF m pc' L (v :: S)))) : OG p e below Φ Q (T.setTop (mkF m pc L S)) := by
  subst hp; exact og_of (fun _ st => XS.aloadN X.here hx rfl hd hl hv st) G
theorem o_aload (X : Stand p l e R s m args below meth c T locs cells slots) (hx : p.tables.exec = Jvm.exec) {i : Nat} {v : Value} (hp : pc + 2 = pc') (hd : decode c.code pc = .ok (.aload i, 2)) (hl : L[i]? = some (.val v)) (hv : v.isRef = true) (G : OG p e below Φ Q (T.setTop (mkF m pc' L (v :: S)))) : OG p e below Φ Q (T.setTop (mkF m pc L S)) := by
  subst hp; exact og_of (fun _ st => XS.aload X.here hx rfl hd hl hv st) G
theorem o_astoreN (X : Stand p l e R s m args below meth c T locs cells slots) (hx : p.tables.exec = Jvm.exec) {i : Fin 4} {v : Value} (hp : pc + 1 = pc') (hd : decode c.code pc = .ok (.astore_n i, 1)) (hv : v.isRef = true) (hl : storeLocals L i.val v = some L') (G : OG p e below Φ Q (T.setTop (mkF m pc' L' S))) : OG p e below Φ Q (T.setTop (mkF m pc L (v :: S))) := by
  subst hp; exact og_of (fun _ st => XS.astoreN X.here hx rfl hd rfl hv hl st) G
theorem o_astore (X : Stand p l e R s m args below meth c T locs cells slots) (hx : p.tables.exec = Jvm.exec) {i : Nat} {v : Value} (hp : pc + 2 = pc') (hd : decode c.code pc = .ok (.astore i, 2)) (hv : v.isRef = true) (hl : storeLocals L i v = some L') (G : OG p e below Φ Q (T.setTop (mkF m pc' L' S))) : OG p e below Φ Q (T.setTop (mkF m pc L (v :: S))) := by
  subst hp; exact og_of (fun _ st => XS.astore X.here hx rfl hd rfl hv hl st) G
theorem o_iconst (X : Stand p l e R s m args below meth c T locs cells slots) (hx : p.tables.exec = Jvm.exec) {i : Int} {z : Int32} (hp : pc + 1 = pc') (hd : decode c.code pc = .ok (.iconst i, 1)) (hz : Int32.ofInt i = z) (G : OG p e below Φ Q (T.setTop (mkF m pc' L (.int z :: S)))) : OG p e below Φ Q (T.setTop (mkF m pc L S)) := by
  subst hp hz; exact og_of (fun _ st => XS.iconst X.here hx rfl hd st) G
theorem o_bipush (X : Stand p l e R s m args below meth c T locs cells slots) (hx : p.tables.exec = Jvm.exec) {i : Int} {z : Int32} (hp : pc + 2 = pc') (hd : decode c.code pc = .ok (.bipush i, 2)) (hz : (Int8.ofInt i).toInt32 = z) (G : OG p e below Φ Q (T.setTop (mkF m pc' L (.int z :: S)))) : OG p e below Φ Q (T.setTop (mkF m pc L S)) := by
  subst hp hz; exact og_of (fun _ st => XS.bipush X.here hx rfl hd st) G
theorem o_sipush (X : Stand p l e R s m args below meth c T locs cells slots) (hx : p.tables.exec = Jvm.exec) {i : Int} {z : Int32} (hp : pc + 3 = pc') (hd : decode c.code pc = .ok (.sipush i, 3)) (hz : (Int16.ofInt i).toInt32 = z) (G : OG p e below Φ Q (T.setTop (mkF m pc' L (.int z :: S)))) : OG p e below Φ Q (T.setTop (mkF m pc L S)) := by
  subst hp hz; exact og_of (fun _ st => XS.sipush X.here hx rfl hd st) G
theorem o_lconst (X : Stand p l e R s m args below meth c T locs cells slots) (hx : p.tables.exec = Jvm.exec) {i : Fin 2} {z : Int64} (hp : pc + 1 = pc') (hd : decode c.code pc = .ok (.lconst i, 1)) (hz : Int64.ofNat i = z) (G : OG p e below Φ Q (T.setTop (mkF m pc' L (.long z :: S)))) : OG p e below Φ Q (T.setTop (mkF m pc L S)) := by
  subst hp hz; exact og_of (fun _ st => XS.lconst X.here hx rfl hd st) G
theorem o_aconst_null (X : Stand p l e R s m args below meth c T locs cells slots) (hx : p.tables.exec = Jvm.exec) (hp : pc + 1 = pc') (hd : decode c.code pc = .ok (.aconst_null, 1))  (G : OG p e below Φ Q (T.setTop (mkF m pc' L (.null :: S)))) : OG p e below Φ Q (T.setTop (mkF m pc L S)) := by
  subst hp; exact og_of (fun _ st => XS.aconstNull X.here hx rfl hd st) G
theorem o_iadd (X : Stand p l e R s m args below meth c T locs cells slots) (hx : p.tables.exec = Jvm.exec) {x : Int32} {y : Int32} {z : Int32} (hp : pc + 1 = pc') (hd : decode c.code pc = .ok (.iadd, 1)) (hz : x + y = z) (G : OG p e below Φ Q (T.setTop (mkF m pc' L (.int z :: S)))) : OG p e below Φ Q (T.setTop (mkF m pc L (.int y :: .int x :: S))) := by
  subst hp hz; exact og_of (fun _ st => XS.iadd X.here hx rfl hd rfl st) G
theorem o_ladd (X : Stand p l e R s m args below meth c T locs cells slots) (hx : p.tables.exec = Jvm.exec) {x : Int64} {y : Int64} {z : Int64} (hp : pc + 1 = pc') (hd : decode c.code pc = .ok (.ladd, 1)) (hz : x + y = z) (G : OG p e below Φ Q (T.setTop (mkF m pc' L (.long z :: S)))) : OG p e below Φ Q (T.setTop (mkF m pc L (.long y :: .long x :: S))) := by
  subst hp hz; exact og_of (fun _ st => XS.ladd X.here hx rfl hd rfl st) G
theorem o_isub (X : Stand p l e R s m args below meth c T locs cells slots) (hx : p.tables.exec = Jvm.exec) {x : Int32} {y : Int32} {z : Int32} (hp : pc + 1 = pc') (hd : decode c.code pc = .ok (.isub, 1)) (hz : x - y = z) (G : OG p e below Φ Q (T.setTop (mkF m pc' L (.int z :: S)))) : OG p e below Φ Q (T.setTop (mkF m pc L (.int y :: .int x :: S))) := by
  subst hp hz; exact og_of (fun _ st => XS.isub X.here hx rfl hd rfl st) G
theorem o_lsub (X : Stand p l e R s m args below meth c T locs cells slots) (hx : p.tables.exec = Jvm.exec) {x : Int64} {y : Int64} {z : Int64} (hp : pc + 1 = pc') (hd : decode c.code pc = .ok (.lsub, 1)) (hz : x - y = z) (G : OG p e below Φ Q (T.setTop (mkF m pc' L (.long z :: S)))) : OG p e below Φ Q (T.setTop (mkF m pc L (.long y :: .long x :: S))) := by
  subst hp hz; exact og_of (fun _ st => XS.lsub X.here hx rfl hd rfl st) G
theorem o_imul (X : Stand p l e R s m args below meth c T locs cells slots) (hx : p.tables.exec = Jvm.exec) {x : Int32} {y : Int32} {z : Int32} (hp : pc + 1 = pc') (hd : decode c.code pc = .ok (.imul, 1)) (hz : x * y = z) (G : OG p e below Φ Q (T.setTop (mkF m pc' L (.int z :: S)))) : OG p e below Φ Q (T.setTop (mkF m pc L (.int y :: .int x :: S))) := by
  subst hp hz; exact og_of (fun _ st => XS.imul X.here hx rfl hd rfl st) G
theorem o_lmul (X : Stand p l e R s m args below meth c T locs cells slots) (hx : p.tables.exec = Jvm.exec) {x : Int64} {y : Int64} {z : Int64} (hp : pc + 1 = pc') (hd : decode c.code pc = .ok (.lmul, 1)) (hz : x * y = z) (G : OG p e below Φ Q (T.setTop (mkF m pc' L (.long z :: S)))) : OG p e below Φ Q (T.setTop (mkF m pc L (.long y :: .long x :: S))) := by
  subst hp hz; exact og_of (fun _ st => XS.lmul X.here hx rfl hd rfl st) G
theorem o_iand (X : Stand p l e R s m args below meth c T locs cells slots) (hx : p.tables.exec = Jvm.exec) {x : Int32} {y : Int32} {z : Int32} (hp : pc + 1 = pc') (hd : decode c.code pc = .ok (.iand, 1)) (hz : x &&& y = z) (G : OG p e below Φ Q (T.setTop (mkF m pc' L (.int z :: S)))) : OG p e below Φ Q (T.setTop (mkF m pc L (.int y :: .int x :: S))) := by
  subst hp hz; exact og_of (fun _ st => XS.iand X.here hx rfl hd rfl st) G
theorem o_land (X : Stand p l e R s m args below meth c T locs cells slots) (hx : p.tables.exec = Jvm.exec) {x : Int64} {y : Int64} {z : Int64} (hp : pc + 1 = pc') (hd : decode c.code pc = .ok (.land, 1)) (hz : x &&& y = z) (G : OG p e below Φ Q (T.setTop (mkF m pc' L (.long z :: S)))) : OG p e below Φ Q (T.setTop (mkF m pc L (.long y :: .long x :: S))) := by
  subst hp hz; exact og_of (fun _ st => XS.land X.here hx rfl hd rfl st) G
theorem o_ior (X : Stand p l e R s m args below meth c T locs cells slots) (hx : p.tables.exec = Jvm.exec) {x : Int32} {y : Int32} {z : Int32} (hp : pc + 1 = pc') (hd : decode c.code pc = .ok (.ior, 1)) (hz : x ||| y = z) (G : OG p e below Φ Q (T.setTop (mkF m pc' L (.int z :: S)))) : OG p e below Φ Q (T.setTop (mkF m pc L (.int y :: .int x :: S))) := by
  subst hp hz; exact og_of (fun _ st => XS.ior X.here hx rfl hd rfl st) G
theorem o_lor (X : Stand p l e R s m args below meth c T locs cells slots) (hx : p.tables.exec = Jvm.exec) {x : Int64} {y : Int64} {z : Int64} (hp : pc + 1 = pc') (hd : decode c.code pc = .ok (.lor, 1)) (hz : x ||| y = z) (G : OG p e below Φ Q (T.setTop (mkF m pc' L (.long z :: S)))) : OG p e below Φ Q (T.setTop (mkF m pc L (.long y :: .long x :: S))) := by
  subst hp hz; exact og_of (fun _ st => XS.lor X.here hx rfl hd rfl st) G
theorem o_ixor (X : Stand p l e R s m args below meth c T locs cells slots) (hx : p.tables.exec = Jvm.exec) {x : Int32} {y : Int32} {z : Int32} (hp : pc + 1 = pc') (hd : decode c.code pc = .ok (.ixor, 1)) (hz : x ^^^ y = z) (G : OG p e below Φ Q (T.setTop (mkF m pc' L (.int z :: S)))) : OG p e below Φ Q (T.setTop (mkF m pc L (.int y :: .int x :: S))) := by
  subst hp hz; exact og_of (fun _ st => XS.ixor X.here hx rfl hd rfl st) G
theorem o_lxor (X : Stand p l e R s m args below meth c T locs cells slots) (hx : p.tables.exec = Jvm.exec) {x : Int64} {y : Int64} {z : Int64} (hp : pc + 1 = pc') (hd : decode c.code pc = .ok (.lxor, 1)) (hz : x ^^^ y = z) (G : OG p e below Φ Q (T.setTop (mkF m pc' L (.long z :: S)))) : OG p e below Φ Q (T.setTop (mkF m pc L (.long y :: .long x :: S))) := by
  subst hp hz; exact og_of (fun _ st => XS.lxor X.here hx rfl hd rfl st) G
theorem o_ishl (X : Stand p l e R s m args below meth c T locs cells slots) (hx : p.tables.exec = Jvm.exec) {x : Int32} {y : Int32} {z : Int32} (hp : pc + 1 = pc') (hd : decode c.code pc = .ok (.ishl, 1)) (hz : x <<< (y &&& 31) = z) (G : OG p e below Φ Q (T.setTop (mkF m pc' L (.int z :: S)))) : OG p e below Φ Q (T.setTop (mkF m pc L (.int y :: .int x :: S))) := by
  subst hp hz; exact og_of (fun _ st => XS.ishl X.here hx rfl hd rfl st) G
theorem o_ishr (X : Stand p l e R s m args below meth c T locs cells slots) (hx : p.tables.exec = Jvm.exec) {x : Int32} {y : Int32} {z : Int32} (hp : pc + 1 = pc') (hd : decode c.code pc = .ok (.ishr, 1)) (hz : x >>> (y &&& 31) = z) (G : OG p e below Φ Q (T.setTop (mkF m pc' L (.int z :: S)))) : OG p e below Φ Q (T.setTop (mkF m pc L (.int y :: .int x :: S))) := by
  subst hp hz; exact og_of (fun _ st => XS.ishr X.here hx rfl hd rfl st) G
theorem o_iushr (X : Stand p l e R s m args below meth c T locs cells slots) (hx : p.tables.exec = Jvm.exec) {x : Int32} {y : Int32} {z : Int32} (hp : pc + 1 = pc') (hd : decode c.code pc = .ok (.iushr, 1)) (hz : (x.toUInt32 >>> (y &&& 31).toUInt32).toInt32 = z) (G : OG p e below Φ Q (T.setTop (mkF m pc' L (.int z :: S)))) : OG p e below Φ Q (T.setTop (mkF m pc L (.int y :: .int x :: S))) := by
  subst hp hz; exact og_of (fun _ st => XS.iushr X.here hx rfl hd rfl st) G
theorem o_lshl (X : Stand p l e R s m args below meth c T locs cells slots) (hx : p.tables.exec = Jvm.exec) {x : Int64} {y : Int32} {z : Int64} (hp : pc + 1 = pc') (hd : decode c.code pc = .ok (.lshl, 1)) (hz : x <<< (y &&& 0x3f).toInt64 = z) (G : OG p e below Φ Q (T.setTop (mkF m pc' L (.long z :: S)))) : OG p e below Φ Q (T.setTop (mkF m pc L (.int y :: .long x :: S))) := by
  subst hp hz; exact og_of (fun _ st => XS.lshl X.here hx rfl hd rfl st) G
theorem o_lshr (X : Stand p l e R s m args below meth c T locs cells slots) (hx : p.tables.exec = Jvm.exec) {x : Int64} {y : Int32} {z : Int64} (hp : pc + 1 = pc') (hd : decode c.code pc = .ok (.lshr, 1)) (hz : x >>> (y &&& 0x3f).toInt64 = z) (G : OG p e below Φ Q (T.setTop (mkF m pc' L (.long z :: S)))) : OG p e below Φ Q (T.setTop (mkF m pc L (.int y :: .long x :: S))) := by
  subst hp hz; exact og_of (fun _ st => XS.lshr X.here hx rfl hd rfl st) G
theorem o_lushr (X : Stand p l e R s m args below meth c T locs cells slots) (hx : p.tables.exec = Jvm.exec) {x : Int64} {y : Int32} {z : Int64} (hp : pc + 1 = pc') (hd : decode c.code pc = .ok (.lushr, 1)) (hz : (x.toUInt64 >>> (y &&& 0x3f).toInt64.toUInt64).toInt64 = z) (G : OG p e below Φ Q (T.setTop (mkF m pc' L (.long z :: S)))) : OG p e below Φ Q (T.setTop (mkF m pc L (.int y :: .long x :: S))) := by
  subst hp hz; exact og_of (fun _ st => XS.lushr X.here hx rfl hd rfl st) G
theorem o_idiv (X : Stand p l e R s m args below meth c T locs cells slots) (hx : p.tables.exec = Jvm.exec) {x : Int32} {y : Int32} {z : Int32} (hp : pc + 1 = pc') (hd : decode c.code pc = .ok (.idiv, 1)) (hz : x / y = z) (hy : y ≠ 0) (G : OG p e below Φ Q (T.setTop (mkF m pc' L (.int z :: S)))) : OG p e below Φ Q (T.setTop (mkF m pc L (.int y :: .int x :: S))) := by
  subst hp hz; exact og_of (fun _ st => XS.idiv X.here hx rfl hd rfl hy st) G
theorem o_ldiv (X : Stand p l e R s m args below meth c T locs cells slots) (hx : p.tables.exec = Jvm.exec) {x : Int64} {y : Int64} {z : Int64} (hp : pc + 1 = pc') (hd : decode c.code pc = .ok (.ldiv, 1)) (hz : x / y = z) (hy : y ≠ 0) (G : OG p e below Φ Q (T.setTop (mkF m pc' L (.long z :: S)))) : OG p e below Φ Q (T.setTop (mkF m pc L (.long y :: .long x :: S))) := by
  subst hp hz; exact og_of (fun _ st => XS.ldiv X.here hx rfl hd rfl hy st) G
theorem o_irem (X : Stand p l e R s m args below meth c T locs cells slots) (hx : p.tables.exec = Jvm.exec) {x y z : Int32} (hp : pc + 1 = pc') (hd : decode c.code pc = .ok (.irem, 1)) (hz : x % y = z) (hy : y ≠ 0) (G : OG p e below Φ Q (T.setTop (mkF m pc' L (.int z :: S)))) : OG p e below Φ Q (T.setTop (mkF m pc L (.int y :: .int x :: S))) := by
  subst hp hz; exact og_of (fun _ st => XS.irem X.here hx rfl hd rfl hy (by rw [irem_eq_mod x y]; exact st)) G
theorem o_lrem (X : Stand p l e R s m args below meth c T locs cells slots) (hx : p.tables.exec = Jvm.exec) {x y z : Int64} (hp : pc + 1 = pc') (hd : decode c.code pc = .ok (.lrem, 1)) (hz : x % y = z) (hy : y ≠ 0) (G : OG p e below Φ Q (T.setTop (mkF m pc' L (.long z :: S)))) : OG p e below Φ Q (T.setTop (mkF m pc L (.long y :: .long x :: S))) := by
  subst hp hz; exact og_of (fun _ st => XS.lrem X.here hx rfl hd rfl hy (by rw [lrem_mod x y]; exact st)) G
theorem o_ineg (X : Stand p l e R s m args below meth c T locs cells slots) (hx : p.tables.exec = Jvm.exec) {x : Int32} {z : Int32} (hp : pc + 1 = pc') (hd : decode c.code pc = .ok (.ineg, 1)) (hz : -x = z) (G : OG p e below Φ Q (T.setTop (mkF m pc' L (.int z :: S)))) : OG p e below Φ Q (T.setTop (mkF m pc L (.int x :: S))) := by
  subst hp hz; exact og_of (fun _ st => XS.ineg X.here hx rfl hd rfl st) G
theorem o_lneg (X : Stand p l e R s m args below meth c T locs cells slots) (hx : p.tables.exec = Jvm.exec) {x : Int64} {z : Int64} (hp : pc + 1 = pc') (hd : decode c.code pc = .ok (.lneg, 1)) (hz : -x = z) (G : OG p e below Φ Q (T.setTop (mkF m pc' L (.long z :: S)))) : OG p e below Φ Q (T.setTop (mkF m pc L (.long x :: S))) := by
  subst hp hz; exact og_of (fun _ st => XS.lneg X.here hx rfl hd rfl st) G
theorem o_i2l (X : Stand p l e R s m args below meth c T locs cells slots) (hx : p.tables.exec = Jvm.exec) {x : Int32} {z : Int64} (hp : pc + 1 = pc') (hd : decode c.code pc = .ok (.i2l, 1)) (hz : x.toInt64 = z) (G : OG p e below Φ Q (T.setTop (mkF m pc' L (.long z :: S)))) : OG p e below Φ Q (T.setTop (mkF m pc L (.int x :: S))) := by
  subst hp hz; exact og_of (fun _ st => XS.i2l X.here hx rfl hd rfl st) G
theorem o_l2i (X : Stand p l e R s m args below meth c T locs cells slots) (hx : p.tables.exec = Jvm.exec) {x : Int64} {z : Int32} (hp : pc + 1 = pc') (hd : decode c.code pc = .ok (.l2i, 1)) (hz : x.toInt32 = z) (G : OG p e below Φ Q (T.setTop (mkF m pc' L (.int z :: S)))) : OG p e below Φ Q (T.setTop (mkF m pc L (.long x :: S))) := by
  subst hp hz; exact og_of (fun _ st => XS.l2i X.here hx rfl hd rfl st) G
theorem o_i2b (X : Stand p l e R s m args below meth c T locs cells slots) (hx : p.tables.exec = Jvm.exec) {x : Int32} {z : Int32} (hp : pc + 1 = pc') (hd : decode c.code pc = .ok (.i2b, 1)) (hz : x.toInt8.toInt32 = z) (G : OG p e below Φ Q (T.setTop (mkF m pc' L (.int z :: S)))) : OG p e below Φ Q (T.setTop (mkF m pc L (.int x :: S))) := by
  subst hp hz; exact og_of (fun _ st => XS.i2b X.here hx rfl hd rfl st) G
theorem o_i2s (X : Stand p l e R s m args below meth c T locs cells slots) (hx : p.tables.exec = Jvm.exec) {x : Int32} {z : Int32} (hp : pc + 1 = pc') (hd : decode c.code pc = .ok (.i2s, 1)) (hz : x.toInt16.toInt32 = z) (G : OG p e below Φ Q (T.setTop (mkF m pc' L (.int z :: S)))) : OG p e below Φ Q (T.setTop (mkF m pc L (.int x :: S))) := by
  subst hp hz; exact og_of (fun _ st => XS.i2s X.here hx rfl hd rfl st) G
theorem o_i2c (X : Stand p l e R s m args below meth c T locs cells slots) (hx : p.tables.exec = Jvm.exec) {x : Int32} {z : Int32} (hp : pc + 1 = pc') (hd : decode c.code pc = .ok (.i2c, 1)) (hz : x.toUInt32.toUInt16.toUInt32.toInt32 = z) (G : OG p e below Φ Q (T.setTop (mkF m pc' L (.int z :: S)))) : OG p e below Φ Q (T.setTop (mkF m pc L (.int x :: S))) := by
  subst hp hz; exact og_of (fun _ st => XS.i2c X.here hx rfl hd rfl st) G
theorem o_lcmp (X : Stand p l e R s m args below meth c T locs cells slots) (hx : p.tables.exec = Jvm.exec) {x y : Int64} (hp : pc + 1 = pc') (hd : decode c.code pc = .ok (.lcmp, 1))  (G : OG p e below Φ Q (T.setTop (mkF m pc' L (.int (lcmpW x y) :: S)))) : OG p e below Φ Q (T.setTop (mkF m pc L (.long y :: .long x :: S))) := by
  subst hp; exact og_of (fun _ st => XS.lcmp X.here hx rfl hd rfl st) G
theorem o_dup (X : Stand p l e R s m args below meth c T locs cells slots) (hx : p.tables.exec = Jvm.exec) {v : Value} (hp : pc + 1 = pc') (hd : decode c.code pc = .ok (.dup, 1)) (hc : v.category = 1) (G : OG p e below Φ Q (T.setTop (mkF m pc' L (v :: v :: S)))) : OG p e below Φ Q (T.setTop (mkF m pc L (v :: S))) := by
  subst hp; exact og_of (fun _ st => XS.dup X.here hx rfl hd rfl hc st) G
theorem o_pop (X : Stand p l e R s m args below meth c T locs cells slots) (hx : p.tables.exec = Jvm.exec) {v : Value} (hp : pc + 1 = pc') (hd : decode c.code pc = .ok (.pop, 1)) (hc : v.category = 1) (G : OG p e below Φ Q (T.setTop (mkF m pc' L S))) : OG p e below Φ Q (T.setTop (mkF m pc L (v :: S))) := by
  subst hp; exact og_of (fun _ st => XS.pop X.here hx rfl hd rfl hc st) G
theorem o_dup_x1 (X : Stand p l e R s m args below meth c T locs cells slots) (hx : p.tables.exec = Jvm.exec) {v w : Value} (hp : pc + 1 = pc') (hd : decode c.code pc = .ok (.dup_x1, 1)) (hc : v.category = 1) (hc2 : w.category = 1) (G : OG p e below Φ Q (T.setTop (mkF m pc' L (v :: w :: v :: S)))) : OG p e below Φ Q (T.setTop (mkF m pc L (v :: w :: S))) := by
  subst hp; exact og_of (fun _ st => XS.dupX1 X.here hx rfl hd rfl hc hc2 st) G
theorem o_dup2 (X : Stand p l e R s m args below meth c T locs cells slots) (hx : p.tables.exec = Jvm.exec) {v w : Value} (hp : pc + 1 = pc') (hd : decode c.code pc = .ok (.dup2, 1)) (hc : v.category = 1) (hc2 : w.category = 1) (G : OG p e below Φ Q (T.setTop (mkF m pc' L (v :: w :: v :: w :: S)))) : OG p e below Φ Q (T.setTop (mkF m pc L (v :: w :: S))) := by
  subst hp; exact og_of (fun _ st => XT.dup2 X.here hx rfl hd rfl hc hc2 st) G
theorem o_dup2L (X : Stand p l e R s m args below meth c T locs cells slots) (hx : p.tables.exec = Jvm.exec) {v : Int64} (hp : pc + 1 = pc') (hd : decode c.code pc = .ok (.dup2, 1))  (G : OG p e below Φ Q (T.setTop (mkF m pc' L (.long v :: .long v :: S)))) : OG p e below Φ Q (T.setTop (mkF m pc L (.long v :: S))) := by
  subst hp; exact og_of (fun _ st => XT.dup2L X.here hx rfl hd rfl st) G
theorem o_dup_x2 (X : Stand p l e R s m args below meth c T locs cells slots) (hx : p.tables.exec = Jvm.exec) {u v w : Value} (hp : pc + 1 = pc') (hd : decode c.code pc = .ok (.dup_x2, 1)) (hu : u.category = 1) (hv : v.category = 1) (hw : w.category = 1) (G : OG p e below Φ Q (T.setTop (mkF m pc' L (u :: v :: w :: u :: S)))) : OG p e below Φ Q (T.setTop (mkF m pc L (u :: v :: w :: S))) := by
  subst hp; refine og_of (fun _ st => ?_) G
  jvm_step X.here [X.here.top, hx, hd, hu, hv, hw]
  exact st
theorem o_iinc (X : Stand p l e R s m args below meth c T locs cells slots) (hx : p.tables.exec = Jvm.exec) {i : Nat} {cst : Int} {x z : Int32} (hp : pc + 3 = pc') (hd : decode c.code pc = .ok (.iinc i cst, 3)) (hl : L[i]? = some (.val (.int x))) (hz : x + Int32.ofInt cst = z) (hl' : storeLocals L i (.int z) = some L') (G : OG p e below Φ Q (T.setTop (mkF m pc' L' S))) : OG p e below Φ Q (T.setTop (mkF m pc L S)) := by
  subst hp hz; exact og_of (fun _ st => XS.iinc X.here hx rfl hd hl hl' st) G
theorem o_goto (X : Stand p l e R s m args below meth c T locs cells slots) (hx : p.tables.exec = Jvm.exec) {o : Int} (hd : decode c.code pc = .ok (.goto o, 3)) (ho : 0 ≤ (pc : Int) + o) (hp : ((pc : Int) + o).toNat = pc') (G : OG p e below Φ Q (T.setTop (mkF m pc' L S))) : OG p e below Φ Q (T.setTop (mkF m pc L S)) := og_of (fun _ st => XS.goto X.here hx rfl rfl hd ho hp st) G
theorem o_ifY (X : Stand p l e R s m args below meth c T locs cells slots) (hx : p.tables.exec = Jvm.exec) {cd : ClassFile.Cond} {x : Int32} {o : Int} (hd : decode c.code pc = .ok (.ifCond cd o, 3)) (hc : ifCond.holds cd x = true) (ho : 0 ≤ (pc : Int) + o) (hp : ((pc : Int) + o).toNat = pc') (G : OG p e below Φ Q (T.setTop (mkF m pc' L S))) : OG p e below Φ Q (T.setTop (mkF m pc L (.int x :: S))) := og_of (fun _ st => XS.ifYes X.here hx rfl rfl hd rfl hc ho hp st) G
theorem o_ifN (X : Stand p l e R s m args below meth c T locs cells slots) (hx : p.tables.exec = Jvm.exec) {cd : ClassFile.Cond} {x : Int32} {o : Int} (hp : pc + 3 = pc') (hd : decode c.code pc = .ok (.ifCond cd o, 3)) (hc : ifCond.holds cd x = false) (G : OG p e below Φ Q (T.setTop (mkF m pc' L S))) : OG p e below Φ Q (T.setTop (mkF m pc L (.int x :: S))) := by
  subst hp; exact og_of (fun _ st => XS.ifNo X.here hx rfl hd rfl hc st) G
theorem o_icmpY (X : Stand p l e R s m args below meth c T locs cells slots) (hx : p.tables.exec = Jvm.exec) {cd : ClassFile.Cond} {x y : Int32} {o : Int} (hd : decode c.code pc = .ok (.if_icmp cd o, 3)) (hc : if_icmp.holds cd x y = true) (ho : 0 ≤ (pc : Int) + o) (hp : ((pc : Int) + o).toNat = pc') (G : OG p e below Φ Q (T.setTop (mkF m pc' L S))) : OG p e below Φ Q (T.setTop (mkF m pc L (.int y :: .int x :: S))) := og_of (fun _ st => XS.icmpYes X.here hx rfl rfl hd rfl hc ho hp st) G
theorem o_icmpN (X : Stand p l e R s m args below meth c T locs cells slots) (hx : p.tables.exec = Jvm.exec) {cd : ClassFile.Cond} {x y : Int32} {o : Int} (hp : pc + 3 = pc') (hd : decode c.code pc = .ok (.if_icmp cd o, 3)) (hc : if_icmp.holds cd x y = false) (G : OG p e below Φ Q (T.setTop (mkF m pc' L S))) : OG p e below Φ Q (T.setTop (mkF m pc L (.int y :: .int x :: S))) := by
  subst hp; exact og_of (fun _ st => XS.icmpNo X.here hx rfl hd rfl hc st) G
theorem o_ifnullY (X : Stand p l e R s m args below meth c T locs cells slots) (hx : p.tables.exec = Jvm.exec) {o : Int} (hd : decode c.code pc = .ok (.ifnull o, 3)) (ho : 0 ≤ (pc : Int) + o) (hp : ((pc : Int) + o).toNat = pc') (G : OG p e below Φ Q (T.setTop (mkF m pc' L S))) : OG p e below Φ Q (T.setTop (mkF m pc L (.null :: S))) := og_of (fun _ st => XS.ifnullYes X.here hx rfl rfl hd rfl ho hp st) G
theorem o_ifnullN (X : Stand p l e R s m args below meth c T locs cells slots) (hx : p.tables.exec = Jvm.exec) {o : Int} {a : Addr} (hp : pc + 3 = pc') (hd : decode c.code pc = .ok (.ifnull o, 3)) (G : OG p e below Φ Q (T.setTop (mkF m pc' L S))) : OG p e below Φ Q (T.setTop (mkF m pc L (.ref a :: S))) := by
  subst hp; exact og_of (fun _ st => XS.ifnullNo X.here hx rfl hd rfl st) G
theorem o_ifnonnullY (X : Stand p l e R s m args below meth c T locs cells slots) (hx : p.tables.exec = Jvm.exec) {o : Int} {a : Addr} (hd : decode c.code pc = .ok (.ifnonnull o, 3)) (ho : 0 ≤ (pc : Int) + o) (hp : ((pc : Int) + o).toNat = pc') (G : OG p e below Φ Q (T.setTop (mkF m pc' L S))) : OG p e below Φ Q (T.setTop (mkF m pc L (.ref a :: S))) := og_of (fun _ st => XS.ifnonnullYes X.here hx rfl rfl hd rfl ho hp st) G
theorem o_ifnonnullN (X : Stand p l e R s m args below meth c T locs cells slots) (hx : p.tables.exec = Jvm.exec) {o : Int} (hp : pc + 3 = pc') (hd : decode c.code pc = .ok (.ifnonnull o, 3)) (G : OG p e below Φ Q (T.setTop (mkF m pc' L S))) : OG p e below Φ Q (T.setTop (mkF m pc L (.null :: S))) := by
  subst hp; exact og_of (fun _ st => XS.ifnonnullNo X.here hx rfl hd rfl st) G
theorem o_acmpY (X : Stand p l e R s m args below meth c T locs cells slots) (hx : p.tables.exec = Jvm.exec) {cd : ClassFile.ACond} {a b : Addr} {o : Int} (hd : decode c.code pc = .ok (.if_acmp cd o, 3)) (hc : if_acmp.holds cd (some a) (some b) = true) (ho : 0 ≤ (pc : Int) + o) (hp : ((pc : Int) + o).toNat = pc') (G : OG p e below Φ Q (T.setTop (mkF m pc' L S))) : OG p e below Φ Q (T.setTop (mkF m pc L (.ref b :: .ref a :: S))) := og_of (fun _ st => XS.acmpYes X.here hx rfl rfl hd rfl hc ho hp st) G
theorem o_acmpN (X : Stand p l e R s m args below meth c T locs cells slots) (hx : p.tables.exec = Jvm.exec) {cd : ClassFile.ACond} {a b : Addr} {o : Int} (hp : pc + 3 = pc') (hd : decode c.code pc = .ok (.if_acmp cd o, 3)) (hc : if_acmp.holds cd (some a) (some b) = false) (G : OG p e below Φ Q (T.setTop (mkF m pc' L S))) : OG p e below Φ Q (T.setTop (mkF m pc L (.ref b :: .ref a :: S))) := by
  subst hp; exact og_of (fun _ st => XS.acmpNo X.here hx rfl hd rfl hc st) G
theorem o_ldcI (X : Stand p l e R s m args below meth c T locs cells slots) (hx : p.tables.exec = Jvm.exec) {Z : State} {a0 : Array Value} {own : String} {i : Nat} {v : Int32} (hp : pc + 2 = pc') (hd : decode c.code pc = .ok (.ldc i, 2)) (hZ : Z.Warmed39 s.vm) (hown : s.vm.findClass own = some m.cls) (w : (Cond.constant own i v).before a0 Z = true) (G : OG p e below Φ Q (T.setTop (mkF m pc' L (.int v :: S)))) : OG p e below Φ Q (T.setTop (mkF m pc L S)) := by
  subst hp; exact og_of (X.ldcInt hx hown (mvT hZ w) (g := mkF m pc L S) rfl hd) G
theorem o_ldcwI (X : Stand p l e R s m args below meth c T locs cells slots) (hx : p.tables.exec = Jvm.exec) {Z : State} {a0 : Array Value} {own : String} {i : Nat} {v : Int32} (hp : pc + 3 = pc') (hd : decode c.code pc = .ok (.ldc_w i, 3)) (hZ : Z.Warmed39 s.vm) (hown : s.vm.findClass own = some m.cls) (w : (Cond.constant own i v).before a0 Z = true) (G : OG p e below Φ Q (T.setTop (mkF m pc' L (.int v :: S)))) : OG p e below Φ Q (T.setTop (mkF m pc L S)) := by
  subst hp; exact og_of (X.ldcwInt hx hown (mvT hZ w) (g := mkF m pc L S) rfl hd) G
theorem o_ldc2L (X : Stand p l e R s m args below meth c T locs cells slots) (hx : p.tables.exec = Jvm.exec) {Z : State} {a0 : Array Value} {own : String} {i : Nat} {v : Int64} (hp : pc + 3 = pc') (hd : decode c.code pc = .ok (.ldc2_w i, 3)) (hZ : Z.Warmed39 s.vm) (hown : s.vm.findClass own = some m.cls) (w : (Cond.constantLong own i v).before a0 Z = true) (G : OG p e below Φ Q (T.setTop (mkF m pc' L (.long v :: S)))) : OG p e below Φ Q (T.setTop (mkF m pc L S)) := by
  subst hp; exact og_of (X.ldc2Long hx hown (mvT hZ w) (g := mkF m pc L S) rfl hd) G
theorem own_mvM {Z : State} {a0 : Array Value} {own host : String} {y : MethodName} {index : Nat} (hZ : Z.Warmed39 s.vm) (w : (Cond.methodLinkNest own index y host).before a0 Z = true) : (Cond.methodLinkNest own index y host).before args s = true := (Cond.methodLinkNest_wide hZ w :)
theorem own_catI (v : Int32) : (Value.int v).category = 1 := rfl
theorem own_catL (v : Int64) : (Value.long v).category = 2 := rfl
theorem own_catR (a : Addr) : (Value.ref a).category = 1 := rfl
theorem own_cat {x : Value} (h : x.isRef = true) : x.category = 1 := by cases x <;> simp_all [Value.isRef, Value.category]
theorem own_narR {x : Value} (h : x.isRef = true) (t : FieldType) : narrow t x = x := by rcases ref_cases h with rfl | ⟨a, rfl⟩ <;> cases t <;> rfl
theorem own_fitR {x : Value} {C : String} (h : x.isRef = true) : fits (.object C) x = true := by rcases ref_cases h with rfl | ⟨a, rfl⟩ <;> rfl
theorem own_selp {Z : State} {a0 : Array Value} {y : MethodName} {q : Nat} (hZ : Z.Warmed39 s.vm) (wi : (Cond.instantiable y.cls q).before a0 Z = true) (hp : (Cond.privateMethod y).before a0 Z = true) (hi : (Cond.instanceMethod y).before a0 Z = true) (hy : y.cls ≠ "java/lang/invoke/MethodHandle" ∧ y.cls ≠ "java/lang/invoke/VarHandle") : (Cond.selects y.cls y y).before args s = true := by
  have wi' : (Cond.instantiable y.cls q).before args s = true := mv hZ wi
  obtain ⟨cc, kk, h1, h2, -, h4, -⟩ := Cond.instantiable_spec wi'
  have hni : kk.isInterface = false := by simp only [Bool.or_eq_false_iff] at h4; exact h4.1
  exact selects_self_of_private h1 h2 hni (Cond.privateMethod_at (mvP hZ hp (args := args))) (mv hZ hi) hy
theorem own_staK {Z : State} {h h' : Heap} {C nn d : String} {v : Value} (F : Sta Z h C nn d v) (K : Keep h h' []) : Sta Z h' C nn d v := by
  obtain ⟨cf, i, k, f, st, cell, h1, h2, h3, h4, h5, r⟩ := F
  exact ⟨cf, i, k, f, st, cell, h1, h2, h3, h4, K.2.1 _ _ h5 (fun q => nomatch q), r⟩
end Own
end Jvm.RoadKit
namespace Jvm.Pilot.@@N@@
open Jvm Jvm.ClassFile Sem Op Lib Jvm.Free Jvm.Stand Jvm.LawKit Jvm.RoadKit Bundle Jvm.Pilot.@@N@@.Jvm.D
theorem own_d1_0 : decode method_4_code 0 = .ok (.iload_n 1, 1) := by decide +kernel
theorem own_d1_1 : decode method_4_code 1 = .ok (.iconst 1, 1) := by decide +kernel
theorem own_d1_2 : decode method_4_code 2 = .ok (.iand, 1) := by decide +kernel
theorem own_d1_3 : decode method_4_code 3 = .ok (.ifCond .eq 10, 3) := by decide +kernel
theorem own_d1_6 : decode method_4_code 6 = .ok (.iload_n 1, 1) := by decide +kernel
theorem own_d1_7 : decode method_4_code 7 = .ok (.iconst 1, 1) := by decide +kernel
theorem own_d1_8 : decode method_4_code 8 = .ok (.iushr, 1) := by decide +kernel
theorem own_d1_9 : decode method_4_code 9 = .ok (.ldc 13, 2) := by decide +kernel
theorem own_d1_11 : decode method_4_code 11 = .ok (.iand, 1) := by decide +kernel
theorem own_d1_12 : decode method_4_code 12 = .ok (.ireturn, 1) := by decide +kernel
theorem own_d1_13 : decode method_4_code 13 = .ok (.iload_n 0, 1) := by decide +kernel
theorem own_d1_14 : decode method_4_code 14 = .ok (.iload_n 1, 1) := by decide +kernel
theorem own_d1_15 : decode method_4_code 15 = .ok (.iconst 1, 1) := by decide +kernel
theorem own_d1_16 : decode method_4_code 16 = .ok (.iushr, 1) := by decide +kernel
theorem own_d1_17 : decode method_4_code 17 = .ok (.bipush 127, 2) := by decide +kernel
theorem own_d1_19 : decode method_4_code 19 = .ok (.iand, 1) := by decide +kernel
theorem own_d1_20 : decode method_4_code 20 = .ok (.iadd, 1) := by decide +kernel
theorem own_d1_21 : decode method_4_code 21 = .ok (.bipush 64, 2) := by decide +kernel
theorem own_d1_23 : decode method_4_code 23 = .ok (.isub, 1) := by decide +kernel
theorem own_d1_24 : decode method_4_code 24 = .ok (.ldc 13, 2) := by decide +kernel
theorem own_d1_26 : decode method_4_code 26 = .ok (.iand, 1) := by decide +kernel
theorem own_d1_27 : decode method_4_code 27 = .ok (.ireturn, 1) := by decide +kernel
def own_f1 (p0 : Int32) (p1 : Int32) : Int32 := (if (p1 &&& (1 : Int32)) = (0 : Int32) then (((p0 + (((p1.toUInt32 >>> ((1 : Int32) &&& 31).toUInt32).toInt32) &&& (127 : Int32))) - (64 : Int32)) &&& (65535 : Int32)) else (((p1.toUInt32 >>> ((1 : Int32) &&& 31).toUInt32).toInt32) &&& (65535 : Int32)))
theorem own_ef1 (m : MethodId) (p0 : Int32) (p1 : Int32) : entryFrame m #[(.int p0), (.int p1)] 2 = mkF m 0 #[.val (.int p0), .val (.int p1)] [] := by first | (simp [entryFrame, mkF, argsToLocals, Value.category]; done) | rfl
def own_Q1 (Z : State) (p0 : Int32) (p1 : Int32) (h0 : Heap) (n0 : Nat) (v : Option Value) (h : Heap) (L : List Loc) : Prop := v = some (.int (own_f1 p0 p1)) ∧ Fr n0 L ∧ h = h0
theorem own_pn22 : plainName "com/example/hermod/hermod/osp/SequenceWindowAcceptPinLaw" = true := by first | (simp [plainName, overriddenIn]; done) | decide +kernel
set_option maxRecDepth 65536 in
set_option maxHeartbeats 40000000 in
theorem own_rm1 (l : Launch) (Z : State) (aA : Array Value) (hw : ∀ d ∈ tables_1, d.before aA Z = true) (ws : List Jvm.Cond) (p0 : Int32) (p1 : Int32) (h0 : Heap) (n0 : Nat) (Z0 : n0 ≤ h0.size) :
    MetFree l (⟨"com/example/hermod/hermod/osp/SequenceWindowAcceptPinLaw", "next", "(II)I"⟩ : MethodName) (head1 (Jvm.Cond.code (⟨"com/example/hermod/hermod/osp/SequenceWindowAcceptPinLaw", "next", "(II)I"⟩ : MethodName) method_4_code 2 (some .int) :: ws) ({ frames := 0, cells := 0, slots := 0, locals := 0 } : Room)) (fun a U => a = #[(.int p0), (.int p1)] ∧ Z.Warmed39 U.vm ∧ U.heap = h0) (fun _ _ _ _ _ => True) (fun _ U o U' => ∃ v L, o = .returned v ∧ own_Q1 Z p0 p1 h0 n0 v U'.heap L ∧ FrameEnd U o U' L ({ frames := 0, cells := 0, slots := 0, locals := 0 } : Room).cells ({ frames := 0, cells := 0, slots := 0, locals := 0 } : Room).slots) := by
  refine MetFree.of_bodySF (plainFor_of_name own_pn22) hisR ?_
  intro p e s m args below meth c s₁ Bd hml0 hP hK
  obtain ⟨rfl, hZ, hh⟩ := hP
  have hx := Bd.exec
  have hby := Bd.bytes
  have hlk : meth.locks = false := Bd.notSynchronized
  have hml : c.maxLocals = 2 := hml0
  have hown : s.vm.findClass "com/example/hermod/hermod/osp/SequenceWindowAcceptPinLaw" = some m.cls := findClass_of_methodNamed Bd.named
  have hnm := (name_of_methodNamed Bd.named Bd.method).1
  have X0 : Stand p l e ({ frames := 0, cells := 0, slots := 0, locals := 0 } : Room) s m #[(.int p0), (.int p1)] below meth c s₁ [] 0 0 := Stand.of_body Bd
  have e0 : s₁.heap = h0 := by rw [← hh, Bd.state]; rfl
  have N0 := Fr.nil n0
  show OG p e below (FE s ({ frames := 0, cells := 0, slots := 0, locals := 0 } : Room).cells ({ frames := 0, cells := 0, slots := 0, locals := 0 } : Room).slots) (own_Q1 Z p0 p1 h0 n0) (s₁.setTop (entryFrame m #[(.int p0), (.int p1)] 2))
  refine og_of (fun _ k => castTop (own_ef1 m p0 p1) k) ?_
  refine o_iloadN X0 hx rfl (hb hby own_d1_0) rfl ?_
  refine o_iconst (z := (1 : Int32)) X0 hx rfl (hb hby own_d1_1) (by decide) ?_
  obtain ⟨z1, hz1⟩ : ∃ z : Int32, p1 &&& (1 : Int32) = z := ⟨_, rfl⟩
  refine o_iand (z := z1) X0 hx rfl (hb hby own_d1_2) hz1 ?_
  by_cases hc2 : z1 = (0 : Int32)
  · skip
    refine o_ifY (pc' := 13) X0 hx (hb hby own_d1_3) ((if0 _ _).trans (teq hc2).1) (by decide) (by decide) ?_
    refine o_iloadN X0 hx rfl (hb hby own_d1_13) rfl ?_
    refine o_iloadN X0 hx rfl (hb hby own_d1_14) rfl ?_
    refine o_iconst (z := (1 : Int32)) X0 hx rfl (hb hby own_d1_15) (by decide) ?_
    obtain ⟨z3, hz3⟩ : ∃ z : Int32, (p1.toUInt32 >>> ((1 : Int32) &&& 31).toUInt32).toInt32 = z := ⟨_, rfl⟩
    refine o_iushr (z := z3) X0 hx rfl (hb hby own_d1_16) hz3 ?_
    refine o_bipush (z := (127 : Int32)) X0 hx rfl (hb hby own_d1_17) (by decide) ?_
    obtain ⟨z4, hz4⟩ : ∃ z : Int32, z3 &&& (127 : Int32) = z := ⟨_, rfl⟩
    refine o_iand (z := z4) X0 hx rfl (hb hby own_d1_19) hz4 ?_
    obtain ⟨z5, hz5⟩ : ∃ z : Int32, p0 + z4 = z := ⟨_, rfl⟩
    refine o_iadd (z := z5) X0 hx rfl (hb hby own_d1_20) hz5 ?_
    refine o_bipush (z := (64 : Int32)) X0 hx rfl (hb hby own_d1_21) (by decide) ?_
    obtain ⟨z6, hz6⟩ : ∃ z : Int32, z5 - (64 : Int32) = z := ⟨_, rfl⟩
    refine o_isub (z := z6) X0 hx rfl (hb hby own_d1_23) hz6 ?_
    refine o_ldcI X0 hx rfl (hb hby own_d1_24) hZ hown (hw _ (List.mem_of_getElem? (i := 1) rfl)) ?_
    obtain ⟨z7, hz7⟩ : ∃ z : Int32, z6 &&& (65535 : Int32) = z := ⟨_, rfl⟩
    refine o_iand (z := z7) X0 hx rfl (hb hby own_d1_26) hz7 ?_
    subst hz1 hz3 hz4 hz5 hz6 hz7
    exact o_retI X0 hx Bd.returns (own_lv X0 hlk (by decide +kernel) (by decide +kernel)) (hb hby own_d1_27) ⟨(by rw [own_f1, if_pos hc2]), N0, e0⟩
  · skip
    refine o_ifN (pc' := 6) X0 hx rfl (hb hby own_d1_3) ((if0 _ _).trans (feq hc2).1) ?_
    refine o_iloadN X0 hx rfl (hb hby own_d1_6) rfl ?_
    refine o_iconst (z := (1 : Int32)) X0 hx rfl (hb hby own_d1_7) (by decide) ?_
    obtain ⟨z8, hz8⟩ : ∃ z : Int32, (p1.toUInt32 >>> ((1 : Int32) &&& 31).toUInt32).toInt32 = z := ⟨_, rfl⟩
    refine o_iushr (z := z8) X0 hx rfl (hb hby own_d1_8) hz8 ?_
    refine o_ldcI X0 hx rfl (hb hby own_d1_9) hZ hown (hw _ (List.mem_of_getElem? (i := 1) rfl)) ?_
    obtain ⟨z9, hz9⟩ : ∃ z : Int32, z8 &&& (65535 : Int32) = z := ⟨_, rfl⟩
    refine o_iand (z := z9) X0 hx rfl (hb hby own_d1_11) hz9 ?_
    subst hz1 hz8 hz9
    exact o_retI X0 hx Bd.returns (own_lv X0 hlk (by decide +kernel) (by decide +kernel)) (hb hby own_d1_12) ⟨(by rw [own_f1, if_neg hc2]), N0, e0⟩
theorem own_d2_0 : decode prog_19_method_1_code 0 = .ok (.aload_n 0, 1) := by decide +kernel
theorem own_d2_1 : decode prog_19_method_1_code 1 = .ok (.invokespecial 1, 3) := by decide +kernel
theorem own_d2_4 : decode prog_19_method_1_code 4 = .ok (.aload_n 0, 1) := by decide +kernel
theorem own_d2_5 : decode prog_19_method_1_code 5 = .ok (.iconst (-1), 1) := by decide +kernel
theorem own_d2_6 : decode prog_19_method_1_code 6 = .ok (.putfield 7, 3) := by decide +kernel
theorem own_d2_9 : decode prog_19_method_1_code 9 = .ok (.return_, 1) := by decide +kernel
theorem own_ef2 (m : MethodId) (a0 : Addr) : entryFrame m #[(.ref a0)] 1 = mkF m 0 #[.val (.ref a0)] [] := by first | (simp [entryFrame, mkF, argsToLocals, Value.category]; done) | rfl
def own_Q2 (Z : State) (a0 : Addr) (h0 : Heap) (n0 : Nat) (v : Option Value) (h : Heap) (L : List Loc) : Prop := v = none ∧ Fr n0 L ∧ Keep h0 h [a0] ∧ Fld Z h a0 "com/example/hermod/hermod/osp/SequenceWindow" "m_nHighest" "I" (.int (-1 : Int32)) ∧ Fld Z h a0 "com/example/hermod/hermod/osp/SequenceWindow" "m_nAccepted" "J" (.long (0 : Int64))
theorem own_pn29 : plainName "com/example/hermod/hermod/osp/SequenceWindow" = true := by first | (simp [plainName, overriddenIn]; done) | decide +kernel
set_option maxRecDepth 65536 in
set_option maxHeartbeats 40000000 in
theorem own_rm2 (l : Launch) (Z : State) (aA : Array Value) (hw : ∀ d ∈ tables_1, d.before aA Z = true) (ws : List Jvm.Cond) (a0 : Addr) (h0 : Heap) (n0 : Nat) (Z0 : n0 ≤ h0.size) (pre0 : Exa Z h0 a0 "com/example/hermod/hermod/osp/SequenceWindow") (pre1 : n0 ≤ a0) (pre2 : Fld Z h0 a0 "com/example/hermod/hermod/osp/SequenceWindow" "m_nHighest" "I" (.int (0 : Int32))) (pre3 : Fld Z h0 a0 "com/example/hermod/hermod/osp/SequenceWindow" "m_nAccepted" "J" (.long (0 : Int64))) :
    MetFree l (⟨"com/example/hermod/hermod/osp/SequenceWindow", "<init>", "()V"⟩ : MethodName) (head1 (Jvm.Cond.code (⟨"com/example/hermod/hermod/osp/SequenceWindow", "<init>", "()V"⟩ : MethodName) prog_19_method_1_code 1 none :: ws) ({ frames := 1, cells := 0, slots := 0, locals := 12 } : Room)) (fun a U => a = #[(.ref a0)] ∧ Z.Warmed39 U.vm ∧ U.heap = h0) (fun _ _ _ _ _ => True) (fun _ U o U' => ∃ v L, o = .returned v ∧ own_Q2 Z a0 h0 n0 v U'.heap L ∧ FrameEnd U o U' L ({ frames := 1, cells := 0, slots := 0, locals := 12 } : Room).cells ({ frames := 1, cells := 0, slots := 0, locals := 12 } : Room).slots) := by
  refine MetFree.of_bodySF (plainFor_of_name own_pn29) hisR ?_
  intro p e s m args below meth c s₁ Bd hml0 hP hK
  obtain ⟨rfl, hZ, hh⟩ := hP
  have hx := Bd.exec
  have hby := Bd.bytes
  have hlk : meth.locks = false := Bd.notSynchronized
  have hml : c.maxLocals = 1 := hml0
  have hown : s.vm.findClass "com/example/hermod/hermod/osp/SequenceWindow" = some m.cls := findClass_of_methodNamed Bd.named
  have hnm := (name_of_methodNamed Bd.named Bd.method).1
  have X0 : Stand p l e ({ frames := 1, cells := 0, slots := 0, locals := 12 } : Room) s m #[(.ref a0)] below meth c s₁ [] 0 0 := Stand.of_body Bd
  have e0 : s₁.heap = h0 := by rw [← hh, Bd.state]; rfl
  have N0 := Fr.nil n0
  show OG p e below (FE s ({ frames := 1, cells := 0, slots := 0, locals := 12 } : Room).cells ({ frames := 1, cells := 0, slots := 0, locals := 12 } : Room).slots) (own_Q2 Z a0 h0 n0) (s₁.setTop (entryFrame m #[(.ref a0)] 1))
  refine og_of (fun _ k => castTop (own_ef2 m a0) k) ?_
  refine o_aloadN X0 hx rfl (hb hby own_d2_0) rfl rfl ?_
  obtain ⟨T1, X1, e1, st1⟩ := initO X0 hx hZ hown (hw _ (List.mem_of_getElem? (i := 12) rfl)) (hw _ (List.mem_of_getElem? (i := 13) rfl)) (hw _ (List.mem_of_getElem? (i := 14) rfl)) e0 (g := (mkF m 1 #[.val (.ref a0)] [(.ref a0)])) rfl (by rw [hml]; rfl) rfl (hb hby own_d2_1) (by decide) (W := 0) (by show 2 * 0 + _ ≤ _; exact Nat.le_of_eq rfl) (by decide)
  refine og_of st1 ?_
  show OG p e below _ _ (T1.setTop (mkF m 4 #[.val (.ref a0)] []))
  refine o_aloadN X1 hx rfl (hb hby own_d2_4) rfl rfl ?_
  refine o_iconst (z := (-1 : Int32)) X1 hx rfl (hb hby own_d2_5) (by decide) ?_
  obtain ⟨T2, h2, X2, e2, W2, st2⟩ := putF X1 hx hZ hown (host := "") (Or.inl (hw _ (List.mem_of_getElem? (i := 15) rfl))) Via.refl e1 pre2 pre0 (Or.inl (hw _ (List.mem_of_getElem? (i := 16) rfl))) (hw _ (List.mem_of_getElem? (i := 7) rfl)) (ty := .int) (by decide) rfl rfl (g := (mkF m 6 #[.val (.ref a0)] [(.int (-1 : Int32)), (.ref a0)])) rfl rfl (hb hby own_d2_6)
  have Fw2 := pre2.same W2
  have N2 := Fr.snoc X2 N0 pre1
  have Kp3 : Keep h0 h2 [a0] := (Keep.refl h0 [a0]).wr W2 (Or.inl (List.mem_of_getElem? (i := 0) rfl))
  refine og_of st2 ?_
  show OG p e below _ _ (T2.setTop (mkF m 9 #[.val (.ref a0)] []))
  have Fc4 : Fld Z h2 a0 "com/example/hermod/hermod/osp/SequenceWindow" "m_nAccepted" "J" (.long (0 : Int64)) := (Fld.other W2 pre3 (Or.inr (slot_ne (Or.inl (hw _ (List.mem_of_getElem? (i := 29) rfl))) (Or.inl (hw _ (List.mem_of_getElem? (i := 16) rfl))) (by decide) (t := .long) (t' := .int) (by decide) (by decide))))
  exact o_ret0 X2 hx Bd.returns (own_lv X2 hlk (by decide +kernel) (by decide +kernel)) (hb hby own_d2_9) ⟨rfl, N2, (by rw [e2]; exact Kp3), (by rw [e2]; exact Fw2), (by rw [e2]; exact Fc4)⟩
theorem own_d7_0 : decode method_2_code 0 = .ok (.iload_n 0, 1) := by decide +kernel
theorem own_d7_1 : decode method_2_code 1 = .ok (.aload_n 1, 1) := by decide +kernel
theorem own_d7_2 : decode method_2_code 2 = .ok (.iconst 0, 1) := by decide +kernel
theorem own_d7_3 : decode method_2_code 3 = .ok (.iaload, 1) := by decide +kernel
theorem own_d7_4 : decode method_2_code 4 = .ok (.if_icmp .eq 31, 3) := by decide +kernel
theorem own_d7_7 : decode method_2_code 7 = .ok (.iload_n 0, 1) := by decide +kernel
theorem own_d7_8 : decode method_2_code 8 = .ok (.aload_n 1, 1) := by decide +kernel
theorem own_d7_9 : decode method_2_code 9 = .ok (.iconst 1, 1) := by decide +kernel
theorem own_d7_10 : decode method_2_code 10 = .ok (.iaload, 1) := by decide +kernel
theorem own_d7_11 : decode method_2_code 11 = .ok (.if_icmp .eq 24, 3) := by decide +kernel
theorem own_d7_14 : decode method_2_code 14 = .ok (.iload_n 0, 1) := by decide +kernel
theorem own_d7_15 : decode method_2_code 15 = .ok (.aload_n 1, 1) := by decide +kernel
theorem own_d7_16 : decode method_2_code 16 = .ok (.iconst 2, 1) := by decide +kernel
theorem own_d7_17 : decode method_2_code 17 = .ok (.iaload, 1) := by decide +kernel
theorem own_d7_18 : decode method_2_code 18 = .ok (.if_icmp .eq 17, 3) := by decide +kernel
theorem own_d7_21 : decode method_2_code 21 = .ok (.iload_n 0, 1) := by decide +kernel
theorem own_d7_22 : decode method_2_code 22 = .ok (.aload_n 1, 1) := by decide +kernel
theorem own_d7_23 : decode method_2_code 23 = .ok (.iconst 3, 1) := by decide +kernel
theorem own_d7_24 : decode method_2_code 24 = .ok (.iaload, 1) := by decide +kernel
theorem own_d7_25 : decode method_2_code 25 = .ok (.if_icmp .eq 10, 3) := by decide +kernel
theorem own_d7_28 : decode method_2_code 28 = .ok (.iload_n 0, 1) := by decide +kernel
theorem own_d7_29 : decode method_2_code 29 = .ok (.aload_n 1, 1) := by decide +kernel
theorem own_d7_30 : decode method_2_code 30 = .ok (.iconst 4, 1) := by decide +kernel
theorem own_d7_31 : decode method_2_code 31 = .ok (.iaload, 1) := by decide +kernel
theorem own_d7_32 : decode method_2_code 32 = .ok (.if_icmp .ne 7, 3) := by decide +kernel
theorem own_d7_35 : decode method_2_code 35 = .ok (.iconst 1, 1) := by decide +kernel
theorem own_d7_36 : decode method_2_code 36 = .ok (.goto 4, 3) := by decide +kernel
theorem own_d7_39 : decode method_2_code 39 = .ok (.iconst 0, 1) := by decide +kernel
theorem own_d7_40 : decode method_2_code 40 = .ok (.ireturn, 1) := by decide +kernel
def own_f7 (p0 : Int32) (a1 : Addr) (k_a1 : ClassId) (c0 : Int32) (c1 : Int32) (c2 : Int32) (c3 : Int32) (c4 : Int32) : Int32 := (if p0 = c0 then (1 : Int32) else (if p0 = c1 then (1 : Int32) else (if p0 = c2 then (1 : Int32) else (if p0 = c3 then (1 : Int32) else (if p0 = c4 then (1 : Int32) else (0 : Int32))))))
theorem own_ef7 (m : MethodId) (p0 : Int32) (a1 : Addr) : entryFrame m #[(.int p0), (.ref a1)] 2 = mkF m 0 #[.val (.int p0), .val (.ref a1)] [] := by first | (simp [entryFrame, mkF, argsToLocals, Value.category]; done) | rfl
def own_Q7 (Z : State) (p0 : Int32) (a1 : Addr) (k_a1 : ClassId) (c0 : Int32) (c1 : Int32) (c2 : Int32) (c3 : Int32) (c4 : Int32) (h0 : Heap) (n0 : Nat) (v : Option Value) (h : Heap) (L : List Loc) : Prop := v = some (.int (own_f7 p0 a1 k_a1 c0 c1 c2 c3 c4)) ∧ Fr n0 L ∧ h = h0
set_option maxRecDepth 65536 in
set_option maxHeartbeats 40000000 in
theorem own_rm7 (l : Launch) (Z : State) (aA : Array Value) (hw : ∀ d ∈ tables_1, d.before aA Z = true) (ws : List Jvm.Cond) (p0 : Int32) (a1 : Addr) (k_a1 : ClassId) (c0 : Int32) (c1 : Int32) (c2 : Int32) (c3 : Int32) (c4 : Int32) (h0 : Heap) (n0 : Nat) (Z0 : n0 ≤ h0.size) (pre0 : Arv Z h0 a1 k_a1 .int (5 : Int32) [(.int c0), (.int c1), (.int c2), (.int c3), (.int c4)] (.int (0 : Int32))) :
    MetFree l (⟨"com/example/hermod/hermod/osp/SequenceWindowAcceptPinLaw", "in", "(I[I)Z"⟩ : MethodName) (head1 (Jvm.Cond.code (⟨"com/example/hermod/hermod/osp/SequenceWindowAcceptPinLaw", "in", "(I[I)Z"⟩ : MethodName) method_2_code 2 (some .boolean) :: ws) ({ frames := 0, cells := 0, slots := 0, locals := 0 } : Room)) (fun a U => a = #[(.int p0), (.ref a1)] ∧ Z.Warmed39 U.vm ∧ U.heap = h0) (fun _ _ _ _ _ => True) (fun _ U o U' => ∃ v L, o = .returned v ∧ own_Q7 Z p0 a1 k_a1 c0 c1 c2 c3 c4 h0 n0 v U'.heap L ∧ FrameEnd U o U' L ({ frames := 0, cells := 0, slots := 0, locals := 0 } : Room).cells ({ frames := 0, cells := 0, slots := 0, locals := 0 } : Room).slots) := by
  refine MetFree.of_bodySF (plainFor_of_name own_pn22) hisR ?_
  intro p e s m args below meth c s₁ Bd hml0 hP hK
  obtain ⟨rfl, hZ, hh⟩ := hP
  have hx := Bd.exec
  have hby := Bd.bytes
  have hlk : meth.locks = false := Bd.notSynchronized
  have hml : c.maxLocals = 2 := hml0
  have hown : s.vm.findClass "com/example/hermod/hermod/osp/SequenceWindowAcceptPinLaw" = some m.cls := findClass_of_methodNamed Bd.named
  have hnm := (name_of_methodNamed Bd.named Bd.method).1
  have X0 : Stand p l e ({ frames := 0, cells := 0, slots := 0, locals := 0 } : Room) s m #[(.int p0), (.ref a1)] below meth c s₁ [] 0 0 := Stand.of_body Bd
  have e0 : s₁.heap = h0 := by rw [← hh, Bd.state]; rfl
  have N0 := Fr.nil n0
  show OG p e below (FE s ({ frames := 0, cells := 0, slots := 0, locals := 0 } : Room).cells ({ frames := 0, cells := 0, slots := 0, locals := 0 } : Room).slots) (own_Q7 Z p0 a1 k_a1 c0 c1 c2 c3 c4 h0 n0) (s₁.setTop (entryFrame m #[(.int p0), (.ref a1)] 2))
  refine og_of (fun _ k => castTop (own_ef7 m p0 a1) k) ?_
  refine o_iloadN X0 hx rfl (hb hby own_d7_0) rfl ?_
  refine o_aloadN X0 hx rfl (hb hby own_d7_1) rfl rfl ?_
  refine o_iconst (z := (0 : Int32)) X0 hx rfl (hb hby own_d7_2) (by decide) ?_
  obtain ⟨clv1, Arv1, qv1, Sv1, Nv1, Hv1, Gv1⟩ := id pre0
  have hin2 : ¬ ((0 : Int32) < 0 ∨ clv1.slots.size ≤ ((0 : Int32)).toNatClampNeg) := inb_of Sv1 ⟨by decide, by decide⟩
  have hat2 : clv1.slots[((0 : Int32)).toNatClampNeg]? = some (.int c0) := Hv1.at hin2 rfl
  refine og_of (X0.iaload hx (j := (0 : Int32)) (v := (.int c0)) (by rw [e0]; exact Arv1.1) (State.isArrayOf_alike hZ.alike Arv1.2.1) Arv1.2.2 hin2 hat2 (g := (mkF m 3 #[.val (.int p0), .val (.ref a1)] [(.int (0 : Int32)), (.ref a1), (.int p0)])) rfl rfl (hb hby own_d7_3)) ?_
  show OG p e below _ _ (s₁.setTop (mkF m 4 #[.val (.int p0), .val (.ref a1)] [(.int c0), (.int p0)]))
  by_cases hc3 : p0 = c0
  · skip
    refine o_icmpY (pc' := 35) X0 hx (hb hby own_d7_4) (teq hc3).1 (by decide) (by decide) ?_
    refine o_iconst (z := (1 : Int32)) X0 hx rfl (hb hby own_d7_35) (by decide) ?_
    refine o_goto (pc' := 40) X0 hx (hb hby own_d7_36) (by decide) (by decide) ?_
    exact o_retB X0 hx Bd.returns (own_lv X0 hlk (by decide +kernel) (by decide +kernel)) (hb hby own_d7_40) (by decide) ⟨(by rw [own_f7, if_pos hc3]), N0, e0⟩
  · skip
    refine o_icmpN (pc' := 7) X0 hx rfl (hb hby own_d7_4) (feq hc3).1 ?_
    refine o_iloadN X0 hx rfl (hb hby own_d7_7) rfl ?_
    refine o_aloadN X0 hx rfl (hb hby own_d7_8) rfl rfl ?_
    refine o_iconst (z := (1 : Int32)) X0 hx rfl (hb hby own_d7_9) (by decide) ?_
    obtain ⟨clv4, Arv4, qv4, Sv4, Nv4, Hv4, Gv4⟩ := id pre0
    have hin5 : ¬ ((1 : Int32) < 0 ∨ clv4.slots.size ≤ ((1 : Int32)).toNatClampNeg) := inb_of Sv4 ⟨by decide, by decide⟩
    have hat5 : clv4.slots[((1 : Int32)).toNatClampNeg]? = some (.int c1) := Hv4.at hin5 rfl
    refine og_of (X0.iaload hx (j := (1 : Int32)) (v := (.int c1)) (by rw [e0]; exact Arv4.1) (State.isArrayOf_alike hZ.alike Arv4.2.1) Arv4.2.2 hin5 hat5 (g := (mkF m 10 #[.val (.int p0), .val (.ref a1)] [(.int (1 : Int32)), (.ref a1), (.int p0)])) rfl rfl (hb hby own_d7_10)) ?_
    show OG p e below _ _ (s₁.setTop (mkF m 11 #[.val (.int p0), .val (.ref a1)] [(.int c1), (.int p0)]))
    by_cases hc6 : p0 = c1
    · skip
      refine o_icmpY (pc' := 35) X0 hx (hb hby own_d7_11) (teq hc6).1 (by decide) (by decide) ?_
      refine o_iconst (z := (1 : Int32)) X0 hx rfl (hb hby own_d7_35) (by decide) ?_
      refine o_goto (pc' := 40) X0 hx (hb hby own_d7_36) (by decide) (by decide) ?_
      exact o_retB X0 hx Bd.returns (own_lv X0 hlk (by decide +kernel) (by decide +kernel)) (hb hby own_d7_40) (by decide) ⟨(by rw [own_f7, if_neg hc3, if_pos hc6]), N0, e0⟩
    · skip
      refine o_icmpN (pc' := 14) X0 hx rfl (hb hby own_d7_11) (feq hc6).1 ?_
      refine o_iloadN X0 hx rfl (hb hby own_d7_14) rfl ?_
      refine o_aloadN X0 hx rfl (hb hby own_d7_15) rfl rfl ?_
      refine o_iconst (z := (2 : Int32)) X0 hx rfl (hb hby own_d7_16) (by decide) ?_
      obtain ⟨clv7, Arv7, qv7, Sv7, Nv7, Hv7, Gv7⟩ := id pre0
      have hin8 : ¬ ((2 : Int32) < 0 ∨ clv7.slots.size ≤ ((2 : Int32)).toNatClampNeg) := inb_of Sv7 ⟨by decide, by decide⟩
      have hat8 : clv7.slots[((2 : Int32)).toNatClampNeg]? = some (.int c2) := Hv7.at hin8 rfl
      refine og_of (X0.iaload hx (j := (2 : Int32)) (v := (.int c2)) (by rw [e0]; exact Arv7.1) (State.isArrayOf_alike hZ.alike Arv7.2.1) Arv7.2.2 hin8 hat8 (g := (mkF m 17 #[.val (.int p0), .val (.ref a1)] [(.int (2 : Int32)), (.ref a1), (.int p0)])) rfl rfl (hb hby own_d7_17)) ?_
      show OG p e below _ _ (s₁.setTop (mkF m 18 #[.val (.int p0), .val (.ref a1)] [(.int c2), (.int p0)]))
      by_cases hc9 : p0 = c2
      · skip
        refine o_icmpY (pc' := 35) X0 hx (hb hby own_d7_18) (teq hc9).1 (by decide) (by decide) ?_
        refine o_iconst (z := (1 : Int32)) X0 hx rfl (hb hby own_d7_35) (by decide) ?_
        refine o_goto (pc' := 40) X0 hx (hb hby own_d7_36) (by decide) (by decide) ?_
        exact o_retB X0 hx Bd.returns (own_lv X0 hlk (by decide +kernel) (by decide +kernel)) (hb hby own_d7_40) (by decide) ⟨(by rw [own_f7, if_neg hc3, if_neg hc6, if_pos hc9]), N0, e0⟩
      · skip
        refine o_icmpN (pc' := 21) X0 hx rfl (hb hby own_d7_18) (feq hc9).1 ?_
        refine o_iloadN X0 hx rfl (hb hby own_d7_21) rfl ?_
        refine o_aloadN X0 hx rfl (hb hby own_d7_22) rfl rfl ?_
        refine o_iconst (z := (3 : Int32)) X0 hx rfl (hb hby own_d7_23) (by decide) ?_
        obtain ⟨clv10, Arv10, qv10, Sv10, Nv10, Hv10, Gv10⟩ := id pre0
        have hin11 : ¬ ((3 : Int32) < 0 ∨ clv10.slots.size ≤ ((3 : Int32)).toNatClampNeg) := inb_of Sv10 ⟨by decide, by decide⟩
        have hat11 : clv10.slots[((3 : Int32)).toNatClampNeg]? = some (.int c3) := Hv10.at hin11 rfl
        refine og_of (X0.iaload hx (j := (3 : Int32)) (v := (.int c3)) (by rw [e0]; exact Arv10.1) (State.isArrayOf_alike hZ.alike Arv10.2.1) Arv10.2.2 hin11 hat11 (g := (mkF m 24 #[.val (.int p0), .val (.ref a1)] [(.int (3 : Int32)), (.ref a1), (.int p0)])) rfl rfl (hb hby own_d7_24)) ?_
        show OG p e below _ _ (s₁.setTop (mkF m 25 #[.val (.int p0), .val (.ref a1)] [(.int c3), (.int p0)]))
        by_cases hc12 : p0 = c3
        · skip
          refine o_icmpY (pc' := 35) X0 hx (hb hby own_d7_25) (teq hc12).1 (by decide) (by decide) ?_
          refine o_iconst (z := (1 : Int32)) X0 hx rfl (hb hby own_d7_35) (by decide) ?_
          refine o_goto (pc' := 40) X0 hx (hb hby own_d7_36) (by decide) (by decide) ?_
          exact o_retB X0 hx Bd.returns (own_lv X0 hlk (by decide +kernel) (by decide +kernel)) (hb hby own_d7_40) (by decide) ⟨(by rw [own_f7, if_neg hc3, if_neg hc6, if_neg hc9, if_pos hc12]), N0, e0⟩
        · skip
          refine o_icmpN (pc' := 28) X0 hx rfl (hb hby own_d7_25) (feq hc12).1 ?_
          refine o_iloadN X0 hx rfl (hb hby own_d7_28) rfl ?_
          refine o_aloadN X0 hx rfl (hb hby own_d7_29) rfl rfl ?_
          refine o_iconst (z := (4 : Int32)) X0 hx rfl (hb hby own_d7_30) (by decide) ?_
          obtain ⟨clv13, Arv13, qv13, Sv13, Nv13, Hv13, Gv13⟩ := id pre0
          have hin14 : ¬ ((4 : Int32) < 0 ∨ clv13.slots.size ≤ ((4 : Int32)).toNatClampNeg) := inb_of Sv13 ⟨by decide, by decide⟩
          have hat14 : clv13.slots[((4 : Int32)).toNatClampNeg]? = some (.int c4) := Hv13.at hin14 rfl
          refine og_of (X0.iaload hx (j := (4 : Int32)) (v := (.int c4)) (by rw [e0]; exact Arv13.1) (State.isArrayOf_alike hZ.alike Arv13.2.1) Arv13.2.2 hin14 hat14 (g := (mkF m 31 #[.val (.int p0), .val (.ref a1)] [(.int (4 : Int32)), (.ref a1), (.int p0)])) rfl rfl (hb hby own_d7_31)) ?_
          show OG p e below _ _ (s₁.setTop (mkF m 32 #[.val (.int p0), .val (.ref a1)] [(.int c4), (.int p0)]))
          by_cases hc15 : p0 = c4
          · skip
            refine o_icmpN (pc' := 35) X0 hx rfl (hb hby own_d7_32) (teq hc15).2 ?_
            refine o_iconst (z := (1 : Int32)) X0 hx rfl (hb hby own_d7_35) (by decide) ?_
            refine o_goto (pc' := 40) X0 hx (hb hby own_d7_36) (by decide) (by decide) ?_
            exact o_retB X0 hx Bd.returns (own_lv X0 hlk (by decide +kernel) (by decide +kernel)) (hb hby own_d7_40) (by decide) ⟨(by rw [own_f7, if_neg hc3, if_neg hc6, if_neg hc9, if_neg hc12, if_pos hc15]), N0, e0⟩
          · skip
            refine o_icmpY (pc' := 39) X0 hx (hb hby own_d7_32) (feq hc15).2 (by decide) (by decide) ?_
            refine o_iconst (z := (0 : Int32)) X0 hx rfl (hb hby own_d7_39) (by decide) ?_
            exact o_retB X0 hx Bd.returns (own_lv X0 hlk (by decide +kernel) (by decide +kernel)) (hb hby own_d7_40) (by decide) ⟨(by rw [own_f7, if_neg hc3, if_neg hc6, if_neg hc9, if_neg hc12, if_neg hc15]), N0, e0⟩
theorem own_pd0 : parseMethodDescriptor "(I[I)Z" = some ⟨[.int, (.array .int)], some .boolean⟩ := by decide +kernel
theorem own_d5_0 : decode method_3_code 0 = .ok (.iload_n 1, 1) := by decide +kernel
theorem own_d5_1 : decode method_3_code 1 = .ok (.ifCond .ge 5, 3) := by decide +kernel
theorem own_d5_4 : decode method_3_code 4 = .ok (.iconst 1, 1) := by decide +kernel
theorem own_d5_5 : decode method_3_code 5 = .ok (.ireturn, 1) := by decide +kernel
theorem own_d5_6 : decode method_3_code 6 = .ok (.iload_n 0, 1) := by decide +kernel
theorem own_d5_7 : decode method_3_code 7 = .ok (.iload_n 1, 1) := by decide +kernel
theorem own_d5_8 : decode method_3_code 8 = .ok (.if_icmp .le 5, 3) := by decide +kernel
theorem own_d5_11 : decode method_3_code 11 = .ok (.iconst 1, 1) := by decide +kernel
theorem own_d5_12 : decode method_3_code 12 = .ok (.ireturn, 1) := by decide +kernel
theorem own_d5_13 : decode method_3_code 13 = .ok (.iload_n 0, 1) := by decide +kernel
theorem own_d5_14 : decode method_3_code 14 = .ok (.iload_n 1, 1) := by decide +kernel
theorem own_d5_15 : decode method_3_code 15 = .ok (.bipush 32, 2) := by decide +kernel
theorem own_d5_17 : decode method_3_code 17 = .ok (.isub, 1) := by decide +kernel
theorem own_d5_18 : decode method_3_code 18 = .ok (.if_icmp .le 15, 3) := by decide +kernel
theorem own_d5_21 : decode method_3_code 21 = .ok (.iload_n 0, 1) := by decide +kernel
theorem own_d5_22 : decode method_3_code 22 = .ok (.aload_n 2, 1) := by decide +kernel
theorem own_d5_23 : decode method_3_code 23 = .ok (.invokestatic 7, 3) := by decide +kernel
theorem own_d5_26 : decode method_3_code 26 = .ok (.ifCond .ne 7, 3) := by decide +kernel
theorem own_d5_29 : decode method_3_code 29 = .ok (.iconst 1, 1) := by decide +kernel
theorem own_d5_30 : decode method_3_code 30 = .ok (.goto 4, 3) := by decide +kernel
theorem own_d5_33 : decode method_3_code 33 = .ok (.iconst 0, 1) := by decide +kernel
theorem own_d5_34 : decode method_3_code 34 = .ok (.ireturn, 1) := by decide +kernel
def own_f5 (p0 : Int32) (p1 : Int32) (a2 : Addr) (k_a2 : ClassId) (c0 : Int32) (c1 : Int32) (c2 : Int32) (c3 : Int32) (c4 : Int32) : Int32 := (if p1 < (0 : Int32) then (1 : Int32) else (if p1 < p0 then (1 : Int32) else (if (p1 - (32 : Int32)) < p0 then (if (own_f7 p0 a2 k_a2 c0 c1 c2 c3 c4) = (0 : Int32) then (1 : Int32) else (0 : Int32)) else (0 : Int32))))
theorem own_ef5 (m : MethodId) (p0 : Int32) (p1 : Int32) (a2 : Addr) : entryFrame m #[(.int p0), (.int p1), (.ref a2)] 3 = mkF m 0 #[.val (.int p0), .val (.int p1), .val (.ref a2)] [] := by first | (simp [entryFrame, mkF, argsToLocals, Value.category]; done) | rfl
def own_Q5 (Z : State) (p0 : Int32) (p1 : Int32) (a2 : Addr) (k_a2 : ClassId) (c0 : Int32) (c1 : Int32) (c2 : Int32) (c3 : Int32) (c4 : Int32) (h0 : Heap) (n0 : Nat) (v : Option Value) (h : Heap) (L : List Loc) : Prop := v = some (.int (own_f5 p0 p1 a2 k_a2 c0 c1 c2 c3 c4)) ∧ Fr n0 L ∧ h = h0
set_option maxRecDepth 65536 in
set_option maxHeartbeats 40000000 in
theorem own_rm5 (l : Launch) (Z : State) (aA : Array Value) (hw : ∀ d ∈ tables_1, d.before aA Z = true) (ws : List Jvm.Cond) (p0 : Int32) (p1 : Int32) (a2 : Addr) (k_a2 : ClassId) (c0 : Int32) (c1 : Int32) (c2 : Int32) (c3 : Int32) (c4 : Int32) (h0 : Heap) (n0 : Nat) (Z0 : n0 ≤ h0.size) (pre0 : Arv Z h0 a2 k_a2 .int (5 : Int32) [(.int c0), (.int c1), (.int c2), (.int c3), (.int c4)] (.int (0 : Int32))) :
    MetFree l (⟨"com/example/hermod/hermod/osp/SequenceWindowAcceptPinLaw", "expected", "(II[I)Z"⟩ : MethodName) (head1 (Jvm.Cond.code (⟨"com/example/hermod/hermod/osp/SequenceWindowAcceptPinLaw", "expected", "(II[I)Z"⟩ : MethodName) method_3_code 3 (some .boolean) :: ws) ({ frames := 1, cells := 0, slots := 0, locals := 13 } : Room)) (fun a U => a = #[(.int p0), (.int p1), (.ref a2)] ∧ Z.Warmed39 U.vm ∧ U.heap = h0) (fun _ _ _ _ _ => True) (fun _ U o U' => ∃ v L, o = .returned v ∧ own_Q5 Z p0 p1 a2 k_a2 c0 c1 c2 c3 c4 h0 n0 v U'.heap L ∧ FrameEnd U o U' L ({ frames := 1, cells := 0, slots := 0, locals := 13 } : Room).cells ({ frames := 1, cells := 0, slots := 0, locals := 13 } : Room).slots) := by
  refine MetFree.of_bodySF (plainFor_of_name own_pn22) hisR ?_
  intro p e s m args below meth c s₁ Bd hml0 hP hK
  obtain ⟨rfl, hZ, hh⟩ := hP
  have hx := Bd.exec
  have hby := Bd.bytes
  have hlk : meth.locks = false := Bd.notSynchronized
  have hml : c.maxLocals = 3 := hml0
  have hown : s.vm.findClass "com/example/hermod/hermod/osp/SequenceWindowAcceptPinLaw" = some m.cls := findClass_of_methodNamed Bd.named
  have hnm := (name_of_methodNamed Bd.named Bd.method).1
  have X0 : Stand p l e ({ frames := 1, cells := 0, slots := 0, locals := 13 } : Room) s m #[(.int p0), (.int p1), (.ref a2)] below meth c s₁ [] 0 0 := Stand.of_body Bd
  have e0 : s₁.heap = h0 := by rw [← hh, Bd.state]; rfl
  have N0 := Fr.nil n0
  show OG p e below (FE s ({ frames := 1, cells := 0, slots := 0, locals := 13 } : Room).cells ({ frames := 1, cells := 0, slots := 0, locals := 13 } : Room).slots) (own_Q5 Z p0 p1 a2 k_a2 c0 c1 c2 c3 c4 h0 n0) (s₁.setTop (entryFrame m #[(.int p0), (.int p1), (.ref a2)] 3))
  refine og_of (fun _ k => castTop (own_ef5 m p0 p1 a2) k) ?_
  refine o_iloadN X0 hx rfl (hb hby own_d5_0) rfl ?_
  by_cases hc1 : p1 < (0 : Int32)
  · skip
    refine o_ifN (pc' := 4) X0 hx rfl (hb hby own_d5_1) ((if0 _ _).trans (tlt hc1).2.1) ?_
    refine o_iconst (z := (1 : Int32)) X0 hx rfl (hb hby own_d5_4) (by decide) ?_
    exact o_retB X0 hx Bd.returns (own_lv X0 hlk (by decide +kernel) (by decide +kernel)) (hb hby own_d5_5) (by decide) ⟨(by rw [own_f5, if_pos hc1]), N0, e0⟩
  · skip
    refine o_ifY (pc' := 6) X0 hx (hb hby own_d5_1) ((if0 _ _).trans (flt hc1).2.1) (by decide) (by decide) ?_
    refine o_iloadN X0 hx rfl (hb hby own_d5_6) rfl ?_
    refine o_iloadN X0 hx rfl (hb hby own_d5_7) rfl ?_
    by_cases hc2 : p1 < p0
    · skip
      refine o_icmpN (pc' := 11) X0 hx rfl (hb hby own_d5_8) (tlt hc2).2.2.2 ?_
      refine o_iconst (z := (1 : Int32)) X0 hx rfl (hb hby own_d5_11) (by decide) ?_
      exact o_retB X0 hx Bd.returns (own_lv X0 hlk (by decide +kernel) (by decide +kernel)) (hb hby own_d5_12) (by decide) ⟨(by rw [own_f5, if_neg hc1, if_pos hc2]), N0, e0⟩
    · skip
      refine o_icmpY (pc' := 13) X0 hx (hb hby own_d5_8) (flt hc2).2.2.2 (by decide) (by decide) ?_
      refine o_iloadN X0 hx rfl (hb hby own_d5_13) rfl ?_
      refine o_iloadN X0 hx rfl (hb hby own_d5_14) rfl ?_
      refine o_bipush (z := (32 : Int32)) X0 hx rfl (hb hby own_d5_15) (by decide) ?_
      obtain ⟨z3, hz3⟩ : ∃ z : Int32, p1 - (32 : Int32) = z := ⟨_, rfl⟩
      refine o_isub (z := z3) X0 hx rfl (hb hby own_d5_17) hz3 ?_
      by_cases hc4 : z3 < p0
      · skip
        refine o_icmpN (pc' := 21) X0 hx rfl (hb hby own_d5_18) (tlt hc4).2.2.2 ?_
        refine o_iloadN X0 hx rfl (hb hby own_d5_21) rfl ?_
        refine o_aloadN X0 hx rfl (hb hby own_d5_22) rfl rfl ?_
        obtain ⟨_, _, ⟨T5, L5, k5, n5⟩, -, X5, ⟨Lc5, hQ5, l5, y5, z5⟩, st5⟩ := Jvm.LawKit.callS X0 hx (y := (⟨"com/example/hermod/hermod/osp/SequenceWindowAcceptPinLaw", "in", "(I[I)Z"⟩ : MethodName)) hown (mvT hZ (hw _ (List.mem_of_getElem? (i := 30) rfl))) (mvT hZ (hw _ (List.mem_of_getElem? (i := 31) rfl))) (mvT hZ (hw _ (List.mem_of_getElem? (i := 4) rfl))) (mvT hZ (hw _ (List.mem_of_getElem? (i := 32) rfl))) (by decide) (backOf (W := 0) (own_rm7 l Z aA hw [] p0 a2 k_a2 c0 c1 c2 c3 c4 h0 n0 Z0 pre0) hZ (hw _ (List.mem_of_getElem? (i := 32) rfl)) (hw _ (List.mem_of_getElem? (i := 4) rfl)) (by decide) (by decide)) (g := (mkF m 23 #[.val (.int p0), .val (.int p1), .val (.ref a2)] [(.ref a2), (.int p0)])) rfl (by rw [hml]; rfl) (argsL := [(.int p0), (.ref a2)]) (rest := []) (lenOf own_pd0 rfl) rfl (by show 2 * 0 + _ ≤ _; exact Nat.le_of_eq rfl) (hb hby own_d5_23) (fun _ _ => ⟨rfl, e0, (by dsimp only [Pt.cells, Pt.slots]; decide +kernel), (by dsimp only [Pt.cells, Pt.slots]; decide +kernel)⟩)
        dsimp only [Pt.U, Pt.locs, Pt.cells, Pt.slots] at X5 l5 y5 z5 st5 hQ5
        rw [l5, y5, z5] at X5
        obtain ⟨rfl, N5q, ee5⟩ := hQ5
        have N6 := Fr.app N0 N5q
        refine og_of st5 ?_
        show OG p e below _ _ (T5.setTop (mkF m 26 #[.val (.int p0), .val (.int p1), .val (.ref a2)] [(.int (own_f7 p0 a2 k_a2 c0 c1 c2 c3 c4))]))
        by_cases hc7 : (own_f7 p0 a2 k_a2 c0 c1 c2 c3 c4) = (0 : Int32)
        · skip
          refine o_ifN (pc' := 29) X5 hx rfl (hb hby own_d5_26) ((if0 _ _).trans (teq hc7).2) ?_
          refine o_iconst (z := (1 : Int32)) X5 hx rfl (hb hby own_d5_29) (by decide) ?_
          refine o_goto (pc' := 34) X5 hx (hb hby own_d5_30) (by decide) (by decide) ?_
          subst hz3
          exact o_retB X5 hx Bd.returns (own_lv X5 hlk (by decide +kernel) (by decide +kernel)) (hb hby own_d5_34) (by decide) ⟨(by rw [own_f5, if_neg hc1, if_neg hc2, if_pos hc4, if_pos hc7]), N6, ee5⟩
        · skip
          refine o_ifY (pc' := 33) X5 hx (hb hby own_d5_26) ((if0 _ _).trans (feq hc7).2) (by decide) (by decide) ?_
          refine o_iconst (z := (0 : Int32)) X5 hx rfl (hb hby own_d5_33) (by decide) ?_
          subst hz3
          exact o_retB X5 hx Bd.returns (own_lv X5 hlk (by decide +kernel) (by decide +kernel)) (hb hby own_d5_34) (by decide) ⟨(by rw [own_f5, if_neg hc1, if_neg hc2, if_pos hc4, if_neg hc7]), N6, ee5⟩
      · skip
        refine o_icmpY (pc' := 33) X0 hx (hb hby own_d5_18) (flt hc4).2.2.2 (by decide) (by decide) ?_
        refine o_iconst (z := (0 : Int32)) X0 hx rfl (hb hby own_d5_33) (by decide) ?_
        subst hz3
        exact o_retB X0 hx Bd.returns (own_lv X0 hlk (by decide +kernel) (by decide +kernel)) (hb hby own_d5_34) (by decide) ⟨(by rw [own_f5, if_neg hc1, if_neg hc2, if_neg hc4]), N0, e0⟩
theorem own_d6_0 : decode prog_19_method_2_code 0 = .ok (.aload_n 0, 1) := by decide +kernel
theorem own_d6_1 : decode prog_19_method_2_code 1 = .ok (.getfield 7, 3) := by decide +kernel
theorem own_d6_4 : decode prog_19_method_2_code 4 = .ok (.ifCond .ge 15, 3) := by decide +kernel
theorem own_d6_7 : decode prog_19_method_2_code 7 = .ok (.aload_n 0, 1) := by decide +kernel
theorem own_d6_8 : decode prog_19_method_2_code 8 = .ok (.iload_n 1, 1) := by decide +kernel
theorem own_d6_9 : decode prog_19_method_2_code 9 = .ok (.putfield 7, 3) := by decide +kernel
theorem own_d6_12 : decode prog_19_method_2_code 12 = .ok (.aload_n 0, 1) := by decide +kernel
theorem own_d6_13 : decode prog_19_method_2_code 13 = .ok (.lconst 1, 1) := by decide +kernel
theorem own_d6_14 : decode prog_19_method_2_code 14 = .ok (.putfield 13, 3) := by decide +kernel
theorem own_d6_17 : decode prog_19_method_2_code 17 = .ok (.iconst 1, 1) := by decide +kernel
theorem own_d6_18 : decode prog_19_method_2_code 18 = .ok (.ireturn, 1) := by decide +kernel
theorem own_d6_19 : decode prog_19_method_2_code 19 = .ok (.iload_n 1, 1) := by decide +kernel
theorem own_d6_20 : decode prog_19_method_2_code 20 = .ok (.aload_n 0, 1) := by decide +kernel
theorem own_d6_21 : decode prog_19_method_2_code 21 = .ok (.getfield 7, 3) := by decide +kernel
theorem own_d6_24 : decode prog_19_method_2_code 24 = .ok (.isub, 1) := by decide +kernel
theorem own_d6_25 : decode prog_19_method_2_code 25 = .ok (.istore_n 2, 1) := by decide +kernel
theorem own_d6_26 : decode prog_19_method_2_code 26 = .ok (.iload_n 2, 1) := by decide +kernel
theorem own_d6_27 : decode prog_19_method_2_code 27 = .ok (.ifCond .le 35, 3) := by decide +kernel
theorem own_d6_30 : decode prog_19_method_2_code 30 = .ok (.aload_n 0, 1) := by decide +kernel
theorem own_d6_31 : decode prog_19_method_2_code 31 = .ok (.iload_n 2, 1) := by decide +kernel
theorem own_d6_32 : decode prog_19_method_2_code 32 = .ok (.bipush 32, 2) := by decide +kernel
theorem own_d6_34 : decode prog_19_method_2_code 34 = .ok (.if_icmp .ge 14, 3) := by decide +kernel
theorem own_d6_37 : decode prog_19_method_2_code 37 = .ok (.aload_n 0, 1) := by decide +kernel
theorem own_d6_38 : decode prog_19_method_2_code 38 = .ok (.getfield 13, 3) := by decide +kernel
theorem own_d6_41 : decode prog_19_method_2_code 41 = .ok (.iload_n 2, 1) := by decide +kernel
theorem own_d6_42 : decode prog_19_method_2_code 42 = .ok (.lshl, 1) := by decide +kernel
theorem own_d6_43 : decode prog_19_method_2_code 43 = .ok (.lconst 1, 1) := by decide +kernel
theorem own_d6_44 : decode prog_19_method_2_code 44 = .ok (.lor, 1) := by decide +kernel
theorem own_d6_45 : decode prog_19_method_2_code 45 = .ok (.goto 4, 3) := by decide +kernel
theorem own_d6_48 : decode prog_19_method_2_code 48 = .ok (.lconst 1, 1) := by decide +kernel
theorem own_d6_49 : decode prog_19_method_2_code 49 = .ok (.putfield 13, 3) := by decide +kernel
theorem own_d6_52 : decode prog_19_method_2_code 52 = .ok (.aload_n 0, 1) := by decide +kernel
theorem own_d6_53 : decode prog_19_method_2_code 53 = .ok (.iload_n 1, 1) := by decide +kernel
theorem own_d6_54 : decode prog_19_method_2_code 54 = .ok (.putfield 7, 3) := by decide +kernel
theorem own_d6_57 : decode prog_19_method_2_code 57 = .ok (.iconst 1, 1) := by decide +kernel
theorem own_d6_58 : decode prog_19_method_2_code 58 = .ok (.istore_n 3, 1) := by decide +kernel
theorem own_d6_59 : decode prog_19_method_2_code 59 = .ok (.goto 44, 3) := by decide +kernel
theorem own_d6_62 : decode prog_19_method_2_code 62 = .ok (.iload_n 2, 1) := by decide +kernel
theorem own_d6_63 : decode prog_19_method_2_code 63 = .ok (.ineg, 1) := by decide +kernel
theorem own_d6_64 : decode prog_19_method_2_code 64 = .ok (.bipush 32, 2) := by decide +kernel
theorem own_d6_66 : decode prog_19_method_2_code 66 = .ok (.if_icmp .ge 35, 3) := by decide +kernel
theorem own_d6_69 : decode prog_19_method_2_code 69 = .ok (.aload_n 0, 1) := by decide +kernel
theorem own_d6_70 : decode prog_19_method_2_code 70 = .ok (.getfield 13, 3) := by decide +kernel
theorem own_d6_73 : decode prog_19_method_2_code 73 = .ok (.lconst 1, 1) := by decide +kernel
theorem own_d6_74 : decode prog_19_method_2_code 74 = .ok (.iload_n 2, 1) := by decide +kernel
theorem own_d6_75 : decode prog_19_method_2_code 75 = .ok (.ineg, 1) := by decide +kernel
theorem own_d6_76 : decode prog_19_method_2_code 76 = .ok (.lshl, 1) := by decide +kernel
theorem own_d6_77 : decode prog_19_method_2_code 77 = .ok (.land, 1) := by decide +kernel
theorem own_d6_78 : decode prog_19_method_2_code 78 = .ok (.lconst 0, 1) := by decide +kernel
theorem own_d6_79 : decode prog_19_method_2_code 79 = .ok (.lcmp, 1) := by decide +kernel
theorem own_d6_80 : decode prog_19_method_2_code 80 = .ok (.ifCond .ne 21, 3) := by decide +kernel
theorem own_d6_83 : decode prog_19_method_2_code 83 = .ok (.aload_n 0, 1) := by decide +kernel
theorem own_d6_84 : decode prog_19_method_2_code 84 = .ok (.dup, 1) := by decide +kernel
theorem own_d6_85 : decode prog_19_method_2_code 85 = .ok (.getfield 13, 3) := by decide +kernel
theorem own_d6_88 : decode prog_19_method_2_code 88 = .ok (.lconst 1, 1) := by decide +kernel
theorem own_d6_89 : decode prog_19_method_2_code 89 = .ok (.iload_n 2, 1) := by decide +kernel
theorem own_d6_90 : decode prog_19_method_2_code 90 = .ok (.ineg, 1) := by decide +kernel
theorem own_d6_91 : decode prog_19_method_2_code 91 = .ok (.lshl, 1) := by decide +kernel
theorem own_d6_92 : decode prog_19_method_2_code 92 = .ok (.lor, 1) := by decide +kernel
theorem own_d6_93 : decode prog_19_method_2_code 93 = .ok (.putfield 13, 3) := by decide +kernel
theorem own_d6_96 : decode prog_19_method_2_code 96 = .ok (.iconst 1, 1) := by decide +kernel
theorem own_d6_97 : decode prog_19_method_2_code 97 = .ok (.istore_n 3, 1) := by decide +kernel
theorem own_d6_98 : decode prog_19_method_2_code 98 = .ok (.goto 5, 3) := by decide +kernel
theorem own_d6_101 : decode prog_19_method_2_code 101 = .ok (.iconst 0, 1) := by decide +kernel
theorem own_d6_102 : decode prog_19_method_2_code 102 = .ok (.istore_n 3, 1) := by decide +kernel
theorem own_d6_103 : decode prog_19_method_2_code 103 = .ok (.iload_n 3, 1) := by decide +kernel
theorem own_d6_104 : decode prog_19_method_2_code 104 = .ok (.ireturn, 1) := by decide +kernel
def own_f6 (a0 : Addr) (p1 : Int32) (w1 : Int32) (w2 : Int64) : Int32 := (if w1 < (0 : Int32) then (1 : Int32) else (if (0 : Int32) < (p1 - w1) then (if (p1 - w1) < (32 : Int32) then (1 : Int32) else (1 : Int32)) else (if (-(p1 - w1)) < (32 : Int32) then (if (w2 &&& ((1 : Int64) <<< ((-(p1 - w1)) &&& 0x3f).toInt64)) = (0 : Int64) then (1 : Int32) else (0 : Int32)) else (0 : Int32))))
def own_f6_H (a0 : Addr) (p1 : Int32) (w1 : Int32) (w2 : Int64) : Int32 := (if w1 < (0 : Int32) then p1 else (if (0 : Int32) < (p1 - w1) then (if (p1 - w1) < (32 : Int32) then p1 else p1) else (if (-(p1 - w1)) < (32 : Int32) then (if (w2 &&& ((1 : Int64) <<< ((-(p1 - w1)) &&& 0x3f).toInt64)) = (0 : Int64) then w1 else w1) else w1)))
def own_f6_A (a0 : Addr) (p1 : Int32) (w1 : Int32) (w2 : Int64) : Int64 := (if w1 < (0 : Int32) then (1 : Int64) else (if (0 : Int32) < (p1 - w1) then (if (p1 - w1) < (32 : Int32) then ((w2 <<< ((p1 - w1) &&& 0x3f).toInt64) ||| (1 : Int64)) else (1 : Int64)) else (if (-(p1 - w1)) < (32 : Int32) then (if (w2 &&& ((1 : Int64) <<< ((-(p1 - w1)) &&& 0x3f).toInt64)) = (0 : Int64) then (w2 ||| ((1 : Int64) <<< ((-(p1 - w1)) &&& 0x3f).toInt64)) else w2) else w2)))
theorem own_ef6 (m : MethodId) (a0 : Addr) (p1 : Int32) : entryFrame m #[(.ref a0), (.int p1)] 4 = mkF m 0 #[.val (.ref a0), .val (.int p1), .unset, .unset] [] := by first | (simp [entryFrame, mkF, argsToLocals, Value.category]; done) | rfl
def own_Q6 (Z : State) (a0 : Addr) (p1 : Int32) (w1 : Int32) (w2 : Int64) (h0 : Heap) (n0 : Nat) (v : Option Value) (h : Heap) (L : List Loc) : Prop := v = some (.int (own_f6 a0 p1 w1 w2)) ∧ Fr n0 L ∧ Keep h0 h [a0] ∧ Fld Z h a0 "com/example/hermod/hermod/osp/SequenceWindow" "m_nHighest" "I" (.int (own_f6_H a0 p1 w1 w2)) ∧ Fld Z h a0 "com/example/hermod/hermod/osp/SequenceWindow" "m_nAccepted" "J" (.long (own_f6_A a0 p1 w1 w2))
set_option maxRecDepth 65536 in
set_option maxHeartbeats 40000000 in
theorem own_rm6 (l : Launch) (Z : State) (aA : Array Value) (hw : ∀ d ∈ tables_1, d.before aA Z = true) (ws : List Jvm.Cond) (a0 : Addr) (p1 : Int32) (w1 : Int32) (w2 : Int64) (h0 : Heap) (n0 : Nat) (Z0 : n0 ≤ h0.size) (pre0 : Exa Z h0 a0 "com/example/hermod/hermod/osp/SequenceWindow") (pre1 : n0 ≤ a0) (pre2 : Fld Z h0 a0 "com/example/hermod/hermod/osp/SequenceWindow" "m_nHighest" "I" (.int w1)) (pre3 : Fld Z h0 a0 "com/example/hermod/hermod/osp/SequenceWindow" "m_nAccepted" "J" (.long w2)) :
    MetFree l (⟨"com/example/hermod/hermod/osp/SequenceWindow", "accept", "(I)Z"⟩ : MethodName) (head1 (Jvm.Cond.code (⟨"com/example/hermod/hermod/osp/SequenceWindow", "accept", "(I)Z"⟩ : MethodName) prog_19_method_2_code 4 (some .boolean) :: ws) ({ frames := 0, cells := 0, slots := 0, locals := 0 } : Room)) (fun a U => a = #[(.ref a0), (.int p1)] ∧ Z.Warmed39 U.vm ∧ U.heap = h0) (fun _ _ _ _ _ => True) (fun _ U o U' => ∃ v L, o = .returned v ∧ own_Q6 Z a0 p1 w1 w2 h0 n0 v U'.heap L ∧ FrameEnd U o U' L ({ frames := 0, cells := 0, slots := 0, locals := 0 } : Room).cells ({ frames := 0, cells := 0, slots := 0, locals := 0 } : Room).slots) := by
  refine MetFree.of_bodySF (plainFor_of_name own_pn29) hisR ?_
  intro p e s m args below meth c s₁ Bd hml0 hP hK
  obtain ⟨rfl, hZ, hh⟩ := hP
  have hx := Bd.exec
  have hby := Bd.bytes
  have hlk : meth.locks = false := Bd.notSynchronized
  have hml : c.maxLocals = 4 := hml0
  have hown : s.vm.findClass "com/example/hermod/hermod/osp/SequenceWindow" = some m.cls := findClass_of_methodNamed Bd.named
  have hnm := (name_of_methodNamed Bd.named Bd.method).1
  have X0 : Stand p l e ({ frames := 0, cells := 0, slots := 0, locals := 0 } : Room) s m #[(.ref a0), (.int p1)] below meth c s₁ [] 0 0 := Stand.of_body Bd
  have e0 : s₁.heap = h0 := by rw [← hh, Bd.state]; rfl
  have N0 := Fr.nil n0
  show OG p e below (FE s ({ frames := 0, cells := 0, slots := 0, locals := 0 } : Room).cells ({ frames := 0, cells := 0, slots := 0, locals := 0 } : Room).slots) (own_Q6 Z a0 p1 w1 w2 h0 n0) (s₁.setTop (entryFrame m #[(.ref a0), (.int p1)] 4))
  refine og_of (fun _ k => castTop (own_ef6 m a0 p1) k) ?_
  refine o_aloadN X0 hx rfl (hb hby own_d6_0) rfl rfl ?_
  obtain ⟨T1, X1, e1, st1⟩ := getF X0 hx hZ hown (host := "") (Or.inl (hw _ (List.mem_of_getElem? (i := 15) rfl))) Via.refl e0 pre2 (g := (mkF m 1 #[.val (.ref a0), .val (.int p1), .unset, .unset] [(.ref a0)])) rfl rfl (hb hby own_d6_1)
  refine og_of st1 ?_
  show OG p e below _ _ (T1.setTop (mkF m 4 #[.val (.ref a0), .val (.int p1), .unset, .unset] [(.int w1)]))
  by_cases hc2 : w1 < (0 : Int32)
  · skip
    refine o_ifN (pc' := 7) X1 hx rfl (hb hby own_d6_4) ((if0 _ _).trans (tlt hc2).2.1) ?_
    refine o_aloadN X1 hx rfl (hb hby own_d6_7) rfl rfl ?_
    refine o_iloadN X1 hx rfl (hb hby own_d6_8) rfl ?_
    obtain ⟨T3, h3, X3, e3, W3, st3⟩ := putF X1 hx hZ hown (host := "") (Or.inl (hw _ (List.mem_of_getElem? (i := 15) rfl))) Via.refl e1 pre2 pre0 (Or.inl (hw _ (List.mem_of_getElem? (i := 16) rfl))) (hw _ (List.mem_of_getElem? (i := 7) rfl)) (ty := .int) (by decide) rfl rfl (g := (mkF m 9 #[.val (.ref a0), .val (.int p1), .unset, .unset] [(.int p1), (.ref a0)])) rfl rfl (hb hby own_d6_9)
    have Fw3 := pre2.same W3
    have N3 := Fr.snoc X3 N0 pre1
    have Kp4 : Keep h0 h3 [a0] := (Keep.refl h0 [a0]).wr W3 (Or.inl (List.mem_of_getElem? (i := 0) rfl))
    refine og_of st3 ?_
    show OG p e below _ _ (T3.setTop (mkF m 12 #[.val (.ref a0), .val (.int p1), .unset, .unset] []))
    refine o_aloadN X3 hx rfl (hb hby own_d6_12) rfl rfl ?_
    refine o_lconst (z := (1 : Int64)) X3 hx rfl (hb hby own_d6_13) (by decide) ?_
    have Fc5 : Exa Z h3 a0 "com/example/hermod/hermod/osp/SequenceWindow" := (Exa.wr W3 pre0)
    have Fc6 : Fld Z h3 a0 "com/example/hermod/hermod/osp/SequenceWindow" "m_nAccepted" "J" (.long w2) := (Fld.other W3 pre3 (Or.inr (slot_ne (Or.inl (hw _ (List.mem_of_getElem? (i := 29) rfl))) (Or.inl (hw _ (List.mem_of_getElem? (i := 16) rfl))) (by decide) (t := .long) (t' := .int) (by decide) (by decide))))
    obtain ⟨T7, h7, X7, e7, W7, st7⟩ := putF X3 hx hZ hown (host := "") (Or.inl (hw _ (List.mem_of_getElem? (i := 28) rfl))) Via.refl e3 Fc6 Fc5 (Or.inl (hw _ (List.mem_of_getElem? (i := 29) rfl))) (hw _ (List.mem_of_getElem? (i := 7) rfl)) (ty := .long) (by decide) rfl rfl (g := (mkF m 14 #[.val (.ref a0), .val (.int p1), .unset, .unset] [(.long (1 : Int64)), (.ref a0)])) rfl rfl (hb hby own_d6_14)
    have Fw7 := Fc6.same W7
    have N7 := Fr.snoc X7 N3 pre1
    have Kp8 : Keep h0 h7 [a0] := Kp4.wr W7 (Or.inl (List.mem_of_getElem? (i := 0) rfl))
    refine og_of st7 ?_
    show OG p e below _ _ (T7.setTop (mkF m 17 #[.val (.ref a0), .val (.int p1), .unset, .unset] []))
    refine o_iconst (z := (1 : Int32)) X7 hx rfl (hb hby own_d6_17) (by decide) ?_
    have Fc9 : Fld Z h7 a0 "com/example/hermod/hermod/osp/SequenceWindow" "m_nHighest" "I" (.int p1) := (Fld.other W7 Fw3 (Or.inr (slot_ne (Or.inl (hw _ (List.mem_of_getElem? (i := 16) rfl))) (Or.inl (hw _ (List.mem_of_getElem? (i := 29) rfl))) (by decide) (t := .int) (t' := .long) (by decide) (by decide))))
    exact o_retB X7 hx Bd.returns (own_lv X7 hlk (by decide +kernel) (by decide +kernel)) (hb hby own_d6_18) (by decide) ⟨(by rw [own_f6, if_pos hc2]), N7, (by rw [e7]; exact Kp8), (by rw [e7, show (own_f6_H a0 p1 w1 w2) = p1 from (by simp only [own_f6_H, if_pos hc2])]; exact Fc9), (by rw [e7, show (own_f6_A a0 p1 w1 w2) = (1 : Int64) from (by simp only [own_f6_A, if_pos hc2])]; exact Fw7)⟩
  · skip
    refine o_ifY (pc' := 19) X1 hx (hb hby own_d6_4) ((if0 _ _).trans (flt hc2).2.1) (by decide) (by decide) ?_
    refine o_iloadN X1 hx rfl (hb hby own_d6_19) rfl ?_
    refine o_aloadN X1 hx rfl (hb hby own_d6_20) rfl rfl ?_
    obtain ⟨T10, X10, e10, st10⟩ := getF X1 hx hZ hown (host := "") (Or.inl (hw _ (List.mem_of_getElem? (i := 15) rfl))) Via.refl e1 pre2 (g := (mkF m 21 #[.val (.ref a0), .val (.int p1), .unset, .unset] [(.ref a0), (.int p1)])) rfl rfl (hb hby own_d6_21)
    refine og_of st10 ?_
    show OG p e below _ _ (T10.setTop (mkF m 24 #[.val (.ref a0), .val (.int p1), .unset, .unset] [(.int w1), (.int p1)]))
    refine o_isub (z := (p1 - w1)) X10 hx rfl (hb hby own_d6_24) rfl ?_
    refine o_istoreN X10 hx rfl (hb hby own_d6_25) (L' := #[.val (.ref a0), .val (.int p1), .val (.int (p1 - w1)), .unset]) rfl ?_
    refine o_iloadN X10 hx rfl (hb hby own_d6_26) rfl ?_
    by_cases hc11 : (0 : Int32) < (p1 - w1)
    · skip
      refine o_ifN (pc' := 30) X10 hx rfl (hb hby own_d6_27) ((if0 _ _).trans (tlt hc11).2.2.2) ?_
      refine o_aloadN X10 hx rfl (hb hby own_d6_30) rfl rfl ?_
      refine o_iloadN X10 hx rfl (hb hby own_d6_31) rfl ?_
      refine o_bipush (z := (32 : Int32)) X10 hx rfl (hb hby own_d6_32) (by decide) ?_
      by_cases hc12 : (p1 - w1) < (32 : Int32)
      · skip
        refine o_icmpN (pc' := 37) X10 hx rfl (hb hby own_d6_34) (tlt hc12).2.1 ?_
        refine o_aloadN X10 hx rfl (hb hby own_d6_37) rfl rfl ?_
        obtain ⟨T13, X13, e13, st13⟩ := getF X10 hx hZ hown (host := "") (Or.inl (hw _ (List.mem_of_getElem? (i := 28) rfl))) Via.refl e10 pre3 (g := (mkF m 38 #[.val (.ref a0), .val (.int p1), .val (.int (p1 - w1)), .unset] [(.ref a0), (.ref a0)])) rfl rfl (hb hby own_d6_38)
        refine og_of st13 ?_
        show OG p e below _ _ (T13.setTop (mkF m 41 #[.val (.ref a0), .val (.int p1), .val (.int (p1 - w1)), .unset] [(.long w2), (.ref a0)]))
        refine o_iloadN X13 hx rfl (hb hby own_d6_41) rfl ?_
        refine o_lshl (z := (w2 <<< ((p1 - w1) &&& 0x3f).toInt64)) X13 hx rfl (hb hby own_d6_42) rfl ?_
        refine o_lconst (z := (1 : Int64)) X13 hx rfl (hb hby own_d6_43) (by decide) ?_
        refine o_lor (z := ((w2 <<< ((p1 - w1) &&& 0x3f).toInt64) ||| (1 : Int64))) X13 hx rfl (hb hby own_d6_44) rfl ?_
        refine o_goto (pc' := 49) X13 hx (hb hby own_d6_45) (by decide) (by decide) ?_
        obtain ⟨T14, h14, X14, e14, W14, st14⟩ := putF X13 hx hZ hown (host := "") (Or.inl (hw _ (List.mem_of_getElem? (i := 28) rfl))) Via.refl e13 pre3 pre0 (Or.inl (hw _ (List.mem_of_getElem? (i := 29) rfl))) (hw _ (List.mem_of_getElem? (i := 7) rfl)) (ty := .long) (by decide) rfl rfl (g := (mkF m 49 #[.val (.ref a0), .val (.int p1), .val (.int (p1 - w1)), .unset] [(.long ((w2 <<< ((p1 - w1) &&& 0x3f).toInt64) ||| (1 : Int64))), (.ref a0)])) rfl rfl (hb hby own_d6_49)
        have Fw14 := pre3.same W14
        have N14 := Fr.snoc X14 N0 pre1
        have Kp15 : Keep h0 h14 [a0] := (Keep.refl h0 [a0]).wr W14 (Or.inl (List.mem_of_getElem? (i := 0) rfl))
        refine og_of st14 ?_
        show OG p e below _ _ (T14.setTop (mkF m 52 #[.val (.ref a0), .val (.int p1), .val (.int (p1 - w1)), .unset] []))
        refine o_aloadN X14 hx rfl (hb hby own_d6_52) rfl rfl ?_
        refine o_iloadN X14 hx rfl (hb hby own_d6_53) rfl ?_
        have Fc16 : Exa Z h14 a0 "com/example/hermod/hermod/osp/SequenceWindow" := (Exa.wr W14 pre0)
        have Fc17 : Fld Z h14 a0 "com/example/hermod/hermod/osp/SequenceWindow" "m_nHighest" "I" (.int w1) := (Fld.other W14 pre2 (Or.inr (slot_ne (Or.inl (hw _ (List.mem_of_getElem? (i := 16) rfl))) (Or.inl (hw _ (List.mem_of_getElem? (i := 29) rfl))) (by decide) (t := .int) (t' := .long) (by decide) (by decide))))
        obtain ⟨T18, h18, X18, e18, W18, st18⟩ := putF X14 hx hZ hown (host := "") (Or.inl (hw _ (List.mem_of_getElem? (i := 15) rfl))) Via.refl e14 Fc17 Fc16 (Or.inl (hw _ (List.mem_of_getElem? (i := 16) rfl))) (hw _ (List.mem_of_getElem? (i := 7) rfl)) (ty := .int) (by decide) rfl rfl (g := (mkF m 54 #[.val (.ref a0), .val (.int p1), .val (.int (p1 - w1)), .unset] [(.int p1), (.ref a0)])) rfl rfl (hb hby own_d6_54)
        have Fw18 := Fc17.same W18
        have N18 := Fr.snoc X18 N14 pre1
        have Kp19 : Keep h0 h18 [a0] := Kp15.wr W18 (Or.inl (List.mem_of_getElem? (i := 0) rfl))
        refine og_of st18 ?_
        show OG p e below _ _ (T18.setTop (mkF m 57 #[.val (.ref a0), .val (.int p1), .val (.int (p1 - w1)), .unset] []))
        refine o_iconst (z := (1 : Int32)) X18 hx rfl (hb hby own_d6_57) (by decide) ?_
        refine o_istoreN X18 hx rfl (hb hby own_d6_58) (L' := #[.val (.ref a0), .val (.int p1), .val (.int (p1 - w1)), .val (.int (1 : Int32))]) rfl ?_
        refine o_goto (pc' := 103) X18 hx (hb hby own_d6_59) (by decide) (by decide) ?_
        refine o_iloadN X18 hx rfl (hb hby own_d6_103) rfl ?_
        have Fc20 : Fld Z h18 a0 "com/example/hermod/hermod/osp/SequenceWindow" "m_nAccepted" "J" (.long ((w2 <<< ((p1 - w1) &&& 0x3f).toInt64) ||| (1 : Int64))) := (Fld.other W18 Fw14 (Or.inr (slot_ne (Or.inl (hw _ (List.mem_of_getElem? (i := 29) rfl))) (Or.inl (hw _ (List.mem_of_getElem? (i := 16) rfl))) (by decide) (t := .long) (t' := .int) (by decide) (by decide))))
        exact o_retB X18 hx Bd.returns (own_lv X18 hlk (by decide +kernel) (by decide +kernel)) (hb hby own_d6_104) (by decide) ⟨(by rw [own_f6, if_neg hc2, if_pos hc11, if_pos hc12]), N18, (by rw [e18]; exact Kp19), (by rw [e18, show (own_f6_H a0 p1 w1 w2) = p1 from (by simp only [own_f6_H, if_neg hc2, if_pos hc11, if_pos hc12])]; exact Fw18), (by rw [e18, show (own_f6_A a0 p1 w1 w2) = ((w2 <<< ((p1 - w1) &&& 0x3f).toInt64) ||| (1 : Int64)) from (by simp only [own_f6_A, if_neg hc2, if_pos hc11, if_pos hc12])]; exact Fc20)⟩
      · skip
        refine o_icmpY (pc' := 48) X10 hx (hb hby own_d6_34) (flt hc12).2.1 (by decide) (by decide) ?_
        refine o_lconst (z := (1 : Int64)) X10 hx rfl (hb hby own_d6_48) (by decide) ?_
        obtain ⟨T21, h21, X21, e21, W21, st21⟩ := putF X10 hx hZ hown (host := "") (Or.inl (hw _ (List.mem_of_getElem? (i := 28) rfl))) Via.refl e10 pre3 pre0 (Or.inl (hw _ (List.mem_of_getElem? (i := 29) rfl))) (hw _ (List.mem_of_getElem? (i := 7) rfl)) (ty := .long) (by decide) rfl rfl (g := (mkF m 49 #[.val (.ref a0), .val (.int p1), .val (.int (p1 - w1)), .unset] [(.long (1 : Int64)), (.ref a0)])) rfl rfl (hb hby own_d6_49)
        have Fw21 := pre3.same W21
        have N21 := Fr.snoc X21 N0 pre1
        have Kp22 : Keep h0 h21 [a0] := (Keep.refl h0 [a0]).wr W21 (Or.inl (List.mem_of_getElem? (i := 0) rfl))
        refine og_of st21 ?_
        show OG p e below _ _ (T21.setTop (mkF m 52 #[.val (.ref a0), .val (.int p1), .val (.int (p1 - w1)), .unset] []))
        refine o_aloadN X21 hx rfl (hb hby own_d6_52) rfl rfl ?_
        refine o_iloadN X21 hx rfl (hb hby own_d6_53) rfl ?_
        have Fc23 : Exa Z h21 a0 "com/example/hermod/hermod/osp/SequenceWindow" := (Exa.wr W21 pre0)
        have Fc24 : Fld Z h21 a0 "com/example/hermod/hermod/osp/SequenceWindow" "m_nHighest" "I" (.int w1) := (Fld.other W21 pre2 (Or.inr (slot_ne (Or.inl (hw _ (List.mem_of_getElem? (i := 16) rfl))) (Or.inl (hw _ (List.mem_of_getElem? (i := 29) rfl))) (by decide) (t := .int) (t' := .long) (by decide) (by decide))))
        obtain ⟨T25, h25, X25, e25, W25, st25⟩ := putF X21 hx hZ hown (host := "") (Or.inl (hw _ (List.mem_of_getElem? (i := 15) rfl))) Via.refl e21 Fc24 Fc23 (Or.inl (hw _ (List.mem_of_getElem? (i := 16) rfl))) (hw _ (List.mem_of_getElem? (i := 7) rfl)) (ty := .int) (by decide) rfl rfl (g := (mkF m 54 #[.val (.ref a0), .val (.int p1), .val (.int (p1 - w1)), .unset] [(.int p1), (.ref a0)])) rfl rfl (hb hby own_d6_54)
        have Fw25 := Fc24.same W25
        have N25 := Fr.snoc X25 N21 pre1
        have Kp26 : Keep h0 h25 [a0] := Kp22.wr W25 (Or.inl (List.mem_of_getElem? (i := 0) rfl))
        refine og_of st25 ?_
        show OG p e below _ _ (T25.setTop (mkF m 57 #[.val (.ref a0), .val (.int p1), .val (.int (p1 - w1)), .unset] []))
        refine o_iconst (z := (1 : Int32)) X25 hx rfl (hb hby own_d6_57) (by decide) ?_
        refine o_istoreN X25 hx rfl (hb hby own_d6_58) (L' := #[.val (.ref a0), .val (.int p1), .val (.int (p1 - w1)), .val (.int (1 : Int32))]) rfl ?_
        refine o_goto (pc' := 103) X25 hx (hb hby own_d6_59) (by decide) (by decide) ?_
        refine o_iloadN X25 hx rfl (hb hby own_d6_103) rfl ?_
        have Fc27 : Fld Z h25 a0 "com/example/hermod/hermod/osp/SequenceWindow" "m_nAccepted" "J" (.long (1 : Int64)) := (Fld.other W25 Fw21 (Or.inr (slot_ne (Or.inl (hw _ (List.mem_of_getElem? (i := 29) rfl))) (Or.inl (hw _ (List.mem_of_getElem? (i := 16) rfl))) (by decide) (t := .long) (t' := .int) (by decide) (by decide))))
        exact o_retB X25 hx Bd.returns (own_lv X25 hlk (by decide +kernel) (by decide +kernel)) (hb hby own_d6_104) (by decide) ⟨(by rw [own_f6, if_neg hc2, if_pos hc11, if_neg hc12]), N25, (by rw [e25]; exact Kp26), (by rw [e25, show (own_f6_H a0 p1 w1 w2) = p1 from (by simp only [own_f6_H, if_neg hc2, if_pos hc11, if_neg hc12])]; exact Fw25), (by rw [e25, show (own_f6_A a0 p1 w1 w2) = (1 : Int64) from (by simp only [own_f6_A, if_neg hc2, if_pos hc11, if_neg hc12])]; exact Fc27)⟩
    · skip
      refine o_ifY (pc' := 62) X10 hx (hb hby own_d6_27) ((if0 _ _).trans (flt hc11).2.2.2) (by decide) (by decide) ?_
      refine o_iloadN X10 hx rfl (hb hby own_d6_62) rfl ?_
      refine o_ineg (z := (-(p1 - w1))) X10 hx rfl (hb hby own_d6_63) rfl ?_
      refine o_bipush (z := (32 : Int32)) X10 hx rfl (hb hby own_d6_64) (by decide) ?_
      by_cases hc28 : (-(p1 - w1)) < (32 : Int32)
      · skip
        refine o_icmpN (pc' := 69) X10 hx rfl (hb hby own_d6_66) (tlt hc28).2.1 ?_
        refine o_aloadN X10 hx rfl (hb hby own_d6_69) rfl rfl ?_
        obtain ⟨T29, X29, e29, st29⟩ := getF X10 hx hZ hown (host := "") (Or.inl (hw _ (List.mem_of_getElem? (i := 28) rfl))) Via.refl e10 pre3 (g := (mkF m 70 #[.val (.ref a0), .val (.int p1), .val (.int (p1 - w1)), .unset] [(.ref a0)])) rfl rfl (hb hby own_d6_70)
        refine og_of st29 ?_
        show OG p e below _ _ (T29.setTop (mkF m 73 #[.val (.ref a0), .val (.int p1), .val (.int (p1 - w1)), .unset] [(.long w2)]))
        refine o_lconst (z := (1 : Int64)) X29 hx rfl (hb hby own_d6_73) (by decide) ?_
        refine o_iloadN X29 hx rfl (hb hby own_d6_74) rfl ?_
        refine o_ineg (z := (-(p1 - w1))) X29 hx rfl (hb hby own_d6_75) rfl ?_
        refine o_lshl (z := ((1 : Int64) <<< ((-(p1 - w1)) &&& 0x3f).toInt64)) X29 hx rfl (hb hby own_d6_76) rfl ?_
        refine o_land (z := (w2 &&& ((1 : Int64) <<< ((-(p1 - w1)) &&& 0x3f).toInt64))) X29 hx rfl (hb hby own_d6_77) rfl ?_
        refine o_lconst (z := (0 : Int64)) X29 hx rfl (hb hby own_d6_78) (by decide) ?_
        refine o_lcmp X29 hx rfl (hb hby own_d6_79) ?_
        by_cases hc30 : (w2 &&& ((1 : Int64) <<< ((-(p1 - w1)) &&& 0x3f).toInt64)) = (0 : Int64)
        · skip
          refine o_ifN (pc' := 83) X29 hx rfl (hb hby own_d6_80) (lcY_eq hc30).2 ?_
          refine o_aloadN X29 hx rfl (hb hby own_d6_83) rfl rfl ?_
          refine o_dup X29 hx rfl (hb hby own_d6_84) rfl ?_
          obtain ⟨T31, X31, e31, st31⟩ := getF X29 hx hZ hown (host := "") (Or.inl (hw _ (List.mem_of_getElem? (i := 28) rfl))) Via.refl e29 pre3 (g := (mkF m 85 #[.val (.ref a0), .val (.int p1), .val (.int (p1 - w1)), .unset] [(.ref a0), (.ref a0)])) rfl rfl (hb hby own_d6_85)
          refine og_of st31 ?_
          show OG p e below _ _ (T31.setTop (mkF m 88 #[.val (.ref a0), .val (.int p1), .val (.int (p1 - w1)), .unset] [(.long w2), (.ref a0)]))
          refine o_lconst (z := (1 : Int64)) X31 hx rfl (hb hby own_d6_88) (by decide) ?_
          refine o_iloadN X31 hx rfl (hb hby own_d6_89) rfl ?_
          refine o_ineg (z := (-(p1 - w1))) X31 hx rfl (hb hby own_d6_90) rfl ?_
          refine o_lshl (z := ((1 : Int64) <<< ((-(p1 - w1)) &&& 0x3f).toInt64)) X31 hx rfl (hb hby own_d6_91) rfl ?_
          refine o_lor (z := (w2 ||| ((1 : Int64) <<< ((-(p1 - w1)) &&& 0x3f).toInt64))) X31 hx rfl (hb hby own_d6_92) rfl ?_
          obtain ⟨T32, h32, X32, e32, W32, st32⟩ := putF X31 hx hZ hown (host := "") (Or.inl (hw _ (List.mem_of_getElem? (i := 28) rfl))) Via.refl e31 pre3 pre0 (Or.inl (hw _ (List.mem_of_getElem? (i := 29) rfl))) (hw _ (List.mem_of_getElem? (i := 7) rfl)) (ty := .long) (by decide) rfl rfl (g := (mkF m 93 #[.val (.ref a0), .val (.int p1), .val (.int (p1 - w1)), .unset] [(.long (w2 ||| ((1 : Int64) <<< ((-(p1 - w1)) &&& 0x3f).toInt64))), (.ref a0)])) rfl rfl (hb hby own_d6_93)
          have Fw32 := pre3.same W32
          have N32 := Fr.snoc X32 N0 pre1
          have Kp33 : Keep h0 h32 [a0] := (Keep.refl h0 [a0]).wr W32 (Or.inl (List.mem_of_getElem? (i := 0) rfl))
          refine og_of st32 ?_
          show OG p e below _ _ (T32.setTop (mkF m 96 #[.val (.ref a0), .val (.int p1), .val (.int (p1 - w1)), .unset] []))
          refine o_iconst (z := (1 : Int32)) X32 hx rfl (hb hby own_d6_96) (by decide) ?_
          refine o_istoreN X32 hx rfl (hb hby own_d6_97) (L' := #[.val (.ref a0), .val (.int p1), .val (.int (p1 - w1)), .val (.int (1 : Int32))]) rfl ?_
          refine o_goto (pc' := 103) X32 hx (hb hby own_d6_98) (by decide) (by decide) ?_
          refine o_iloadN X32 hx rfl (hb hby own_d6_103) rfl ?_
          have Fc34 : Fld Z h32 a0 "com/example/hermod/hermod/osp/SequenceWindow" "m_nHighest" "I" (.int w1) := (Fld.other W32 pre2 (Or.inr (slot_ne (Or.inl (hw _ (List.mem_of_getElem? (i := 16) rfl))) (Or.inl (hw _ (List.mem_of_getElem? (i := 29) rfl))) (by decide) (t := .int) (t' := .long) (by decide) (by decide))))
          exact o_retB X32 hx Bd.returns (own_lv X32 hlk (by decide +kernel) (by decide +kernel)) (hb hby own_d6_104) (by decide) ⟨(by rw [own_f6, if_neg hc2, if_neg hc11, if_pos hc28, if_pos hc30]), N32, (by rw [e32]; exact Kp33), (by rw [e32, show (own_f6_H a0 p1 w1 w2) = w1 from (by simp only [own_f6_H, if_neg hc2, if_neg hc11, if_pos hc28, if_pos hc30])]; exact Fc34), (by rw [e32, show (own_f6_A a0 p1 w1 w2) = (w2 ||| ((1 : Int64) <<< ((-(p1 - w1)) &&& 0x3f).toInt64)) from (by simp only [own_f6_A, if_neg hc2, if_neg hc11, if_pos hc28, if_pos hc30])]; exact Fw32)⟩
        · skip
          refine o_ifY (pc' := 101) X29 hx (hb hby own_d6_80) (lcN_eq hc30).2 (by decide) (by decide) ?_
          refine o_iconst (z := (0 : Int32)) X29 hx rfl (hb hby own_d6_101) (by decide) ?_
          refine o_istoreN X29 hx rfl (hb hby own_d6_102) (L' := #[.val (.ref a0), .val (.int p1), .val (.int (p1 - w1)), .val (.int (0 : Int32))]) rfl ?_
          refine o_iloadN X29 hx rfl (hb hby own_d6_103) rfl ?_
          exact o_retB X29 hx Bd.returns (own_lv X29 hlk (by decide +kernel) (by decide +kernel)) (hb hby own_d6_104) (by decide) ⟨(by rw [own_f6, if_neg hc2, if_neg hc11, if_pos hc28, if_neg hc30]), N0, (by rw [e29]; exact (Keep.refl h0 [a0])), (by rw [e29, show (own_f6_H a0 p1 w1 w2) = w1 from (by simp only [own_f6_H, if_neg hc2, if_neg hc11, if_pos hc28, if_neg hc30])]; exact pre2), (by rw [e29, show (own_f6_A a0 p1 w1 w2) = w2 from (by simp only [own_f6_A, if_neg hc2, if_neg hc11, if_pos hc28, if_neg hc30])]; exact pre3)⟩
      · skip
        refine o_icmpY (pc' := 101) X10 hx (hb hby own_d6_66) (flt hc28).2.1 (by decide) (by decide) ?_
        refine o_iconst (z := (0 : Int32)) X10 hx rfl (hb hby own_d6_101) (by decide) ?_
        refine o_istoreN X10 hx rfl (hb hby own_d6_102) (L' := #[.val (.ref a0), .val (.int p1), .val (.int (p1 - w1)), .val (.int (0 : Int32))]) rfl ?_
        refine o_iloadN X10 hx rfl (hb hby own_d6_103) rfl ?_
        exact o_retB X10 hx Bd.returns (own_lv X10 hlk (by decide +kernel) (by decide +kernel)) (hb hby own_d6_104) (by decide) ⟨(by rw [own_f6, if_neg hc2, if_neg hc11, if_neg hc28]), N0, (by rw [e10]; exact (Keep.refl h0 [a0])), (by rw [e10, show (own_f6_H a0 p1 w1 w2) = w1 from (by simp only [own_f6_H, if_neg hc2, if_neg hc11, if_neg hc28])]; exact pre2), (by rw [e10, show (own_f6_A a0 p1 w1 w2) = w2 from (by simp only [own_f6_A, if_neg hc2, if_neg hc11, if_neg hc28])]; exact pre3)⟩
theorem own_pd1 : parseMethodDescriptor "(II[I)Z" = some ⟨[.int, .int, (.array .int)], some .boolean⟩ := by decide +kernel
theorem own_pd2 : parseMethodDescriptor "(I)Z" = some ⟨[.int], some .boolean⟩ := by decide +kernel
theorem own_d4_0 : decode method_5_code 0 = .ok (.iload_n 1, 1) := by decide +kernel
theorem own_d4_1 : decode method_5_code 1 = .ok (.aload 4, 2) := by decide +kernel
theorem own_d4_3 : decode method_5_code 3 = .ok (.iconst 0, 1) := by decide +kernel
theorem own_d4_4 : decode method_5_code 4 = .ok (.iaload, 1) := by decide +kernel
theorem own_d4_5 : decode method_5_code 5 = .ok (.aload_n 3, 1) := by decide +kernel
theorem own_d4_6 : decode method_5_code 6 = .ok (.invokestatic 14, 3) := by decide +kernel
theorem own_d4_9 : decode method_5_code 9 = .ok (.istore 5, 2) := by decide +kernel
theorem own_d4_11 : decode method_5_code 11 = .ok (.aload_n 0, 1) := by decide +kernel
theorem own_d4_12 : decode method_5_code 12 = .ok (.iload_n 1, 1) := by decide +kernel
theorem own_d4_13 : decode method_5_code 13 = .ok (.invokevirtual 18, 3) := by decide +kernel
theorem own_d4_16 : decode method_5_code 16 = .ok (.istore 6, 2) := by decide +kernel
theorem own_d4_18 : decode method_5_code 18 = .ok (.iload 5, 2) := by decide +kernel
theorem own_d4_20 : decode method_5_code 20 = .ok (.ifCond .eq 20, 3) := by decide +kernel
theorem own_d4_23 : decode method_5_code 23 = .ok (.aload_n 3, 1) := by decide +kernel
theorem own_d4_24 : decode method_5_code 24 = .ok (.iload_n 2, 1) := by decide +kernel
theorem own_d4_25 : decode method_5_code 25 = .ok (.iload_n 1, 1) := by decide +kernel
theorem own_d4_26 : decode method_5_code 26 = .ok (.iastore, 1) := by decide +kernel
theorem own_d4_27 : decode method_5_code 27 = .ok (.iload_n 1, 1) := by decide +kernel
theorem own_d4_28 : decode method_5_code 28 = .ok (.aload 4, 2) := by decide +kernel
theorem own_d4_30 : decode method_5_code 30 = .ok (.iconst 0, 1) := by decide +kernel
theorem own_d4_31 : decode method_5_code 31 = .ok (.iaload, 1) := by decide +kernel
theorem own_d4_32 : decode method_5_code 32 = .ok (.if_icmp .le 8, 3) := by decide +kernel
theorem own_d4_35 : decode method_5_code 35 = .ok (.aload 4, 2) := by decide +kernel
theorem own_d4_37 : decode method_5_code 37 = .ok (.iconst 0, 1) := by decide +kernel
theorem own_d4_38 : decode method_5_code 38 = .ok (.iload_n 1, 1) := by decide +kernel
theorem own_d4_39 : decode method_5_code 39 = .ok (.iastore, 1) := by decide +kernel
theorem own_d4_40 : decode method_5_code 40 = .ok (.iload 6, 2) := by decide +kernel
theorem own_d4_42 : decode method_5_code 42 = .ok (.iload 5, 2) := by decide +kernel
theorem own_d4_44 : decode method_5_code 44 = .ok (.if_icmp .ne 7, 3) := by decide +kernel
theorem own_d4_47 : decode method_5_code 47 = .ok (.iconst 1, 1) := by decide +kernel
theorem own_d4_48 : decode method_5_code 48 = .ok (.goto 4, 3) := by decide +kernel
theorem own_d4_51 : decode method_5_code 51 = .ok (.iconst 0, 1) := by decide +kernel
theorem own_d4_52 : decode method_5_code 52 = .ok (.ireturn, 1) := by decide +kernel
def own_fS0 (a0 : Addr) (p1 : Int32) (a3 : Addr) (a4 : Addr) (w1 : Int32) (w2 : Int64) (c0 : Int32) (c1 : Int32) (c2 : Int32) (c3 : Int32) (c4 : Int32) (nn : Int32) (k_a3 : ClassId) (k_a4 : ClassId) : Int32 := (if (own_f5 p1 nn a3 k_a3 c0 c1 c2 c3 c4) = (0 : Int32) then (if (own_f6 a0 p1 w1 w2) = (own_f5 p1 nn a3 k_a3 c0 c1 c2 c3 c4) then (1 : Int32) else (0 : Int32)) else (if nn < p1 then (if (own_f6 a0 p1 w1 w2) = (own_f5 p1 nn a3 k_a3 c0 c1 c2 c3 c4) then (1 : Int32) else (0 : Int32)) else (if (own_f6 a0 p1 w1 w2) = (own_f5 p1 nn a3 k_a3 c0 c1 c2 c3 c4) then (1 : Int32) else (0 : Int32))))
def own_fS0_C (a0 : Addr) (p1 : Int32) (a3 : Addr) (a4 : Addr) (w1 : Int32) (w2 : Int64) (c0 : Int32) (c1 : Int32) (c2 : Int32) (c3 : Int32) (c4 : Int32) (nn : Int32) (k_a3 : ClassId) (k_a4 : ClassId) : Int32 := (if (own_f5 p1 nn a3 k_a3 c0 c1 c2 c3 c4) = (0 : Int32) then (if (own_f6 a0 p1 w1 w2) = (own_f5 p1 nn a3 k_a3 c0 c1 c2 c3 c4) then c0 else c0) else (if nn < p1 then (if (own_f6 a0 p1 w1 w2) = (own_f5 p1 nn a3 k_a3 c0 c1 c2 c3 c4) then p1 else p1) else (if (own_f6 a0 p1 w1 w2) = (own_f5 p1 nn a3 k_a3 c0 c1 c2 c3 c4) then p1 else p1)))
def own_fS0_N (a0 : Addr) (p1 : Int32) (a3 : Addr) (a4 : Addr) (w1 : Int32) (w2 : Int64) (c0 : Int32) (c1 : Int32) (c2 : Int32) (c3 : Int32) (c4 : Int32) (nn : Int32) (k_a3 : ClassId) (k_a4 : ClassId) : Int32 := (if (own_f5 p1 nn a3 k_a3 c0 c1 c2 c3 c4) = (0 : Int32) then (if (own_f6 a0 p1 w1 w2) = (own_f5 p1 nn a3 k_a3 c0 c1 c2 c3 c4) then nn else nn) else (if nn < p1 then (if (own_f6 a0 p1 w1 w2) = (own_f5 p1 nn a3 k_a3 c0 c1 c2 c3 c4) then p1 else p1) else (if (own_f6 a0 p1 w1 w2) = (own_f5 p1 nn a3 k_a3 c0 c1 c2 c3 c4) then nn else nn)))
theorem own_efS0 (m : MethodId) (a0 : Addr) (p1 : Int32) (a3 : Addr) (a4 : Addr) : entryFrame m #[(.ref a0), (.int p1), (.int (0 : Int32)), (.ref a3), (.ref a4)] 7 = mkF m 0 #[.val (.ref a0), .val (.int p1), .val (.int (0 : Int32)), .val (.ref a3), .val (.ref a4), .unset, .unset] [] := by first | (simp [entryFrame, mkF, argsToLocals, Value.category]; done) | rfl
def own_QS0 (Z : State) (a0 : Addr) (p1 : Int32) (a3 : Addr) (a4 : Addr) (w1 : Int32) (w2 : Int64) (c0 : Int32) (c1 : Int32) (c2 : Int32) (c3 : Int32) (c4 : Int32) (nn : Int32) (k_a3 : ClassId) (k_a4 : ClassId) (h0 : Heap) (n0 : Nat) (v : Option Value) (h : Heap) (L : List Loc) : Prop := v = some (.int (own_fS0 a0 p1 a3 a4 w1 w2 c0 c1 c2 c3 c4 nn k_a3 k_a4)) ∧ Fr n0 L ∧ Keep h0 h [a0, a3, a4] ∧ Fld Z h a0 "com/example/hermod/hermod/osp/SequenceWindow" "m_nHighest" "I" (.int (own_f6_H a0 p1 w1 w2)) ∧ Fld Z h a0 "com/example/hermod/hermod/osp/SequenceWindow" "m_nAccepted" "J" (.long (own_f6_A a0 p1 w1 w2)) ∧ Arv Z h a3 k_a3 .int (5 : Int32) [(.int (own_fS0_C a0 p1 a3 a4 w1 w2 c0 c1 c2 c3 c4 nn k_a3 k_a4)), (.int c1), (.int c2), (.int c3), (.int c4)] (.int (0 : Int32)) ∧ Arv Z h a4 k_a4 .int (1 : Int32) [(.int (own_fS0_N a0 p1 a3 a4 w1 w2 c0 c1 c2 c3 c4 nn k_a3 k_a4))] (.int (0 : Int32))
set_option maxRecDepth 65536 in
set_option maxHeartbeats 40000000 in
theorem own_rmS0 (l : Launch) (Z : State) (aA : Array Value) (hw : ∀ d ∈ tables_1, d.before aA Z = true) (ws : List Jvm.Cond) (a0 : Addr) (p1 : Int32) (a3 : Addr) (a4 : Addr) (w1 : Int32) (w2 : Int64) (c0 : Int32) (c1 : Int32) (c2 : Int32) (c3 : Int32) (c4 : Int32) (nn : Int32) (k_a3 : ClassId) (k_a4 : ClassId) (h0 : Heap) (n0 : Nat) (Z0 : n0 ≤ h0.size) (pre0 : Exa Z h0 a0 "com/example/hermod/hermod/osp/SequenceWindow") (pre1 : n0 ≤ a0) (pre2 : Fld Z h0 a0 "com/example/hermod/hermod/osp/SequenceWindow" "m_nHighest" "I" (.int w1)) (pre3 : Fld Z h0 a0 "com/example/hermod/hermod/osp/SequenceWindow" "m_nAccepted" "J" (.long w2)) (pre4 : Arv Z h0 a3 k_a3 .int (5 : Int32) [(.int c0), (.int c1), (.int c2), (.int c3), (.int c4)] (.int (0 : Int32))) (pre5 : Arv Z h0 a4 k_a4 .int (1 : Int32) [(.int nn)] (.int (0 : Int32))) (pre6 : n0 ≤ a3) (pre7 : n0 ≤ a4) (pre8 : a0 ≠ a3) (pre9 : a0 ≠ a4) (pre10 : a3 ≠ a4) :
    MetFree l (⟨"com/example/hermod/hermod/osp/SequenceWindowAcceptPinLaw", "step", "(Lcom/example/hermod/hermod/osp/SequenceWindow;II[I[I)Z"⟩ : MethodName) (head1 (Jvm.Cond.code (⟨"com/example/hermod/hermod/osp/SequenceWindowAcceptPinLaw", "step", "(Lcom/example/hermod/hermod/osp/SequenceWindow;II[I[I)Z"⟩ : MethodName) method_5_code 7 (some .boolean) :: ws) ({ frames := 2, cells := 0, slots := 0, locals := 27 } : Room)) (fun a U => a = #[(.ref a0), (.int p1), (.int (0 : Int32)), (.ref a3), (.ref a4)] ∧ Z.Warmed39 U.vm ∧ U.heap = h0) (fun _ _ _ _ _ => True) (fun _ U o U' => ∃ v L, o = .returned v ∧ own_QS0 Z a0 p1 a3 a4 w1 w2 c0 c1 c2 c3 c4 nn k_a3 k_a4 h0 n0 v U'.heap L ∧ FrameEnd U o U' L ({ frames := 2, cells := 0, slots := 0, locals := 27 } : Room).cells ({ frames := 2, cells := 0, slots := 0, locals := 27 } : Room).slots) := by
  refine MetFree.of_bodySF (plainFor_of_name own_pn22) hisR ?_
  intro p e s m args below meth c s₁ Bd hml0 hP hK
  obtain ⟨rfl, hZ, hh⟩ := hP
  have hx := Bd.exec
  have hby := Bd.bytes
  have hlk : meth.locks = false := Bd.notSynchronized
  have hml : c.maxLocals = 7 := hml0
  have hown : s.vm.findClass "com/example/hermod/hermod/osp/SequenceWindowAcceptPinLaw" = some m.cls := findClass_of_methodNamed Bd.named
  have hnm := (name_of_methodNamed Bd.named Bd.method).1
  have X0 : Stand p l e ({ frames := 2, cells := 0, slots := 0, locals := 27 } : Room) s m #[(.ref a0), (.int p1), (.int (0 : Int32)), (.ref a3), (.ref a4)] below meth c s₁ [] 0 0 := Stand.of_body Bd
  have e0 : s₁.heap = h0 := by rw [← hh, Bd.state]; rfl
  have N0 := Fr.nil n0
  show OG p e below (FE s ({ frames := 2, cells := 0, slots := 0, locals := 27 } : Room).cells ({ frames := 2, cells := 0, slots := 0, locals := 27 } : Room).slots) (own_QS0 Z a0 p1 a3 a4 w1 w2 c0 c1 c2 c3 c4 nn k_a3 k_a4 h0 n0) (s₁.setTop (entryFrame m #[(.ref a0), (.int p1), (.int (0 : Int32)), (.ref a3), (.ref a4)] 7))
  refine og_of (fun _ k => castTop (own_efS0 m a0 p1 a3 a4) k) ?_
  refine o_iloadN X0 hx rfl (hb hby own_d4_0) rfl ?_
  refine o_aload X0 hx rfl (hb hby own_d4_1) rfl rfl ?_
  refine o_iconst (z := (0 : Int32)) X0 hx rfl (hb hby own_d4_3) (by decide) ?_
  obtain ⟨clv1, Arv1, qv1, Sv1, Nv1, Hv1, Gv1⟩ := id pre5
  have hin2 : ¬ ((0 : Int32) < 0 ∨ clv1.slots.size ≤ ((0 : Int32)).toNatClampNeg) := inb_of Sv1 ⟨by decide, by decide⟩
  have hat2 : clv1.slots[((0 : Int32)).toNatClampNeg]? = some (.int nn) := Hv1.at hin2 rfl
  refine og_of (X0.iaload hx (j := (0 : Int32)) (v := (.int nn)) (by rw [e0]; exact Arv1.1) (State.isArrayOf_alike hZ.alike Arv1.2.1) Arv1.2.2 hin2 hat2 (g := (mkF m 4 #[.val (.ref a0), .val (.int p1), .val (.int (0 : Int32)), .val (.ref a3), .val (.ref a4), .unset, .unset] [(.int (0 : Int32)), (.ref a4), (.int p1)])) rfl rfl (hb hby own_d4_4)) ?_
  show OG p e below _ _ (s₁.setTop (mkF m 5 #[.val (.ref a0), .val (.int p1), .val (.int (0 : Int32)), .val (.ref a3), .val (.ref a4), .unset, .unset] [(.int nn), (.int p1)]))
  refine o_aloadN X0 hx rfl (hb hby own_d4_5) rfl rfl ?_
  obtain ⟨_, _, ⟨T3, L3, k3, n3⟩, -, X3, ⟨Lc3, hQ3, l3, y3, z3⟩, st3⟩ := Jvm.LawKit.callS X0 hx (y := (⟨"com/example/hermod/hermod/osp/SequenceWindowAcceptPinLaw", "expected", "(II[I)Z"⟩ : MethodName)) hown (mvT hZ (hw _ (List.mem_of_getElem? (i := 20) rfl))) (mvT hZ (hw _ (List.mem_of_getElem? (i := 21) rfl))) (mvT hZ (hw _ (List.mem_of_getElem? (i := 4) rfl))) (mvT hZ (hw _ (List.mem_of_getElem? (i := 22) rfl))) (by decide) (backOf (W := 0) (own_rm5 l Z aA hw [] p1 nn a3 k_a3 c0 c1 c2 c3 c4 h0 n0 Z0 pre4) hZ (hw _ (List.mem_of_getElem? (i := 22) rfl)) (hw _ (List.mem_of_getElem? (i := 4) rfl)) (by decide) (by decide)) (g := (mkF m 6 #[.val (.ref a0), .val (.int p1), .val (.int (0 : Int32)), .val (.ref a3), .val (.ref a4), .unset, .unset] [(.ref a3), (.int nn), (.int p1)])) rfl (by rw [hml]; rfl) (argsL := [(.int p1), (.int nn), (.ref a3)]) (rest := []) (lenOf own_pd1 rfl) rfl (by show 2 * 0 + _ ≤ _; exact Nat.le_of_eq rfl) (hb hby own_d4_6) (fun _ _ => ⟨rfl, e0, (by dsimp only [Pt.cells, Pt.slots]; decide +kernel), (by dsimp only [Pt.cells, Pt.slots]; decide +kernel)⟩)
  dsimp only [Pt.U, Pt.locs, Pt.cells, Pt.slots] at X3 l3 y3 z3 st3 hQ3
  rw [l3, y3, z3] at X3
  obtain ⟨rfl, N3q, ee3⟩ := hQ3
  have N4 := Fr.app N0 N3q
  refine og_of st3 ?_
  show OG p e below _ _ (T3.setTop (mkF m 9 #[.val (.ref a0), .val (.int p1), .val (.int (0 : Int32)), .val (.ref a3), .val (.ref a4), .unset, .unset] [(.int (own_f5 p1 nn a3 k_a3 c0 c1 c2 c3 c4))]))
  refine o_istore X3 hx rfl (hb hby own_d4_9) (L' := #[.val (.ref a0), .val (.int p1), .val (.int (0 : Int32)), .val (.ref a3), .val (.ref a4), .val (.int (own_f5 p1 nn a3 k_a3 c0 c1 c2 c3 c4)), .unset]) rfl ?_
  refine o_aloadN X3 hx rfl (hb hby own_d4_11) rfl rfl ?_
  refine o_iloadN X3 hx rfl (hb hby own_d4_12) rfl ?_
  obtain ⟨cq5, kq5, q5a, q5b, q5c⟩ := isOf hZ ee3 pre0
  obtain ⟨_, _, ⟨T5, L5, k5, n5⟩, -, X5, ⟨Lc5, hQ5, l5, y5, z5⟩, st5⟩ := X3.virtualBack hx (y := (⟨"com/example/hermod/hermod/osp/SequenceWindow", "accept", "(I)Z"⟩ : MethodName)) (z := (⟨"com/example/hermod/hermod/osp/SequenceWindow", "accept", "(I)Z"⟩ : MethodName)) hown (mvT hZ (hw _ (List.mem_of_getElem? (i := 23) rfl))) (mvT hZ (hw _ (List.mem_of_getElem? (i := 24) rfl))) (notFace_of_selects (args := #[]) (mvT hZ (hw _ (List.mem_of_getElem? (i := 26) rfl)))) (mvT hZ (hw _ (List.mem_of_getElem? (i := 26) rfl))) (mvT hZ (hw _ (List.mem_of_getElem? (i := 25) rfl))) (by decide) (backOf (W := 0) (own_rm6 l Z aA hw [] a0 p1 w1 w2 h0 n0 Z0 pre0 pre1 pre2 pre3) hZ (hw _ (List.mem_of_getElem? (i := 27) rfl)) (hw _ (List.mem_of_getElem? (i := 8) rfl)) (by decide) (by decide)) q5a q5c (g := (mkF m 13 #[.val (.ref a0), .val (.int p1), .val (.int (0 : Int32)), .val (.ref a3), .val (.ref a4), .val (.int (own_f5 p1 nn a3 k_a3 c0 c1 c2 c3 c4)), .unset] [(.int p1), (.ref a0)])) rfl (by rw [hml]; rfl) (Steps.refl _) (argsL := [(.int p1)]) (rest := []) (lenOf own_pd2 rfl) rfl (by show 2 * 0 + _ ≤ _; exact Nat.le_of_eq rfl) (hb hby own_d4_13) (fun _ _ => ⟨rfl, ee3, (by dsimp only [Pt.cells, Pt.slots]; decide +kernel), (by dsimp only [Pt.cells, Pt.slots]; decide +kernel)⟩)
  dsimp only [Pt.U, Pt.locs, Pt.cells, Pt.slots] at X5 l5 y5 z5 st5 hQ5
  rw [l5, y5, z5] at X5
  obtain ⟨rfl, N5q, K5, f5_0, f5_1⟩ := hQ5
  have N6 := Fr.app N4 N5q
  have Kp7 : Keep h0 T5.heap [a0, a3, a4] := (Keep.refl h0 [a0, a3, a4]).trans K5 (allS (Or.inl (List.mem_of_getElem? (i := 0) rfl)) all0)
  refine og_tr st5 ?_
  show OG p e below _ _ (T5.setTop (mkF m 16 #[.val (.ref a0), .val (.int p1), .val (.int (0 : Int32)), .val (.ref a3), .val (.ref a4), .val (.int (own_f5 p1 nn a3 k_a3 c0 c1 c2 c3 c4)), .unset] [(.int (own_f6 a0 p1 w1 w2))]))
  refine o_istore X5 hx rfl (hb hby own_d4_16) (L' := #[.val (.ref a0), .val (.int p1), .val (.int (0 : Int32)), .val (.ref a3), .val (.ref a4), .val (.int (own_f5 p1 nn a3 k_a3 c0 c1 c2 c3 c4)), .val (.int (own_f6 a0 p1 w1 w2))]) rfl ?_
  refine o_iload X5 hx rfl (hb hby own_d4_18) rfl ?_
  by_cases hc8 : (own_f5 p1 nn a3 k_a3 c0 c1 c2 c3 c4) = (0 : Int32)
  · skip
    refine o_ifY (pc' := 40) X5 hx (hb hby own_d4_20) ((if0 _ _).trans (teq hc8).1) (by decide) (by decide) ?_
    refine o_iload X5 hx rfl (hb hby own_d4_40) rfl ?_
    refine o_iload X5 hx rfl (hb hby own_d4_42) rfl ?_
    by_cases hc9 : (own_f6 a0 p1 w1 w2) = (own_f5 p1 nn a3 k_a3 c0 c1 c2 c3 c4)
    · skip
      refine o_icmpN (pc' := 47) X5 hx rfl (hb hby own_d4_44) (teq hc9).2 ?_
      refine o_iconst (z := (1 : Int32)) X5 hx rfl (hb hby own_d4_47) (by decide) ?_
      refine o_goto (pc' := 52) X5 hx (hb hby own_d4_48) (by decide) (by decide) ?_
      have Fc10 : Arv Z T5.heap a3 k_a3 .int (5 : Int32) [(.int c0), (.int c1), (.int c2), (.int c3), (.int c4)] (.int (0 : Int32)) := (pre4.keep K5 (ninS (Ne.symm pre8) nin0))
      have Fc11 : Arv Z T5.heap a4 k_a4 .int (1 : Int32) [(.int nn)] (.int (0 : Int32)) := (pre5.keep K5 (ninS (Ne.symm pre9) nin0))
      exact o_retB X5 hx Bd.returns (own_lv X5 hlk (by decide +kernel) (by decide +kernel)) (hb hby own_d4_52) (by decide) ⟨(by rw [own_fS0, if_pos hc8, if_pos hc9]), N6, (Kp7), f5_0, f5_1, (by rw [show (own_fS0_C a0 p1 a3 a4 w1 w2 c0 c1 c2 c3 c4 nn k_a3 k_a4) = c0 from (by simp only [own_fS0_C, if_pos hc8, if_pos hc9])]; exact Fc10), (by rw [show (own_fS0_N a0 p1 a3 a4 w1 w2 c0 c1 c2 c3 c4 nn k_a3 k_a4) = nn from (by simp only [own_fS0_N, if_pos hc8, if_pos hc9])]; exact Fc11)⟩
    · skip
      refine o_icmpY (pc' := 51) X5 hx (hb hby own_d4_44) (feq hc9).2 (by decide) (by decide) ?_
      refine o_iconst (z := (0 : Int32)) X5 hx rfl (hb hby own_d4_51) (by decide) ?_
      have Fc12 : Arv Z T5.heap a3 k_a3 .int (5 : Int32) [(.int c0), (.int c1), (.int c2), (.int c3), (.int c4)] (.int (0 : Int32)) := (pre4.keep K5 (ninS (Ne.symm pre8) nin0))
      have Fc13 : Arv Z T5.heap a4 k_a4 .int (1 : Int32) [(.int nn)] (.int (0 : Int32)) := (pre5.keep K5 (ninS (Ne.symm pre9) nin0))
      exact o_retB X5 hx Bd.returns (own_lv X5 hlk (by decide +kernel) (by decide +kernel)) (hb hby own_d4_52) (by decide) ⟨(by rw [own_fS0, if_pos hc8, if_neg hc9]), N6, (Kp7), f5_0, f5_1, (by rw [show (own_fS0_C a0 p1 a3 a4 w1 w2 c0 c1 c2 c3 c4 nn k_a3 k_a4) = c0 from (by simp only [own_fS0_C, if_pos hc8, if_neg hc9])]; exact Fc12), (by rw [show (own_fS0_N a0 p1 a3 a4 w1 w2 c0 c1 c2 c3 c4 nn k_a3 k_a4) = nn from (by simp only [own_fS0_N, if_pos hc8, if_neg hc9])]; exact Fc13)⟩
  · skip
    refine o_ifN (pc' := 23) X5 hx rfl (hb hby own_d4_20) ((if0 _ _).trans (feq hc8).1) ?_
    refine o_aloadN X5 hx rfl (hb hby own_d4_23) rfl rfl ?_
    refine o_iloadN X5 hx rfl (hb hby own_d4_24) rfl ?_
    refine o_iloadN X5 hx rfl (hb hby own_d4_25) rfl ?_
    have Fc14 : Arv Z T5.heap a3 k_a3 .int (5 : Int32) [(.int c0), (.int c1), (.int c2), (.int c3), (.int c4)] (.int (0 : Int32)) := (pre4.keep K5 (ninS (Ne.symm pre8) nin0))
    obtain ⟨clv15, Arv15, qv15, Sv15, Nv15, Hv15, Gv15⟩ := id Fc14
    have hin16 : ¬ ((0 : Int32) < 0 ∨ clv15.slots.size ≤ ((0 : Int32)).toNatClampNeg) := inb_of Sv15 ⟨by decide, by decide⟩
    obtain ⟨T16, h16, X16, e16, W16, st16⟩ := stI X5 hx hZ rfl Arv15 (j := (0 : Int32)) hin16 (g := (mkF m 26 #[.val (.ref a0), .val (.int p1), .val (.int (0 : Int32)), .val (.ref a3), .val (.ref a4), .val (.int (own_f5 p1 nn a3 k_a3 c0 c1 c2 c3 c4)), .val (.int (own_f6 a0 p1 w1 w2))] [(.int p1), (.int (0 : Int32)), (.ref a3)])) rfl rfl (hb hby own_d4_26)
    have V16 : Arv Z h16 a3 k_a3 .int (5 : Int32) [(.int p1), (.int c1), (.int c2), (.int c3), (.int c4)] (.int (0 : Int32)) := Arv.set Arv15 qv15 Sv15 Nv15 Hv15 Gv15 rfl W16 0 rfl (Nat.le_of_ble_eq_true rfl)
    have N16 := Fr.snoc X16 N6 pre6
    have Kp17 : Keep h0 h16 [a0, a3, a4] := Kp7.wr W16 (Or.inl (List.mem_of_getElem? (i := 1) rfl))
    refine og_of st16 ?_
    show OG p e below _ _ (T16.setTop (mkF m 27 #[.val (.ref a0), .val (.int p1), .val (.int (0 : Int32)), .val (.ref a3), .val (.ref a4), .val (.int (own_f5 p1 nn a3 k_a3 c0 c1 c2 c3 c4)), .val (.int (own_f6 a0 p1 w1 w2))] []))
    refine o_iloadN X16 hx rfl (hb hby own_d4_27) rfl ?_
    refine o_aload X16 hx rfl (hb hby own_d4_28) rfl rfl ?_
    refine o_iconst (z := (0 : Int32)) X16 hx rfl (hb hby own_d4_30) (by decide) ?_
    have Fc18 : Arv Z h16 a4 k_a4 .int (1 : Int32) [(.int nn)] (.int (0 : Int32)) := ((pre5.keep K5 (ninS (Ne.symm pre9) nin0)).other W16 (Ne.symm pre10))
    obtain ⟨clv19, Arv19, qv19, Sv19, Nv19, Hv19, Gv19⟩ := id Fc18
    have hin20 : ¬ ((0 : Int32) < 0 ∨ clv19.slots.size ≤ ((0 : Int32)).toNatClampNeg) := inb_of Sv19 ⟨by decide, by decide⟩
    have hat20 : clv19.slots[((0 : Int32)).toNatClampNeg]? = some (.int nn) := Hv19.at hin20 rfl
    refine og_of (X16.iaload hx (j := (0 : Int32)) (v := (.int nn)) (by rw [e16]; exact Arv19.1) (State.isArrayOf_alike hZ.alike Arv19.2.1) Arv19.2.2 hin20 hat20 (g := (mkF m 31 #[.val (.ref a0), .val (.int p1), .val (.int (0 : Int32)), .val (.ref a3), .val (.ref a4), .val (.int (own_f5 p1 nn a3 k_a3 c0 c1 c2 c3 c4)), .val (.int (own_f6 a0 p1 w1 w2))] [(.int (0 : Int32)), (.ref a4), (.int p1)])) rfl rfl (hb hby own_d4_31)) ?_
    show OG p e below _ _ (T16.setTop (mkF m 32 #[.val (.ref a0), .val (.int p1), .val (.int (0 : Int32)), .val (.ref a3), .val (.ref a4), .val (.int (own_f5 p1 nn a3 k_a3 c0 c1 c2 c3 c4)), .val (.int (own_f6 a0 p1 w1 w2))] [(.int nn), (.int p1)]))
    by_cases hc21 : nn < p1
    · skip
      refine o_icmpN (pc' := 35) X16 hx rfl (hb hby own_d4_32) (tlt hc21).2.2.2 ?_
      refine o_aload X16 hx rfl (hb hby own_d4_35) rfl rfl ?_
      refine o_iconst (z := (0 : Int32)) X16 hx rfl (hb hby own_d4_37) (by decide) ?_
      refine o_iloadN X16 hx rfl (hb hby own_d4_38) rfl ?_
      obtain ⟨clv22, Arv22, qv22, Sv22, Nv22, Hv22, Gv22⟩ := id Fc18
      have hin23 : ¬ ((0 : Int32) < 0 ∨ clv22.slots.size ≤ ((0 : Int32)).toNatClampNeg) := inb_of Sv22 ⟨by decide, by decide⟩
      obtain ⟨T23, h23, X23, e23, W23, st23⟩ := stI X16 hx hZ e16 Arv22 (j := (0 : Int32)) hin23 (g := (mkF m 39 #[.val (.ref a0), .val (.int p1), .val (.int (0 : Int32)), .val (.ref a3), .val (.ref a4), .val (.int (own_f5 p1 nn a3 k_a3 c0 c1 c2 c3 c4)), .val (.int (own_f6 a0 p1 w1 w2))] [(.int p1), (.int (0 : Int32)), (.ref a4)])) rfl rfl (hb hby own_d4_39)
      have V23 : Arv Z h23 a4 k_a4 .int (1 : Int32) [(.int p1)] (.int (0 : Int32)) := Arv.set Arv22 qv22 Sv22 Nv22 Hv22 Gv22 rfl W23 0 rfl (Nat.le_of_ble_eq_true rfl)
      have N23 := Fr.snoc X23 N16 pre7
      have Kp24 : Keep h0 h23 [a0, a3, a4] := Kp17.wr W23 (Or.inl (List.mem_of_getElem? (i := 2) rfl))
      refine og_of st23 ?_
      show OG p e below _ _ (T23.setTop (mkF m 40 #[.val (.ref a0), .val (.int p1), .val (.int (0 : Int32)), .val (.ref a3), .val (.ref a4), .val (.int (own_f5 p1 nn a3 k_a3 c0 c1 c2 c3 c4)), .val (.int (own_f6 a0 p1 w1 w2))] []))
      refine o_iload X23 hx rfl (hb hby own_d4_40) rfl ?_
      refine o_iload X23 hx rfl (hb hby own_d4_42) rfl ?_
      by_cases hc25 : (own_f6 a0 p1 w1 w2) = (own_f5 p1 nn a3 k_a3 c0 c1 c2 c3 c4)
      · skip
        refine o_icmpN (pc' := 47) X23 hx rfl (hb hby own_d4_44) (teq hc25).2 ?_
        refine o_iconst (z := (1 : Int32)) X23 hx rfl (hb hby own_d4_47) (by decide) ?_
        refine o_goto (pc' := 52) X23 hx (hb hby own_d4_48) (by decide) (by decide) ?_
        have Fc26 : Fld Z h23 a0 "com/example/hermod/hermod/osp/SequenceWindow" "m_nHighest" "I" (.int (own_f6_H a0 p1 w1 w2)) := (Fld.other W23 (Fld.other W16 f5_0 (Or.inl pre8)) (Or.inl pre9))
        have Fc27 : Fld Z h23 a0 "com/example/hermod/hermod/osp/SequenceWindow" "m_nAccepted" "J" (.long (own_f6_A a0 p1 w1 w2)) := (Fld.other W23 (Fld.other W16 f5_1 (Or.inl pre8)) (Or.inl pre9))
        have Fc28 : Arv Z h23 a3 k_a3 .int (5 : Int32) [(.int p1), (.int c1), (.int c2), (.int c3), (.int c4)] (.int (0 : Int32)) := (V16.other W23 pre10)
        exact o_retB X23 hx Bd.returns (own_lv X23 hlk (by decide +kernel) (by decide +kernel)) (hb hby own_d4_52) (by decide) ⟨(by rw [own_fS0, if_neg hc8, if_pos hc21, if_pos hc25]), N23, (by rw [e23]; exact Kp24), (by rw [e23]; exact Fc26), (by rw [e23]; exact Fc27), (by rw [e23, show (own_fS0_C a0 p1 a3 a4 w1 w2 c0 c1 c2 c3 c4 nn k_a3 k_a4) = p1 from (by simp only [own_fS0_C, if_neg hc8, if_pos hc21, if_pos hc25])]; exact Fc28), (by rw [e23, show (own_fS0_N a0 p1 a3 a4 w1 w2 c0 c1 c2 c3 c4 nn k_a3 k_a4) = p1 from (by simp only [own_fS0_N, if_neg hc8, if_pos hc21, if_pos hc25])]; exact V23)⟩
      · skip
        refine o_icmpY (pc' := 51) X23 hx (hb hby own_d4_44) (feq hc25).2 (by decide) (by decide) ?_
        refine o_iconst (z := (0 : Int32)) X23 hx rfl (hb hby own_d4_51) (by decide) ?_
        have Fc29 : Fld Z h23 a0 "com/example/hermod/hermod/osp/SequenceWindow" "m_nHighest" "I" (.int (own_f6_H a0 p1 w1 w2)) := (Fld.other W23 (Fld.other W16 f5_0 (Or.inl pre8)) (Or.inl pre9))
        have Fc30 : Fld Z h23 a0 "com/example/hermod/hermod/osp/SequenceWindow" "m_nAccepted" "J" (.long (own_f6_A a0 p1 w1 w2)) := (Fld.other W23 (Fld.other W16 f5_1 (Or.inl pre8)) (Or.inl pre9))
        have Fc31 : Arv Z h23 a3 k_a3 .int (5 : Int32) [(.int p1), (.int c1), (.int c2), (.int c3), (.int c4)] (.int (0 : Int32)) := (V16.other W23 pre10)
        exact o_retB X23 hx Bd.returns (own_lv X23 hlk (by decide +kernel) (by decide +kernel)) (hb hby own_d4_52) (by decide) ⟨(by rw [own_fS0, if_neg hc8, if_pos hc21, if_neg hc25]), N23, (by rw [e23]; exact Kp24), (by rw [e23]; exact Fc29), (by rw [e23]; exact Fc30), (by rw [e23, show (own_fS0_C a0 p1 a3 a4 w1 w2 c0 c1 c2 c3 c4 nn k_a3 k_a4) = p1 from (by simp only [own_fS0_C, if_neg hc8, if_pos hc21, if_neg hc25])]; exact Fc31), (by rw [e23, show (own_fS0_N a0 p1 a3 a4 w1 w2 c0 c1 c2 c3 c4 nn k_a3 k_a4) = p1 from (by simp only [own_fS0_N, if_neg hc8, if_pos hc21, if_neg hc25])]; exact V23)⟩
    · skip
      refine o_icmpY (pc' := 40) X16 hx (hb hby own_d4_32) (flt hc21).2.2.2 (by decide) (by decide) ?_
      refine o_iload X16 hx rfl (hb hby own_d4_40) rfl ?_
      refine o_iload X16 hx rfl (hb hby own_d4_42) rfl ?_
      by_cases hc32 : (own_f6 a0 p1 w1 w2) = (own_f5 p1 nn a3 k_a3 c0 c1 c2 c3 c4)
      · skip
        refine o_icmpN (pc' := 47) X16 hx rfl (hb hby own_d4_44) (teq hc32).2 ?_
        refine o_iconst (z := (1 : Int32)) X16 hx rfl (hb hby own_d4_47) (by decide) ?_
        refine o_goto (pc' := 52) X16 hx (hb hby own_d4_48) (by decide) (by decide) ?_
        have Fc33 : Fld Z h16 a0 "com/example/hermod/hermod/osp/SequenceWindow" "m_nHighest" "I" (.int (own_f6_H a0 p1 w1 w2)) := (Fld.other W16 f5_0 (Or.inl pre8))
        have Fc34 : Fld Z h16 a0 "com/example/hermod/hermod/osp/SequenceWindow" "m_nAccepted" "J" (.long (own_f6_A a0 p1 w1 w2)) := (Fld.other W16 f5_1 (Or.inl pre8))
        exact o_retB X16 hx Bd.returns (own_lv X16 hlk (by decide +kernel) (by decide +kernel)) (hb hby own_d4_52) (by decide) ⟨(by rw [own_fS0, if_neg hc8, if_neg hc21, if_pos hc32]), N16, (by rw [e16]; exact Kp17), (by rw [e16]; exact Fc33), (by rw [e16]; exact Fc34), (by rw [e16, show (own_fS0_C a0 p1 a3 a4 w1 w2 c0 c1 c2 c3 c4 nn k_a3 k_a4) = p1 from (by simp only [own_fS0_C, if_neg hc8, if_neg hc21, if_pos hc32])]; exact V16), (by rw [e16, show (own_fS0_N a0 p1 a3 a4 w1 w2 c0 c1 c2 c3 c4 nn k_a3 k_a4) = nn from (by simp only [own_fS0_N, if_neg hc8, if_neg hc21, if_pos hc32])]; exact Fc18)⟩
      · skip
        refine o_icmpY (pc' := 51) X16 hx (hb hby own_d4_44) (feq hc32).2 (by decide) (by decide) ?_
        refine o_iconst (z := (0 : Int32)) X16 hx rfl (hb hby own_d4_51) (by decide) ?_
        have Fc35 : Fld Z h16 a0 "com/example/hermod/hermod/osp/SequenceWindow" "m_nHighest" "I" (.int (own_f6_H a0 p1 w1 w2)) := (Fld.other W16 f5_0 (Or.inl pre8))
        have Fc36 : Fld Z h16 a0 "com/example/hermod/hermod/osp/SequenceWindow" "m_nAccepted" "J" (.long (own_f6_A a0 p1 w1 w2)) := (Fld.other W16 f5_1 (Or.inl pre8))
        exact o_retB X16 hx Bd.returns (own_lv X16 hlk (by decide +kernel) (by decide +kernel)) (hb hby own_d4_52) (by decide) ⟨(by rw [own_fS0, if_neg hc8, if_neg hc21, if_neg hc32]), N16, (by rw [e16]; exact Kp17), (by rw [e16]; exact Fc35), (by rw [e16]; exact Fc36), (by rw [e16, show (own_fS0_C a0 p1 a3 a4 w1 w2 c0 c1 c2 c3 c4 nn k_a3 k_a4) = p1 from (by simp only [own_fS0_C, if_neg hc8, if_neg hc21, if_neg hc32])]; exact V16), (by rw [e16, show (own_fS0_N a0 p1 a3 a4 w1 w2 c0 c1 c2 c3 c4 nn k_a3 k_a4) = nn from (by simp only [own_fS0_N, if_neg hc8, if_neg hc21, if_neg hc32])]; exact Fc18)⟩
def own_fS1 (a0 : Addr) (p1 : Int32) (a3 : Addr) (a4 : Addr) (w1 : Int32) (w2 : Int64) (c0 : Int32) (c1 : Int32) (c2 : Int32) (c3 : Int32) (c4 : Int32) (nn : Int32) (k_a3 : ClassId) (k_a4 : ClassId) : Int32 := (if (own_f5 p1 nn a3 k_a3 c0 c1 c2 c3 c4) = (0 : Int32) then (if (own_f6 a0 p1 w1 w2) = (own_f5 p1 nn a3 k_a3 c0 c1 c2 c3 c4) then (1 : Int32) else (0 : Int32)) else (if nn < p1 then (if (own_f6 a0 p1 w1 w2) = (own_f5 p1 nn a3 k_a3 c0 c1 c2 c3 c4) then (1 : Int32) else (0 : Int32)) else (if (own_f6 a0 p1 w1 w2) = (own_f5 p1 nn a3 k_a3 c0 c1 c2 c3 c4) then (1 : Int32) else (0 : Int32))))
def own_fS1_C (a0 : Addr) (p1 : Int32) (a3 : Addr) (a4 : Addr) (w1 : Int32) (w2 : Int64) (c0 : Int32) (c1 : Int32) (c2 : Int32) (c3 : Int32) (c4 : Int32) (nn : Int32) (k_a3 : ClassId) (k_a4 : ClassId) : Int32 := (if (own_f5 p1 nn a3 k_a3 c0 c1 c2 c3 c4) = (0 : Int32) then (if (own_f6 a0 p1 w1 w2) = (own_f5 p1 nn a3 k_a3 c0 c1 c2 c3 c4) then c1 else c1) else (if nn < p1 then (if (own_f6 a0 p1 w1 w2) = (own_f5 p1 nn a3 k_a3 c0 c1 c2 c3 c4) then p1 else p1) else (if (own_f6 a0 p1 w1 w2) = (own_f5 p1 nn a3 k_a3 c0 c1 c2 c3 c4) then p1 else p1)))
def own_fS1_N (a0 : Addr) (p1 : Int32) (a3 : Addr) (a4 : Addr) (w1 : Int32) (w2 : Int64) (c0 : Int32) (c1 : Int32) (c2 : Int32) (c3 : Int32) (c4 : Int32) (nn : Int32) (k_a3 : ClassId) (k_a4 : ClassId) : Int32 := (if (own_f5 p1 nn a3 k_a3 c0 c1 c2 c3 c4) = (0 : Int32) then (if (own_f6 a0 p1 w1 w2) = (own_f5 p1 nn a3 k_a3 c0 c1 c2 c3 c4) then nn else nn) else (if nn < p1 then (if (own_f6 a0 p1 w1 w2) = (own_f5 p1 nn a3 k_a3 c0 c1 c2 c3 c4) then p1 else p1) else (if (own_f6 a0 p1 w1 w2) = (own_f5 p1 nn a3 k_a3 c0 c1 c2 c3 c4) then nn else nn)))
theorem own_efS1 (m : MethodId) (a0 : Addr) (p1 : Int32) (a3 : Addr) (a4 : Addr) : entryFrame m #[(.ref a0), (.int p1), (.int (1 : Int32)), (.ref a3), (.ref a4)] 7 = mkF m 0 #[.val (.ref a0), .val (.int p1), .val (.int (1 : Int32)), .val (.ref a3), .val (.ref a4), .unset, .unset] [] := by first | (simp [entryFrame, mkF, argsToLocals, Value.category]; done) | rfl
def own_QS1 (Z : State) (a0 : Addr) (p1 : Int32) (a3 : Addr) (a4 : Addr) (w1 : Int32) (w2 : Int64) (c0 : Int32) (c1 : Int32) (c2 : Int32) (c3 : Int32) (c4 : Int32) (nn : Int32) (k_a3 : ClassId) (k_a4 : ClassId) (h0 : Heap) (n0 : Nat) (v : Option Value) (h : Heap) (L : List Loc) : Prop := v = some (.int (own_fS1 a0 p1 a3 a4 w1 w2 c0 c1 c2 c3 c4 nn k_a3 k_a4)) ∧ Fr n0 L ∧ Keep h0 h [a0, a3, a4] ∧ Fld Z h a0 "com/example/hermod/hermod/osp/SequenceWindow" "m_nHighest" "I" (.int (own_f6_H a0 p1 w1 w2)) ∧ Fld Z h a0 "com/example/hermod/hermod/osp/SequenceWindow" "m_nAccepted" "J" (.long (own_f6_A a0 p1 w1 w2)) ∧ Arv Z h a3 k_a3 .int (5 : Int32) [(.int c0), (.int (own_fS1_C a0 p1 a3 a4 w1 w2 c0 c1 c2 c3 c4 nn k_a3 k_a4)), (.int c2), (.int c3), (.int c4)] (.int (0 : Int32)) ∧ Arv Z h a4 k_a4 .int (1 : Int32) [(.int (own_fS1_N a0 p1 a3 a4 w1 w2 c0 c1 c2 c3 c4 nn k_a3 k_a4))] (.int (0 : Int32))
set_option maxRecDepth 65536 in
set_option maxHeartbeats 40000000 in
theorem own_rmS1 (l : Launch) (Z : State) (aA : Array Value) (hw : ∀ d ∈ tables_1, d.before aA Z = true) (ws : List Jvm.Cond) (a0 : Addr) (p1 : Int32) (a3 : Addr) (a4 : Addr) (w1 : Int32) (w2 : Int64) (c0 : Int32) (c1 : Int32) (c2 : Int32) (c3 : Int32) (c4 : Int32) (nn : Int32) (k_a3 : ClassId) (k_a4 : ClassId) (h0 : Heap) (n0 : Nat) (Z0 : n0 ≤ h0.size) (pre0 : Exa Z h0 a0 "com/example/hermod/hermod/osp/SequenceWindow") (pre1 : n0 ≤ a0) (pre2 : Fld Z h0 a0 "com/example/hermod/hermod/osp/SequenceWindow" "m_nHighest" "I" (.int w1)) (pre3 : Fld Z h0 a0 "com/example/hermod/hermod/osp/SequenceWindow" "m_nAccepted" "J" (.long w2)) (pre4 : Arv Z h0 a3 k_a3 .int (5 : Int32) [(.int c0), (.int c1), (.int c2), (.int c3), (.int c4)] (.int (0 : Int32))) (pre5 : Arv Z h0 a4 k_a4 .int (1 : Int32) [(.int nn)] (.int (0 : Int32))) (pre6 : n0 ≤ a3) (pre7 : n0 ≤ a4) (pre8 : a0 ≠ a3) (pre9 : a0 ≠ a4) (pre10 : a3 ≠ a4) :
    MetFree l (⟨"com/example/hermod/hermod/osp/SequenceWindowAcceptPinLaw", "step", "(Lcom/example/hermod/hermod/osp/SequenceWindow;II[I[I)Z"⟩ : MethodName) (head1 (Jvm.Cond.code (⟨"com/example/hermod/hermod/osp/SequenceWindowAcceptPinLaw", "step", "(Lcom/example/hermod/hermod/osp/SequenceWindow;II[I[I)Z"⟩ : MethodName) method_5_code 7 (some .boolean) :: ws) ({ frames := 2, cells := 0, slots := 0, locals := 27 } : Room)) (fun a U => a = #[(.ref a0), (.int p1), (.int (1 : Int32)), (.ref a3), (.ref a4)] ∧ Z.Warmed39 U.vm ∧ U.heap = h0) (fun _ _ _ _ _ => True) (fun _ U o U' => ∃ v L, o = .returned v ∧ own_QS1 Z a0 p1 a3 a4 w1 w2 c0 c1 c2 c3 c4 nn k_a3 k_a4 h0 n0 v U'.heap L ∧ FrameEnd U o U' L ({ frames := 2, cells := 0, slots := 0, locals := 27 } : Room).cells ({ frames := 2, cells := 0, slots := 0, locals := 27 } : Room).slots) := by
  refine MetFree.of_bodySF (plainFor_of_name own_pn22) hisR ?_
  intro p e s m args below meth c s₁ Bd hml0 hP hK
  obtain ⟨rfl, hZ, hh⟩ := hP
  have hx := Bd.exec
  have hby := Bd.bytes
  have hlk : meth.locks = false := Bd.notSynchronized
  have hml : c.maxLocals = 7 := hml0
  have hown : s.vm.findClass "com/example/hermod/hermod/osp/SequenceWindowAcceptPinLaw" = some m.cls := findClass_of_methodNamed Bd.named
  have hnm := (name_of_methodNamed Bd.named Bd.method).1
  have X0 : Stand p l e ({ frames := 2, cells := 0, slots := 0, locals := 27 } : Room) s m #[(.ref a0), (.int p1), (.int (1 : Int32)), (.ref a3), (.ref a4)] below meth c s₁ [] 0 0 := Stand.of_body Bd
  have e0 : s₁.heap = h0 := by rw [← hh, Bd.state]; rfl
  have N0 := Fr.nil n0
  show OG p e below (FE s ({ frames := 2, cells := 0, slots := 0, locals := 27 } : Room).cells ({ frames := 2, cells := 0, slots := 0, locals := 27 } : Room).slots) (own_QS1 Z a0 p1 a3 a4 w1 w2 c0 c1 c2 c3 c4 nn k_a3 k_a4 h0 n0) (s₁.setTop (entryFrame m #[(.ref a0), (.int p1), (.int (1 : Int32)), (.ref a3), (.ref a4)] 7))
  refine og_of (fun _ k => castTop (own_efS1 m a0 p1 a3 a4) k) ?_
  refine o_iloadN X0 hx rfl (hb hby own_d4_0) rfl ?_
  refine o_aload X0 hx rfl (hb hby own_d4_1) rfl rfl ?_
  refine o_iconst (z := (0 : Int32)) X0 hx rfl (hb hby own_d4_3) (by decide) ?_
  obtain ⟨clv1, Arv1, qv1, Sv1, Nv1, Hv1, Gv1⟩ := id pre5
  have hin2 : ¬ ((0 : Int32) < 0 ∨ clv1.slots.size ≤ ((0 : Int32)).toNatClampNeg) := inb_of Sv1 ⟨by decide, by decide⟩
  have hat2 : clv1.slots[((0 : Int32)).toNatClampNeg]? = some (.int nn) := Hv1.at hin2 rfl
  refine og_of (X0.iaload hx (j := (0 : Int32)) (v := (.int nn)) (by rw [e0]; exact Arv1.1) (State.isArrayOf_alike hZ.alike Arv1.2.1) Arv1.2.2 hin2 hat2 (g := (mkF m 4 #[.val (.ref a0), .val (.int p1), .val (.int (1 : Int32)), .val (.ref a3), .val (.ref a4), .unset, .unset] [(.int (0 : Int32)), (.ref a4), (.int p1)])) rfl rfl (hb hby own_d4_4)) ?_
  show OG p e below _ _ (s₁.setTop (mkF m 5 #[.val (.ref a0), .val (.int p1), .val (.int (1 : Int32)), .val (.ref a3), .val (.ref a4), .unset, .unset] [(.int nn), (.int p1)]))
  refine o_aloadN X0 hx rfl (hb hby own_d4_5) rfl rfl ?_
  obtain ⟨_, _, ⟨T3, L3, k3, n3⟩, -, X3, ⟨Lc3, hQ3, l3, y3, z3⟩, st3⟩ := Jvm.LawKit.callS X0 hx (y := (⟨"com/example/hermod/hermod/osp/SequenceWindowAcceptPinLaw", "expected", "(II[I)Z"⟩ : MethodName)) hown (mvT hZ (hw _ (List.mem_of_getElem? (i := 20) rfl))) (mvT hZ (hw _ (List.mem_of_getElem? (i := 21) rfl))) (mvT hZ (hw _ (List.mem_of_getElem? (i := 4) rfl))) (mvT hZ (hw _ (List.mem_of_getElem? (i := 22) rfl))) (by decide) (backOf (W := 0) (own_rm5 l Z aA hw [] p1 nn a3 k_a3 c0 c1 c2 c3 c4 h0 n0 Z0 pre4) hZ (hw _ (List.mem_of_getElem? (i := 22) rfl)) (hw _ (List.mem_of_getElem? (i := 4) rfl)) (by decide) (by decide)) (g := (mkF m 6 #[.val (.ref a0), .val (.int p1), .val (.int (1 : Int32)), .val (.ref a3), .val (.ref a4), .unset, .unset] [(.ref a3), (.int nn), (.int p1)])) rfl (by rw [hml]; rfl) (argsL := [(.int p1), (.int nn), (.ref a3)]) (rest := []) (lenOf own_pd1 rfl) rfl (by show 2 * 0 + _ ≤ _; exact Nat.le_of_eq rfl) (hb hby own_d4_6) (fun _ _ => ⟨rfl, e0, (by dsimp only [Pt.cells, Pt.slots]; decide +kernel), (by dsimp only [Pt.cells, Pt.slots]; decide +kernel)⟩)
  dsimp only [Pt.U, Pt.locs, Pt.cells, Pt.slots] at X3 l3 y3 z3 st3 hQ3
  rw [l3, y3, z3] at X3
  obtain ⟨rfl, N3q, ee3⟩ := hQ3
  have N4 := Fr.app N0 N3q
  refine og_of st3 ?_
  show OG p e below _ _ (T3.setTop (mkF m 9 #[.val (.ref a0), .val (.int p1), .val (.int (1 : Int32)), .val (.ref a3), .val (.ref a4), .unset, .unset] [(.int (own_f5 p1 nn a3 k_a3 c0 c1 c2 c3 c4))]))
  refine o_istore X3 hx rfl (hb hby own_d4_9) (L' := #[.val (.ref a0), .val (.int p1), .val (.int (1 : Int32)), .val (.ref a3), .val (.ref a4), .val (.int (own_f5 p1 nn a3 k_a3 c0 c1 c2 c3 c4)), .unset]) rfl ?_
  refine o_aloadN X3 hx rfl (hb hby own_d4_11) rfl rfl ?_
  refine o_iloadN X3 hx rfl (hb hby own_d4_12) rfl ?_
  obtain ⟨cq5, kq5, q5a, q5b, q5c⟩ := isOf hZ ee3 pre0
  obtain ⟨_, _, ⟨T5, L5, k5, n5⟩, -, X5, ⟨Lc5, hQ5, l5, y5, z5⟩, st5⟩ := X3.virtualBack hx (y := (⟨"com/example/hermod/hermod/osp/SequenceWindow", "accept", "(I)Z"⟩ : MethodName)) (z := (⟨"com/example/hermod/hermod/osp/SequenceWindow", "accept", "(I)Z"⟩ : MethodName)) hown (mvT hZ (hw _ (List.mem_of_getElem? (i := 23) rfl))) (mvT hZ (hw _ (List.mem_of_getElem? (i := 24) rfl))) (notFace_of_selects (args := #[]) (mvT hZ (hw _ (List.mem_of_getElem? (i := 26) rfl)))) (mvT hZ (hw _ (List.mem_of_getElem? (i := 26) rfl))) (mvT hZ (hw _ (List.mem_of_getElem? (i := 25) rfl))) (by decide) (backOf (W := 0) (own_rm6 l Z aA hw [] a0 p1 w1 w2 h0 n0 Z0 pre0 pre1 pre2 pre3) hZ (hw _ (List.mem_of_getElem? (i := 27) rfl)) (hw _ (List.mem_of_getElem? (i := 8) rfl)) (by decide) (by decide)) q5a q5c (g := (mkF m 13 #[.val (.ref a0), .val (.int p1), .val (.int (1 : Int32)), .val (.ref a3), .val (.ref a4), .val (.int (own_f5 p1 nn a3 k_a3 c0 c1 c2 c3 c4)), .unset] [(.int p1), (.ref a0)])) rfl (by rw [hml]; rfl) (Steps.refl _) (argsL := [(.int p1)]) (rest := []) (lenOf own_pd2 rfl) rfl (by show 2 * 0 + _ ≤ _; exact Nat.le_of_eq rfl) (hb hby own_d4_13) (fun _ _ => ⟨rfl, ee3, (by dsimp only [Pt.cells, Pt.slots]; decide +kernel), (by dsimp only [Pt.cells, Pt.slots]; decide +kernel)⟩)
  dsimp only [Pt.U, Pt.locs, Pt.cells, Pt.slots] at X5 l5 y5 z5 st5 hQ5
  rw [l5, y5, z5] at X5
  obtain ⟨rfl, N5q, K5, f5_0, f5_1⟩ := hQ5
  have N6 := Fr.app N4 N5q
  have Kp7 : Keep h0 T5.heap [a0, a3, a4] := (Keep.refl h0 [a0, a3, a4]).trans K5 (allS (Or.inl (List.mem_of_getElem? (i := 0) rfl)) all0)
  refine og_tr st5 ?_
  show OG p e below _ _ (T5.setTop (mkF m 16 #[.val (.ref a0), .val (.int p1), .val (.int (1 : Int32)), .val (.ref a3), .val (.ref a4), .val (.int (own_f5 p1 nn a3 k_a3 c0 c1 c2 c3 c4)), .unset] [(.int (own_f6 a0 p1 w1 w2))]))
  refine o_istore X5 hx rfl (hb hby own_d4_16) (L' := #[.val (.ref a0), .val (.int p1), .val (.int (1 : Int32)), .val (.ref a3), .val (.ref a4), .val (.int (own_f5 p1 nn a3 k_a3 c0 c1 c2 c3 c4)), .val (.int (own_f6 a0 p1 w1 w2))]) rfl ?_
  refine o_iload X5 hx rfl (hb hby own_d4_18) rfl ?_
  by_cases hc8 : (own_f5 p1 nn a3 k_a3 c0 c1 c2 c3 c4) = (0 : Int32)
  · skip
    refine o_ifY (pc' := 40) X5 hx (hb hby own_d4_20) ((if0 _ _).trans (teq hc8).1) (by decide) (by decide) ?_
    refine o_iload X5 hx rfl (hb hby own_d4_40) rfl ?_
    refine o_iload X5 hx rfl (hb hby own_d4_42) rfl ?_
    by_cases hc9 : (own_f6 a0 p1 w1 w2) = (own_f5 p1 nn a3 k_a3 c0 c1 c2 c3 c4)
    · skip
      refine o_icmpN (pc' := 47) X5 hx rfl (hb hby own_d4_44) (teq hc9).2 ?_
      refine o_iconst (z := (1 : Int32)) X5 hx rfl (hb hby own_d4_47) (by decide) ?_
      refine o_goto (pc' := 52) X5 hx (hb hby own_d4_48) (by decide) (by decide) ?_
      have Fc10 : Arv Z T5.heap a3 k_a3 .int (5 : Int32) [(.int c0), (.int c1), (.int c2), (.int c3), (.int c4)] (.int (0 : Int32)) := (pre4.keep K5 (ninS (Ne.symm pre8) nin0))
      have Fc11 : Arv Z T5.heap a4 k_a4 .int (1 : Int32) [(.int nn)] (.int (0 : Int32)) := (pre5.keep K5 (ninS (Ne.symm pre9) nin0))
      exact o_retB X5 hx Bd.returns (own_lv X5 hlk (by decide +kernel) (by decide +kernel)) (hb hby own_d4_52) (by decide) ⟨(by rw [own_fS1, if_pos hc8, if_pos hc9]), N6, (Kp7), f5_0, f5_1, (by rw [show (own_fS1_C a0 p1 a3 a4 w1 w2 c0 c1 c2 c3 c4 nn k_a3 k_a4) = c1 from (by simp only [own_fS1_C, if_pos hc8, if_pos hc9])]; exact Fc10), (by rw [show (own_fS1_N a0 p1 a3 a4 w1 w2 c0 c1 c2 c3 c4 nn k_a3 k_a4) = nn from (by simp only [own_fS1_N, if_pos hc8, if_pos hc9])]; exact Fc11)⟩
    · skip
      refine o_icmpY (pc' := 51) X5 hx (hb hby own_d4_44) (feq hc9).2 (by decide) (by decide) ?_
      refine o_iconst (z := (0 : Int32)) X5 hx rfl (hb hby own_d4_51) (by decide) ?_
      have Fc12 : Arv Z T5.heap a3 k_a3 .int (5 : Int32) [(.int c0), (.int c1), (.int c2), (.int c3), (.int c4)] (.int (0 : Int32)) := (pre4.keep K5 (ninS (Ne.symm pre8) nin0))
      have Fc13 : Arv Z T5.heap a4 k_a4 .int (1 : Int32) [(.int nn)] (.int (0 : Int32)) := (pre5.keep K5 (ninS (Ne.symm pre9) nin0))
      exact o_retB X5 hx Bd.returns (own_lv X5 hlk (by decide +kernel) (by decide +kernel)) (hb hby own_d4_52) (by decide) ⟨(by rw [own_fS1, if_pos hc8, if_neg hc9]), N6, (Kp7), f5_0, f5_1, (by rw [show (own_fS1_C a0 p1 a3 a4 w1 w2 c0 c1 c2 c3 c4 nn k_a3 k_a4) = c1 from (by simp only [own_fS1_C, if_pos hc8, if_neg hc9])]; exact Fc12), (by rw [show (own_fS1_N a0 p1 a3 a4 w1 w2 c0 c1 c2 c3 c4 nn k_a3 k_a4) = nn from (by simp only [own_fS1_N, if_pos hc8, if_neg hc9])]; exact Fc13)⟩
  · skip
    refine o_ifN (pc' := 23) X5 hx rfl (hb hby own_d4_20) ((if0 _ _).trans (feq hc8).1) ?_
    refine o_aloadN X5 hx rfl (hb hby own_d4_23) rfl rfl ?_
    refine o_iloadN X5 hx rfl (hb hby own_d4_24) rfl ?_
    refine o_iloadN X5 hx rfl (hb hby own_d4_25) rfl ?_
    have Fc14 : Arv Z T5.heap a3 k_a3 .int (5 : Int32) [(.int c0), (.int c1), (.int c2), (.int c3), (.int c4)] (.int (0 : Int32)) := (pre4.keep K5 (ninS (Ne.symm pre8) nin0))
    obtain ⟨clv15, Arv15, qv15, Sv15, Nv15, Hv15, Gv15⟩ := id Fc14
    have hin16 : ¬ ((1 : Int32) < 0 ∨ clv15.slots.size ≤ ((1 : Int32)).toNatClampNeg) := inb_of Sv15 ⟨by decide, by decide⟩
    obtain ⟨T16, h16, X16, e16, W16, st16⟩ := stI X5 hx hZ rfl Arv15 (j := (1 : Int32)) hin16 (g := (mkF m 26 #[.val (.ref a0), .val (.int p1), .val (.int (1 : Int32)), .val (.ref a3), .val (.ref a4), .val (.int (own_f5 p1 nn a3 k_a3 c0 c1 c2 c3 c4)), .val (.int (own_f6 a0 p1 w1 w2))] [(.int p1), (.int (1 : Int32)), (.ref a3)])) rfl rfl (hb hby own_d4_26)
    have V16 : Arv Z h16 a3 k_a3 .int (5 : Int32) [(.int c0), (.int p1), (.int c2), (.int c3), (.int c4)] (.int (0 : Int32)) := Arv.set Arv15 qv15 Sv15 Nv15 Hv15 Gv15 rfl W16 1 rfl (Nat.le_of_ble_eq_true rfl)
    have N16 := Fr.snoc X16 N6 pre6
    have Kp17 : Keep h0 h16 [a0, a3, a4] := Kp7.wr W16 (Or.inl (List.mem_of_getElem? (i := 1) rfl))
    refine og_of st16 ?_
    show OG p e below _ _ (T16.setTop (mkF m 27 #[.val (.ref a0), .val (.int p1), .val (.int (1 : Int32)), .val (.ref a3), .val (.ref a4), .val (.int (own_f5 p1 nn a3 k_a3 c0 c1 c2 c3 c4)), .val (.int (own_f6 a0 p1 w1 w2))] []))
    refine o_iloadN X16 hx rfl (hb hby own_d4_27) rfl ?_
    refine o_aload X16 hx rfl (hb hby own_d4_28) rfl rfl ?_
    refine o_iconst (z := (0 : Int32)) X16 hx rfl (hb hby own_d4_30) (by decide) ?_
    have Fc18 : Arv Z h16 a4 k_a4 .int (1 : Int32) [(.int nn)] (.int (0 : Int32)) := ((pre5.keep K5 (ninS (Ne.symm pre9) nin0)).other W16 (Ne.symm pre10))
    obtain ⟨clv19, Arv19, qv19, Sv19, Nv19, Hv19, Gv19⟩ := id Fc18
    have hin20 : ¬ ((0 : Int32) < 0 ∨ clv19.slots.size ≤ ((0 : Int32)).toNatClampNeg) := inb_of Sv19 ⟨by decide, by decide⟩
    have hat20 : clv19.slots[((0 : Int32)).toNatClampNeg]? = some (.int nn) := Hv19.at hin20 rfl
    refine og_of (X16.iaload hx (j := (0 : Int32)) (v := (.int nn)) (by rw [e16]; exact Arv19.1) (State.isArrayOf_alike hZ.alike Arv19.2.1) Arv19.2.2 hin20 hat20 (g := (mkF m 31 #[.val (.ref a0), .val (.int p1), .val (.int (1 : Int32)), .val (.ref a3), .val (.ref a4), .val (.int (own_f5 p1 nn a3 k_a3 c0 c1 c2 c3 c4)), .val (.int (own_f6 a0 p1 w1 w2))] [(.int (0 : Int32)), (.ref a4), (.int p1)])) rfl rfl (hb hby own_d4_31)) ?_
    show OG p e below _ _ (T16.setTop (mkF m 32 #[.val (.ref a0), .val (.int p1), .val (.int (1 : Int32)), .val (.ref a3), .val (.ref a4), .val (.int (own_f5 p1 nn a3 k_a3 c0 c1 c2 c3 c4)), .val (.int (own_f6 a0 p1 w1 w2))] [(.int nn), (.int p1)]))
    by_cases hc21 : nn < p1
    · skip
      refine o_icmpN (pc' := 35) X16 hx rfl (hb hby own_d4_32) (tlt hc21).2.2.2 ?_
      refine o_aload X16 hx rfl (hb hby own_d4_35) rfl rfl ?_
      refine o_iconst (z := (0 : Int32)) X16 hx rfl (hb hby own_d4_37) (by decide) ?_
      refine o_iloadN X16 hx rfl (hb hby own_d4_38) rfl ?_
      obtain ⟨clv22, Arv22, qv22, Sv22, Nv22, Hv22, Gv22⟩ := id Fc18
      have hin23 : ¬ ((0 : Int32) < 0 ∨ clv22.slots.size ≤ ((0 : Int32)).toNatClampNeg) := inb_of Sv22 ⟨by decide, by decide⟩
      obtain ⟨T23, h23, X23, e23, W23, st23⟩ := stI X16 hx hZ e16 Arv22 (j := (0 : Int32)) hin23 (g := (mkF m 39 #[.val (.ref a0), .val (.int p1), .val (.int (1 : Int32)), .val (.ref a3), .val (.ref a4), .val (.int (own_f5 p1 nn a3 k_a3 c0 c1 c2 c3 c4)), .val (.int (own_f6 a0 p1 w1 w2))] [(.int p1), (.int (0 : Int32)), (.ref a4)])) rfl rfl (hb hby own_d4_39)
      have V23 : Arv Z h23 a4 k_a4 .int (1 : Int32) [(.int p1)] (.int (0 : Int32)) := Arv.set Arv22 qv22 Sv22 Nv22 Hv22 Gv22 rfl W23 0 rfl (Nat.le_of_ble_eq_true rfl)
      have N23 := Fr.snoc X23 N16 pre7
      have Kp24 : Keep h0 h23 [a0, a3, a4] := Kp17.wr W23 (Or.inl (List.mem_of_getElem? (i := 2) rfl))
      refine og_of st23 ?_
      show OG p e below _ _ (T23.setTop (mkF m 40 #[.val (.ref a0), .val (.int p1), .val (.int (1 : Int32)), .val (.ref a3), .val (.ref a4), .val (.int (own_f5 p1 nn a3 k_a3 c0 c1 c2 c3 c4)), .val (.int (own_f6 a0 p1 w1 w2))] []))
      refine o_iload X23 hx rfl (hb hby own_d4_40) rfl ?_
      refine o_iload X23 hx rfl (hb hby own_d4_42) rfl ?_
      by_cases hc25 : (own_f6 a0 p1 w1 w2) = (own_f5 p1 nn a3 k_a3 c0 c1 c2 c3 c4)
      · skip
        refine o_icmpN (pc' := 47) X23 hx rfl (hb hby own_d4_44) (teq hc25).2 ?_
        refine o_iconst (z := (1 : Int32)) X23 hx rfl (hb hby own_d4_47) (by decide) ?_
        refine o_goto (pc' := 52) X23 hx (hb hby own_d4_48) (by decide) (by decide) ?_
        have Fc26 : Fld Z h23 a0 "com/example/hermod/hermod/osp/SequenceWindow" "m_nHighest" "I" (.int (own_f6_H a0 p1 w1 w2)) := (Fld.other W23 (Fld.other W16 f5_0 (Or.inl pre8)) (Or.inl pre9))
        have Fc27 : Fld Z h23 a0 "com/example/hermod/hermod/osp/SequenceWindow" "m_nAccepted" "J" (.long (own_f6_A a0 p1 w1 w2)) := (Fld.other W23 (Fld.other W16 f5_1 (Or.inl pre8)) (Or.inl pre9))
        have Fc28 : Arv Z h23 a3 k_a3 .int (5 : Int32) [(.int c0), (.int p1), (.int c2), (.int c3), (.int c4)] (.int (0 : Int32)) := (V16.other W23 pre10)
        exact o_retB X23 hx Bd.returns (own_lv X23 hlk (by decide +kernel) (by decide +kernel)) (hb hby own_d4_52) (by decide) ⟨(by rw [own_fS1, if_neg hc8, if_pos hc21, if_pos hc25]), N23, (by rw [e23]; exact Kp24), (by rw [e23]; exact Fc26), (by rw [e23]; exact Fc27), (by rw [e23, show (own_fS1_C a0 p1 a3 a4 w1 w2 c0 c1 c2 c3 c4 nn k_a3 k_a4) = p1 from (by simp only [own_fS1_C, if_neg hc8, if_pos hc21, if_pos hc25])]; exact Fc28), (by rw [e23, show (own_fS1_N a0 p1 a3 a4 w1 w2 c0 c1 c2 c3 c4 nn k_a3 k_a4) = p1 from (by simp only [own_fS1_N, if_neg hc8, if_pos hc21, if_pos hc25])]; exact V23)⟩
      · skip
        refine o_icmpY (pc' := 51) X23 hx (hb hby own_d4_44) (feq hc25).2 (by decide) (by decide) ?_
        refine o_iconst (z := (0 : Int32)) X23 hx rfl (hb hby own_d4_51) (by decide) ?_
        have Fc29 : Fld Z h23 a0 "com/example/hermod/hermod/osp/SequenceWindow" "m_nHighest" "I" (.int (own_f6_H a0 p1 w1 w2)) := (Fld.other W23 (Fld.other W16 f5_0 (Or.inl pre8)) (Or.inl pre9))
        have Fc30 : Fld Z h23 a0 "com/example/hermod/hermod/osp/SequenceWindow" "m_nAccepted" "J" (.long (own_f6_A a0 p1 w1 w2)) := (Fld.other W23 (Fld.other W16 f5_1 (Or.inl pre8)) (Or.inl pre9))
        have Fc31 : Arv Z h23 a3 k_a3 .int (5 : Int32) [(.int c0), (.int p1), (.int c2), (.int c3), (.int c4)] (.int (0 : Int32)) := (V16.other W23 pre10)
        exact o_retB X23 hx Bd.returns (own_lv X23 hlk (by decide +kernel) (by decide +kernel)) (hb hby own_d4_52) (by decide) ⟨(by rw [own_fS1, if_neg hc8, if_pos hc21, if_neg hc25]), N23, (by rw [e23]; exact Kp24), (by rw [e23]; exact Fc29), (by rw [e23]; exact Fc30), (by rw [e23, show (own_fS1_C a0 p1 a3 a4 w1 w2 c0 c1 c2 c3 c4 nn k_a3 k_a4) = p1 from (by simp only [own_fS1_C, if_neg hc8, if_pos hc21, if_neg hc25])]; exact Fc31), (by rw [e23, show (own_fS1_N a0 p1 a3 a4 w1 w2 c0 c1 c2 c3 c4 nn k_a3 k_a4) = p1 from (by simp only [own_fS1_N, if_neg hc8, if_pos hc21, if_neg hc25])]; exact V23)⟩
    · skip
      refine o_icmpY (pc' := 40) X16 hx (hb hby own_d4_32) (flt hc21).2.2.2 (by decide) (by decide) ?_
      refine o_iload X16 hx rfl (hb hby own_d4_40) rfl ?_
      refine o_iload X16 hx rfl (hb hby own_d4_42) rfl ?_
      by_cases hc32 : (own_f6 a0 p1 w1 w2) = (own_f5 p1 nn a3 k_a3 c0 c1 c2 c3 c4)
      · skip
        refine o_icmpN (pc' := 47) X16 hx rfl (hb hby own_d4_44) (teq hc32).2 ?_
        refine o_iconst (z := (1 : Int32)) X16 hx rfl (hb hby own_d4_47) (by decide) ?_
        refine o_goto (pc' := 52) X16 hx (hb hby own_d4_48) (by decide) (by decide) ?_
        have Fc33 : Fld Z h16 a0 "com/example/hermod/hermod/osp/SequenceWindow" "m_nHighest" "I" (.int (own_f6_H a0 p1 w1 w2)) := (Fld.other W16 f5_0 (Or.inl pre8))
        have Fc34 : Fld Z h16 a0 "com/example/hermod/hermod/osp/SequenceWindow" "m_nAccepted" "J" (.long (own_f6_A a0 p1 w1 w2)) := (Fld.other W16 f5_1 (Or.inl pre8))
        exact o_retB X16 hx Bd.returns (own_lv X16 hlk (by decide +kernel) (by decide +kernel)) (hb hby own_d4_52) (by decide) ⟨(by rw [own_fS1, if_neg hc8, if_neg hc21, if_pos hc32]), N16, (by rw [e16]; exact Kp17), (by rw [e16]; exact Fc33), (by rw [e16]; exact Fc34), (by rw [e16, show (own_fS1_C a0 p1 a3 a4 w1 w2 c0 c1 c2 c3 c4 nn k_a3 k_a4) = p1 from (by simp only [own_fS1_C, if_neg hc8, if_neg hc21, if_pos hc32])]; exact V16), (by rw [e16, show (own_fS1_N a0 p1 a3 a4 w1 w2 c0 c1 c2 c3 c4 nn k_a3 k_a4) = nn from (by simp only [own_fS1_N, if_neg hc8, if_neg hc21, if_pos hc32])]; exact Fc18)⟩
      · skip
        refine o_icmpY (pc' := 51) X16 hx (hb hby own_d4_44) (feq hc32).2 (by decide) (by decide) ?_
        refine o_iconst (z := (0 : Int32)) X16 hx rfl (hb hby own_d4_51) (by decide) ?_
        have Fc35 : Fld Z h16 a0 "com/example/hermod/hermod/osp/SequenceWindow" "m_nHighest" "I" (.int (own_f6_H a0 p1 w1 w2)) := (Fld.other W16 f5_0 (Or.inl pre8))
        have Fc36 : Fld Z h16 a0 "com/example/hermod/hermod/osp/SequenceWindow" "m_nAccepted" "J" (.long (own_f6_A a0 p1 w1 w2)) := (Fld.other W16 f5_1 (Or.inl pre8))
        exact o_retB X16 hx Bd.returns (own_lv X16 hlk (by decide +kernel) (by decide +kernel)) (hb hby own_d4_52) (by decide) ⟨(by rw [own_fS1, if_neg hc8, if_neg hc21, if_neg hc32]), N16, (by rw [e16]; exact Kp17), (by rw [e16]; exact Fc35), (by rw [e16]; exact Fc36), (by rw [e16, show (own_fS1_C a0 p1 a3 a4 w1 w2 c0 c1 c2 c3 c4 nn k_a3 k_a4) = p1 from (by simp only [own_fS1_C, if_neg hc8, if_neg hc21, if_neg hc32])]; exact V16), (by rw [e16, show (own_fS1_N a0 p1 a3 a4 w1 w2 c0 c1 c2 c3 c4 nn k_a3 k_a4) = nn from (by simp only [own_fS1_N, if_neg hc8, if_neg hc21, if_neg hc32])]; exact Fc18)⟩
def own_fS2 (a0 : Addr) (p1 : Int32) (a3 : Addr) (a4 : Addr) (w1 : Int32) (w2 : Int64) (c0 : Int32) (c1 : Int32) (c2 : Int32) (c3 : Int32) (c4 : Int32) (nn : Int32) (k_a3 : ClassId) (k_a4 : ClassId) : Int32 := (if (own_f5 p1 nn a3 k_a3 c0 c1 c2 c3 c4) = (0 : Int32) then (if (own_f6 a0 p1 w1 w2) = (own_f5 p1 nn a3 k_a3 c0 c1 c2 c3 c4) then (1 : Int32) else (0 : Int32)) else (if nn < p1 then (if (own_f6 a0 p1 w1 w2) = (own_f5 p1 nn a3 k_a3 c0 c1 c2 c3 c4) then (1 : Int32) else (0 : Int32)) else (if (own_f6 a0 p1 w1 w2) = (own_f5 p1 nn a3 k_a3 c0 c1 c2 c3 c4) then (1 : Int32) else (0 : Int32))))
def own_fS2_C (a0 : Addr) (p1 : Int32) (a3 : Addr) (a4 : Addr) (w1 : Int32) (w2 : Int64) (c0 : Int32) (c1 : Int32) (c2 : Int32) (c3 : Int32) (c4 : Int32) (nn : Int32) (k_a3 : ClassId) (k_a4 : ClassId) : Int32 := (if (own_f5 p1 nn a3 k_a3 c0 c1 c2 c3 c4) = (0 : Int32) then (if (own_f6 a0 p1 w1 w2) = (own_f5 p1 nn a3 k_a3 c0 c1 c2 c3 c4) then c2 else c2) else (if nn < p1 then (if (own_f6 a0 p1 w1 w2) = (own_f5 p1 nn a3 k_a3 c0 c1 c2 c3 c4) then p1 else p1) else (if (own_f6 a0 p1 w1 w2) = (own_f5 p1 nn a3 k_a3 c0 c1 c2 c3 c4) then p1 else p1)))
def own_fS2_N (a0 : Addr) (p1 : Int32) (a3 : Addr) (a4 : Addr) (w1 : Int32) (w2 : Int64) (c0 : Int32) (c1 : Int32) (c2 : Int32) (c3 : Int32) (c4 : Int32) (nn : Int32) (k_a3 : ClassId) (k_a4 : ClassId) : Int32 := (if (own_f5 p1 nn a3 k_a3 c0 c1 c2 c3 c4) = (0 : Int32) then (if (own_f6 a0 p1 w1 w2) = (own_f5 p1 nn a3 k_a3 c0 c1 c2 c3 c4) then nn else nn) else (if nn < p1 then (if (own_f6 a0 p1 w1 w2) = (own_f5 p1 nn a3 k_a3 c0 c1 c2 c3 c4) then p1 else p1) else (if (own_f6 a0 p1 w1 w2) = (own_f5 p1 nn a3 k_a3 c0 c1 c2 c3 c4) then nn else nn)))
theorem own_efS2 (m : MethodId) (a0 : Addr) (p1 : Int32) (a3 : Addr) (a4 : Addr) : entryFrame m #[(.ref a0), (.int p1), (.int (2 : Int32)), (.ref a3), (.ref a4)] 7 = mkF m 0 #[.val (.ref a0), .val (.int p1), .val (.int (2 : Int32)), .val (.ref a3), .val (.ref a4), .unset, .unset] [] := by first | (simp [entryFrame, mkF, argsToLocals, Value.category]; done) | rfl
def own_QS2 (Z : State) (a0 : Addr) (p1 : Int32) (a3 : Addr) (a4 : Addr) (w1 : Int32) (w2 : Int64) (c0 : Int32) (c1 : Int32) (c2 : Int32) (c3 : Int32) (c4 : Int32) (nn : Int32) (k_a3 : ClassId) (k_a4 : ClassId) (h0 : Heap) (n0 : Nat) (v : Option Value) (h : Heap) (L : List Loc) : Prop := v = some (.int (own_fS2 a0 p1 a3 a4 w1 w2 c0 c1 c2 c3 c4 nn k_a3 k_a4)) ∧ Fr n0 L ∧ Keep h0 h [a0, a3, a4] ∧ Fld Z h a0 "com/example/hermod/hermod/osp/SequenceWindow" "m_nHighest" "I" (.int (own_f6_H a0 p1 w1 w2)) ∧ Fld Z h a0 "com/example/hermod/hermod/osp/SequenceWindow" "m_nAccepted" "J" (.long (own_f6_A a0 p1 w1 w2)) ∧ Arv Z h a3 k_a3 .int (5 : Int32) [(.int c0), (.int c1), (.int (own_fS2_C a0 p1 a3 a4 w1 w2 c0 c1 c2 c3 c4 nn k_a3 k_a4)), (.int c3), (.int c4)] (.int (0 : Int32)) ∧ Arv Z h a4 k_a4 .int (1 : Int32) [(.int (own_fS2_N a0 p1 a3 a4 w1 w2 c0 c1 c2 c3 c4 nn k_a3 k_a4))] (.int (0 : Int32))
set_option maxRecDepth 65536 in
set_option maxHeartbeats 40000000 in
theorem own_rmS2 (l : Launch) (Z : State) (aA : Array Value) (hw : ∀ d ∈ tables_1, d.before aA Z = true) (ws : List Jvm.Cond) (a0 : Addr) (p1 : Int32) (a3 : Addr) (a4 : Addr) (w1 : Int32) (w2 : Int64) (c0 : Int32) (c1 : Int32) (c2 : Int32) (c3 : Int32) (c4 : Int32) (nn : Int32) (k_a3 : ClassId) (k_a4 : ClassId) (h0 : Heap) (n0 : Nat) (Z0 : n0 ≤ h0.size) (pre0 : Exa Z h0 a0 "com/example/hermod/hermod/osp/SequenceWindow") (pre1 : n0 ≤ a0) (pre2 : Fld Z h0 a0 "com/example/hermod/hermod/osp/SequenceWindow" "m_nHighest" "I" (.int w1)) (pre3 : Fld Z h0 a0 "com/example/hermod/hermod/osp/SequenceWindow" "m_nAccepted" "J" (.long w2)) (pre4 : Arv Z h0 a3 k_a3 .int (5 : Int32) [(.int c0), (.int c1), (.int c2), (.int c3), (.int c4)] (.int (0 : Int32))) (pre5 : Arv Z h0 a4 k_a4 .int (1 : Int32) [(.int nn)] (.int (0 : Int32))) (pre6 : n0 ≤ a3) (pre7 : n0 ≤ a4) (pre8 : a0 ≠ a3) (pre9 : a0 ≠ a4) (pre10 : a3 ≠ a4) :
    MetFree l (⟨"com/example/hermod/hermod/osp/SequenceWindowAcceptPinLaw", "step", "(Lcom/example/hermod/hermod/osp/SequenceWindow;II[I[I)Z"⟩ : MethodName) (head1 (Jvm.Cond.code (⟨"com/example/hermod/hermod/osp/SequenceWindowAcceptPinLaw", "step", "(Lcom/example/hermod/hermod/osp/SequenceWindow;II[I[I)Z"⟩ : MethodName) method_5_code 7 (some .boolean) :: ws) ({ frames := 2, cells := 0, slots := 0, locals := 27 } : Room)) (fun a U => a = #[(.ref a0), (.int p1), (.int (2 : Int32)), (.ref a3), (.ref a4)] ∧ Z.Warmed39 U.vm ∧ U.heap = h0) (fun _ _ _ _ _ => True) (fun _ U o U' => ∃ v L, o = .returned v ∧ own_QS2 Z a0 p1 a3 a4 w1 w2 c0 c1 c2 c3 c4 nn k_a3 k_a4 h0 n0 v U'.heap L ∧ FrameEnd U o U' L ({ frames := 2, cells := 0, slots := 0, locals := 27 } : Room).cells ({ frames := 2, cells := 0, slots := 0, locals := 27 } : Room).slots) := by
  refine MetFree.of_bodySF (plainFor_of_name own_pn22) hisR ?_
  intro p e s m args below meth c s₁ Bd hml0 hP hK
  obtain ⟨rfl, hZ, hh⟩ := hP
  have hx := Bd.exec
  have hby := Bd.bytes
  have hlk : meth.locks = false := Bd.notSynchronized
  have hml : c.maxLocals = 7 := hml0
  have hown : s.vm.findClass "com/example/hermod/hermod/osp/SequenceWindowAcceptPinLaw" = some m.cls := findClass_of_methodNamed Bd.named
  have hnm := (name_of_methodNamed Bd.named Bd.method).1
  have X0 : Stand p l e ({ frames := 2, cells := 0, slots := 0, locals := 27 } : Room) s m #[(.ref a0), (.int p1), (.int (2 : Int32)), (.ref a3), (.ref a4)] below meth c s₁ [] 0 0 := Stand.of_body Bd
  have e0 : s₁.heap = h0 := by rw [← hh, Bd.state]; rfl
  have N0 := Fr.nil n0
  show OG p e below (FE s ({ frames := 2, cells := 0, slots := 0, locals := 27 } : Room).cells ({ frames := 2, cells := 0, slots := 0, locals := 27 } : Room).slots) (own_QS2 Z a0 p1 a3 a4 w1 w2 c0 c1 c2 c3 c4 nn k_a3 k_a4 h0 n0) (s₁.setTop (entryFrame m #[(.ref a0), (.int p1), (.int (2 : Int32)), (.ref a3), (.ref a4)] 7))
  refine og_of (fun _ k => castTop (own_efS2 m a0 p1 a3 a4) k) ?_
  refine o_iloadN X0 hx rfl (hb hby own_d4_0) rfl ?_
  refine o_aload X0 hx rfl (hb hby own_d4_1) rfl rfl ?_
  refine o_iconst (z := (0 : Int32)) X0 hx rfl (hb hby own_d4_3) (by decide) ?_
  obtain ⟨clv1, Arv1, qv1, Sv1, Nv1, Hv1, Gv1⟩ := id pre5
  have hin2 : ¬ ((0 : Int32) < 0 ∨ clv1.slots.size ≤ ((0 : Int32)).toNatClampNeg) := inb_of Sv1 ⟨by decide, by decide⟩
  have hat2 : clv1.slots[((0 : Int32)).toNatClampNeg]? = some (.int nn) := Hv1.at hin2 rfl
  refine og_of (X0.iaload hx (j := (0 : Int32)) (v := (.int nn)) (by rw [e0]; exact Arv1.1) (State.isArrayOf_alike hZ.alike Arv1.2.1) Arv1.2.2 hin2 hat2 (g := (mkF m 4 #[.val (.ref a0), .val (.int p1), .val (.int (2 : Int32)), .val (.ref a3), .val (.ref a4), .unset, .unset] [(.int (0 : Int32)), (.ref a4), (.int p1)])) rfl rfl (hb hby own_d4_4)) ?_
  show OG p e below _ _ (s₁.setTop (mkF m 5 #[.val (.ref a0), .val (.int p1), .val (.int (2 : Int32)), .val (.ref a3), .val (.ref a4), .unset, .unset] [(.int nn), (.int p1)]))
  refine o_aloadN X0 hx rfl (hb hby own_d4_5) rfl rfl ?_
  obtain ⟨_, _, ⟨T3, L3, k3, n3⟩, -, X3, ⟨Lc3, hQ3, l3, y3, z3⟩, st3⟩ := Jvm.LawKit.callS X0 hx (y := (⟨"com/example/hermod/hermod/osp/SequenceWindowAcceptPinLaw", "expected", "(II[I)Z"⟩ : MethodName)) hown (mvT hZ (hw _ (List.mem_of_getElem? (i := 20) rfl))) (mvT hZ (hw _ (List.mem_of_getElem? (i := 21) rfl))) (mvT hZ (hw _ (List.mem_of_getElem? (i := 4) rfl))) (mvT hZ (hw _ (List.mem_of_getElem? (i := 22) rfl))) (by decide) (backOf (W := 0) (own_rm5 l Z aA hw [] p1 nn a3 k_a3 c0 c1 c2 c3 c4 h0 n0 Z0 pre4) hZ (hw _ (List.mem_of_getElem? (i := 22) rfl)) (hw _ (List.mem_of_getElem? (i := 4) rfl)) (by decide) (by decide)) (g := (mkF m 6 #[.val (.ref a0), .val (.int p1), .val (.int (2 : Int32)), .val (.ref a3), .val (.ref a4), .unset, .unset] [(.ref a3), (.int nn), (.int p1)])) rfl (by rw [hml]; rfl) (argsL := [(.int p1), (.int nn), (.ref a3)]) (rest := []) (lenOf own_pd1 rfl) rfl (by show 2 * 0 + _ ≤ _; exact Nat.le_of_eq rfl) (hb hby own_d4_6) (fun _ _ => ⟨rfl, e0, (by dsimp only [Pt.cells, Pt.slots]; decide +kernel), (by dsimp only [Pt.cells, Pt.slots]; decide +kernel)⟩)
  dsimp only [Pt.U, Pt.locs, Pt.cells, Pt.slots] at X3 l3 y3 z3 st3 hQ3
  rw [l3, y3, z3] at X3
  obtain ⟨rfl, N3q, ee3⟩ := hQ3
  have N4 := Fr.app N0 N3q
  refine og_of st3 ?_
  show OG p e below _ _ (T3.setTop (mkF m 9 #[.val (.ref a0), .val (.int p1), .val (.int (2 : Int32)), .val (.ref a3), .val (.ref a4), .unset, .unset] [(.int (own_f5 p1 nn a3 k_a3 c0 c1 c2 c3 c4))]))
  refine o_istore X3 hx rfl (hb hby own_d4_9) (L' := #[.val (.ref a0), .val (.int p1), .val (.int (2 : Int32)), .val (.ref a3), .val (.ref a4), .val (.int (own_f5 p1 nn a3 k_a3 c0 c1 c2 c3 c4)), .unset]) rfl ?_
  refine o_aloadN X3 hx rfl (hb hby own_d4_11) rfl rfl ?_
  refine o_iloadN X3 hx rfl (hb hby own_d4_12) rfl ?_
  obtain ⟨cq5, kq5, q5a, q5b, q5c⟩ := isOf hZ ee3 pre0
  obtain ⟨_, _, ⟨T5, L5, k5, n5⟩, -, X5, ⟨Lc5, hQ5, l5, y5, z5⟩, st5⟩ := X3.virtualBack hx (y := (⟨"com/example/hermod/hermod/osp/SequenceWindow", "accept", "(I)Z"⟩ : MethodName)) (z := (⟨"com/example/hermod/hermod/osp/SequenceWindow", "accept", "(I)Z"⟩ : MethodName)) hown (mvT hZ (hw _ (List.mem_of_getElem? (i := 23) rfl))) (mvT hZ (hw _ (List.mem_of_getElem? (i := 24) rfl))) (notFace_of_selects (args := #[]) (mvT hZ (hw _ (List.mem_of_getElem? (i := 26) rfl)))) (mvT hZ (hw _ (List.mem_of_getElem? (i := 26) rfl))) (mvT hZ (hw _ (List.mem_of_getElem? (i := 25) rfl))) (by decide) (backOf (W := 0) (own_rm6 l Z aA hw [] a0 p1 w1 w2 h0 n0 Z0 pre0 pre1 pre2 pre3) hZ (hw _ (List.mem_of_getElem? (i := 27) rfl)) (hw _ (List.mem_of_getElem? (i := 8) rfl)) (by decide) (by decide)) q5a q5c (g := (mkF m 13 #[.val (.ref a0), .val (.int p1), .val (.int (2 : Int32)), .val (.ref a3), .val (.ref a4), .val (.int (own_f5 p1 nn a3 k_a3 c0 c1 c2 c3 c4)), .unset] [(.int p1), (.ref a0)])) rfl (by rw [hml]; rfl) (Steps.refl _) (argsL := [(.int p1)]) (rest := []) (lenOf own_pd2 rfl) rfl (by show 2 * 0 + _ ≤ _; exact Nat.le_of_eq rfl) (hb hby own_d4_13) (fun _ _ => ⟨rfl, ee3, (by dsimp only [Pt.cells, Pt.slots]; decide +kernel), (by dsimp only [Pt.cells, Pt.slots]; decide +kernel)⟩)
  dsimp only [Pt.U, Pt.locs, Pt.cells, Pt.slots] at X5 l5 y5 z5 st5 hQ5
  rw [l5, y5, z5] at X5
  obtain ⟨rfl, N5q, K5, f5_0, f5_1⟩ := hQ5
  have N6 := Fr.app N4 N5q
  have Kp7 : Keep h0 T5.heap [a0, a3, a4] := (Keep.refl h0 [a0, a3, a4]).trans K5 (allS (Or.inl (List.mem_of_getElem? (i := 0) rfl)) all0)
  refine og_tr st5 ?_
  show OG p e below _ _ (T5.setTop (mkF m 16 #[.val (.ref a0), .val (.int p1), .val (.int (2 : Int32)), .val (.ref a3), .val (.ref a4), .val (.int (own_f5 p1 nn a3 k_a3 c0 c1 c2 c3 c4)), .unset] [(.int (own_f6 a0 p1 w1 w2))]))
  refine o_istore X5 hx rfl (hb hby own_d4_16) (L' := #[.val (.ref a0), .val (.int p1), .val (.int (2 : Int32)), .val (.ref a3), .val (.ref a4), .val (.int (own_f5 p1 nn a3 k_a3 c0 c1 c2 c3 c4)), .val (.int (own_f6 a0 p1 w1 w2))]) rfl ?_
  refine o_iload X5 hx rfl (hb hby own_d4_18) rfl ?_
  by_cases hc8 : (own_f5 p1 nn a3 k_a3 c0 c1 c2 c3 c4) = (0 : Int32)
  · skip
    refine o_ifY (pc' := 40) X5 hx (hb hby own_d4_20) ((if0 _ _).trans (teq hc8).1) (by decide) (by decide) ?_
    refine o_iload X5 hx rfl (hb hby own_d4_40) rfl ?_
    refine o_iload X5 hx rfl (hb hby own_d4_42) rfl ?_
    by_cases hc9 : (own_f6 a0 p1 w1 w2) = (own_f5 p1 nn a3 k_a3 c0 c1 c2 c3 c4)
    · skip
      refine o_icmpN (pc' := 47) X5 hx rfl (hb hby own_d4_44) (teq hc9).2 ?_
      refine o_iconst (z := (1 : Int32)) X5 hx rfl (hb hby own_d4_47) (by decide) ?_
      refine o_goto (pc' := 52) X5 hx (hb hby own_d4_48) (by decide) (by decide) ?_
      have Fc10 : Arv Z T5.heap a3 k_a3 .int (5 : Int32) [(.int c0), (.int c1), (.int c2), (.int c3), (.int c4)] (.int (0 : Int32)) := (pre4.keep K5 (ninS (Ne.symm pre8) nin0))
      have Fc11 : Arv Z T5.heap a4 k_a4 .int (1 : Int32) [(.int nn)] (.int (0 : Int32)) := (pre5.keep K5 (ninS (Ne.symm pre9) nin0))
      exact o_retB X5 hx Bd.returns (own_lv X5 hlk (by decide +kernel) (by decide +kernel)) (hb hby own_d4_52) (by decide) ⟨(by rw [own_fS2, if_pos hc8, if_pos hc9]), N6, (Kp7), f5_0, f5_1, (by rw [show (own_fS2_C a0 p1 a3 a4 w1 w2 c0 c1 c2 c3 c4 nn k_a3 k_a4) = c2 from (by simp only [own_fS2_C, if_pos hc8, if_pos hc9])]; exact Fc10), (by rw [show (own_fS2_N a0 p1 a3 a4 w1 w2 c0 c1 c2 c3 c4 nn k_a3 k_a4) = nn from (by simp only [own_fS2_N, if_pos hc8, if_pos hc9])]; exact Fc11)⟩
    · skip
      refine o_icmpY (pc' := 51) X5 hx (hb hby own_d4_44) (feq hc9).2 (by decide) (by decide) ?_
      refine o_iconst (z := (0 : Int32)) X5 hx rfl (hb hby own_d4_51) (by decide) ?_
      have Fc12 : Arv Z T5.heap a3 k_a3 .int (5 : Int32) [(.int c0), (.int c1), (.int c2), (.int c3), (.int c4)] (.int (0 : Int32)) := (pre4.keep K5 (ninS (Ne.symm pre8) nin0))
      have Fc13 : Arv Z T5.heap a4 k_a4 .int (1 : Int32) [(.int nn)] (.int (0 : Int32)) := (pre5.keep K5 (ninS (Ne.symm pre9) nin0))
      exact o_retB X5 hx Bd.returns (own_lv X5 hlk (by decide +kernel) (by decide +kernel)) (hb hby own_d4_52) (by decide) ⟨(by rw [own_fS2, if_pos hc8, if_neg hc9]), N6, (Kp7), f5_0, f5_1, (by rw [show (own_fS2_C a0 p1 a3 a4 w1 w2 c0 c1 c2 c3 c4 nn k_a3 k_a4) = c2 from (by simp only [own_fS2_C, if_pos hc8, if_neg hc9])]; exact Fc12), (by rw [show (own_fS2_N a0 p1 a3 a4 w1 w2 c0 c1 c2 c3 c4 nn k_a3 k_a4) = nn from (by simp only [own_fS2_N, if_pos hc8, if_neg hc9])]; exact Fc13)⟩
  · skip
    refine o_ifN (pc' := 23) X5 hx rfl (hb hby own_d4_20) ((if0 _ _).trans (feq hc8).1) ?_
    refine o_aloadN X5 hx rfl (hb hby own_d4_23) rfl rfl ?_
    refine o_iloadN X5 hx rfl (hb hby own_d4_24) rfl ?_
    refine o_iloadN X5 hx rfl (hb hby own_d4_25) rfl ?_
    have Fc14 : Arv Z T5.heap a3 k_a3 .int (5 : Int32) [(.int c0), (.int c1), (.int c2), (.int c3), (.int c4)] (.int (0 : Int32)) := (pre4.keep K5 (ninS (Ne.symm pre8) nin0))
    obtain ⟨clv15, Arv15, qv15, Sv15, Nv15, Hv15, Gv15⟩ := id Fc14
    have hin16 : ¬ ((2 : Int32) < 0 ∨ clv15.slots.size ≤ ((2 : Int32)).toNatClampNeg) := inb_of Sv15 ⟨by decide, by decide⟩
    obtain ⟨T16, h16, X16, e16, W16, st16⟩ := stI X5 hx hZ rfl Arv15 (j := (2 : Int32)) hin16 (g := (mkF m 26 #[.val (.ref a0), .val (.int p1), .val (.int (2 : Int32)), .val (.ref a3), .val (.ref a4), .val (.int (own_f5 p1 nn a3 k_a3 c0 c1 c2 c3 c4)), .val (.int (own_f6 a0 p1 w1 w2))] [(.int p1), (.int (2 : Int32)), (.ref a3)])) rfl rfl (hb hby own_d4_26)
    have V16 : Arv Z h16 a3 k_a3 .int (5 : Int32) [(.int c0), (.int c1), (.int p1), (.int c3), (.int c4)] (.int (0 : Int32)) := Arv.set Arv15 qv15 Sv15 Nv15 Hv15 Gv15 rfl W16 2 rfl (Nat.le_of_ble_eq_true rfl)
    have N16 := Fr.snoc X16 N6 pre6
    have Kp17 : Keep h0 h16 [a0, a3, a4] := Kp7.wr W16 (Or.inl (List.mem_of_getElem? (i := 1) rfl))
    refine og_of st16 ?_
    show OG p e below _ _ (T16.setTop (mkF m 27 #[.val (.ref a0), .val (.int p1), .val (.int (2 : Int32)), .val (.ref a3), .val (.ref a4), .val (.int (own_f5 p1 nn a3 k_a3 c0 c1 c2 c3 c4)), .val (.int (own_f6 a0 p1 w1 w2))] []))
    refine o_iloadN X16 hx rfl (hb hby own_d4_27) rfl ?_
    refine o_aload X16 hx rfl (hb hby own_d4_28) rfl rfl ?_
    refine o_iconst (z := (0 : Int32)) X16 hx rfl (hb hby own_d4_30) (by decide) ?_
    have Fc18 : Arv Z h16 a4 k_a4 .int (1 : Int32) [(.int nn)] (.int (0 : Int32)) := ((pre5.keep K5 (ninS (Ne.symm pre9) nin0)).other W16 (Ne.symm pre10))
    obtain ⟨clv19, Arv19, qv19, Sv19, Nv19, Hv19, Gv19⟩ := id Fc18
    have hin20 : ¬ ((0 : Int32) < 0 ∨ clv19.slots.size ≤ ((0 : Int32)).toNatClampNeg) := inb_of Sv19 ⟨by decide, by decide⟩
    have hat20 : clv19.slots[((0 : Int32)).toNatClampNeg]? = some (.int nn) := Hv19.at hin20 rfl
    refine og_of (X16.iaload hx (j := (0 : Int32)) (v := (.int nn)) (by rw [e16]; exact Arv19.1) (State.isArrayOf_alike hZ.alike Arv19.2.1) Arv19.2.2 hin20 hat20 (g := (mkF m 31 #[.val (.ref a0), .val (.int p1), .val (.int (2 : Int32)), .val (.ref a3), .val (.ref a4), .val (.int (own_f5 p1 nn a3 k_a3 c0 c1 c2 c3 c4)), .val (.int (own_f6 a0 p1 w1 w2))] [(.int (0 : Int32)), (.ref a4), (.int p1)])) rfl rfl (hb hby own_d4_31)) ?_
    show OG p e below _ _ (T16.setTop (mkF m 32 #[.val (.ref a0), .val (.int p1), .val (.int (2 : Int32)), .val (.ref a3), .val (.ref a4), .val (.int (own_f5 p1 nn a3 k_a3 c0 c1 c2 c3 c4)), .val (.int (own_f6 a0 p1 w1 w2))] [(.int nn), (.int p1)]))
    by_cases hc21 : nn < p1
    · skip
      refine o_icmpN (pc' := 35) X16 hx rfl (hb hby own_d4_32) (tlt hc21).2.2.2 ?_
      refine o_aload X16 hx rfl (hb hby own_d4_35) rfl rfl ?_
      refine o_iconst (z := (0 : Int32)) X16 hx rfl (hb hby own_d4_37) (by decide) ?_
      refine o_iloadN X16 hx rfl (hb hby own_d4_38) rfl ?_
      obtain ⟨clv22, Arv22, qv22, Sv22, Nv22, Hv22, Gv22⟩ := id Fc18
      have hin23 : ¬ ((0 : Int32) < 0 ∨ clv22.slots.size ≤ ((0 : Int32)).toNatClampNeg) := inb_of Sv22 ⟨by decide, by decide⟩
      obtain ⟨T23, h23, X23, e23, W23, st23⟩ := stI X16 hx hZ e16 Arv22 (j := (0 : Int32)) hin23 (g := (mkF m 39 #[.val (.ref a0), .val (.int p1), .val (.int (2 : Int32)), .val (.ref a3), .val (.ref a4), .val (.int (own_f5 p1 nn a3 k_a3 c0 c1 c2 c3 c4)), .val (.int (own_f6 a0 p1 w1 w2))] [(.int p1), (.int (0 : Int32)), (.ref a4)])) rfl rfl (hb hby own_d4_39)
      have V23 : Arv Z h23 a4 k_a4 .int (1 : Int32) [(.int p1)] (.int (0 : Int32)) := Arv.set Arv22 qv22 Sv22 Nv22 Hv22 Gv22 rfl W23 0 rfl (Nat.le_of_ble_eq_true rfl)
      have N23 := Fr.snoc X23 N16 pre7
      have Kp24 : Keep h0 h23 [a0, a3, a4] := Kp17.wr W23 (Or.inl (List.mem_of_getElem? (i := 2) rfl))
      refine og_of st23 ?_
      show OG p e below _ _ (T23.setTop (mkF m 40 #[.val (.ref a0), .val (.int p1), .val (.int (2 : Int32)), .val (.ref a3), .val (.ref a4), .val (.int (own_f5 p1 nn a3 k_a3 c0 c1 c2 c3 c4)), .val (.int (own_f6 a0 p1 w1 w2))] []))
      refine o_iload X23 hx rfl (hb hby own_d4_40) rfl ?_
      refine o_iload X23 hx rfl (hb hby own_d4_42) rfl ?_
      by_cases hc25 : (own_f6 a0 p1 w1 w2) = (own_f5 p1 nn a3 k_a3 c0 c1 c2 c3 c4)
      · skip
        refine o_icmpN (pc' := 47) X23 hx rfl (hb hby own_d4_44) (teq hc25).2 ?_
        refine o_iconst (z := (1 : Int32)) X23 hx rfl (hb hby own_d4_47) (by decide) ?_
        refine o_goto (pc' := 52) X23 hx (hb hby own_d4_48) (by decide) (by decide) ?_
        have Fc26 : Fld Z h23 a0 "com/example/hermod/hermod/osp/SequenceWindow" "m_nHighest" "I" (.int (own_f6_H a0 p1 w1 w2)) := (Fld.other W23 (Fld.other W16 f5_0 (Or.inl pre8)) (Or.inl pre9))
        have Fc27 : Fld Z h23 a0 "com/example/hermod/hermod/osp/SequenceWindow" "m_nAccepted" "J" (.long (own_f6_A a0 p1 w1 w2)) := (Fld.other W23 (Fld.other W16 f5_1 (Or.inl pre8)) (Or.inl pre9))
        have Fc28 : Arv Z h23 a3 k_a3 .int (5 : Int32) [(.int c0), (.int c1), (.int p1), (.int c3), (.int c4)] (.int (0 : Int32)) := (V16.other W23 pre10)
        exact o_retB X23 hx Bd.returns (own_lv X23 hlk (by decide +kernel) (by decide +kernel)) (hb hby own_d4_52) (by decide) ⟨(by rw [own_fS2, if_neg hc8, if_pos hc21, if_pos hc25]), N23, (by rw [e23]; exact Kp24), (by rw [e23]; exact Fc26), (by rw [e23]; exact Fc27), (by rw [e23, show (own_fS2_C a0 p1 a3 a4 w1 w2 c0 c1 c2 c3 c4 nn k_a3 k_a4) = p1 from (by simp only [own_fS2_C, if_neg hc8, if_pos hc21, if_pos hc25])]; exact Fc28), (by rw [e23, show (own_fS2_N a0 p1 a3 a4 w1 w2 c0 c1 c2 c3 c4 nn k_a3 k_a4) = p1 from (by simp only [own_fS2_N, if_neg hc8, if_pos hc21, if_pos hc25])]; exact V23)⟩
      · skip
        refine o_icmpY (pc' := 51) X23 hx (hb hby own_d4_44) (feq hc25).2 (by decide) (by decide) ?_
        refine o_iconst (z := (0 : Int32)) X23 hx rfl (hb hby own_d4_51) (by decide) ?_
        have Fc29 : Fld Z h23 a0 "com/example/hermod/hermod/osp/SequenceWindow" "m_nHighest" "I" (.int (own_f6_H a0 p1 w1 w2)) := (Fld.other W23 (Fld.other W16 f5_0 (Or.inl pre8)) (Or.inl pre9))
        have Fc30 : Fld Z h23 a0 "com/example/hermod/hermod/osp/SequenceWindow" "m_nAccepted" "J" (.long (own_f6_A a0 p1 w1 w2)) := (Fld.other W23 (Fld.other W16 f5_1 (Or.inl pre8)) (Or.inl pre9))
        have Fc31 : Arv Z h23 a3 k_a3 .int (5 : Int32) [(.int c0), (.int c1), (.int p1), (.int c3), (.int c4)] (.int (0 : Int32)) := (V16.other W23 pre10)
        exact o_retB X23 hx Bd.returns (own_lv X23 hlk (by decide +kernel) (by decide +kernel)) (hb hby own_d4_52) (by decide) ⟨(by rw [own_fS2, if_neg hc8, if_pos hc21, if_neg hc25]), N23, (by rw [e23]; exact Kp24), (by rw [e23]; exact Fc29), (by rw [e23]; exact Fc30), (by rw [e23, show (own_fS2_C a0 p1 a3 a4 w1 w2 c0 c1 c2 c3 c4 nn k_a3 k_a4) = p1 from (by simp only [own_fS2_C, if_neg hc8, if_pos hc21, if_neg hc25])]; exact Fc31), (by rw [e23, show (own_fS2_N a0 p1 a3 a4 w1 w2 c0 c1 c2 c3 c4 nn k_a3 k_a4) = p1 from (by simp only [own_fS2_N, if_neg hc8, if_pos hc21, if_neg hc25])]; exact V23)⟩
    · skip
      refine o_icmpY (pc' := 40) X16 hx (hb hby own_d4_32) (flt hc21).2.2.2 (by decide) (by decide) ?_
      refine o_iload X16 hx rfl (hb hby own_d4_40) rfl ?_
      refine o_iload X16 hx rfl (hb hby own_d4_42) rfl ?_
      by_cases hc32 : (own_f6 a0 p1 w1 w2) = (own_f5 p1 nn a3 k_a3 c0 c1 c2 c3 c4)
      · skip
        refine o_icmpN (pc' := 47) X16 hx rfl (hb hby own_d4_44) (teq hc32).2 ?_
        refine o_iconst (z := (1 : Int32)) X16 hx rfl (hb hby own_d4_47) (by decide) ?_
        refine o_goto (pc' := 52) X16 hx (hb hby own_d4_48) (by decide) (by decide) ?_
        have Fc33 : Fld Z h16 a0 "com/example/hermod/hermod/osp/SequenceWindow" "m_nHighest" "I" (.int (own_f6_H a0 p1 w1 w2)) := (Fld.other W16 f5_0 (Or.inl pre8))
        have Fc34 : Fld Z h16 a0 "com/example/hermod/hermod/osp/SequenceWindow" "m_nAccepted" "J" (.long (own_f6_A a0 p1 w1 w2)) := (Fld.other W16 f5_1 (Or.inl pre8))
        exact o_retB X16 hx Bd.returns (own_lv X16 hlk (by decide +kernel) (by decide +kernel)) (hb hby own_d4_52) (by decide) ⟨(by rw [own_fS2, if_neg hc8, if_neg hc21, if_pos hc32]), N16, (by rw [e16]; exact Kp17), (by rw [e16]; exact Fc33), (by rw [e16]; exact Fc34), (by rw [e16, show (own_fS2_C a0 p1 a3 a4 w1 w2 c0 c1 c2 c3 c4 nn k_a3 k_a4) = p1 from (by simp only [own_fS2_C, if_neg hc8, if_neg hc21, if_pos hc32])]; exact V16), (by rw [e16, show (own_fS2_N a0 p1 a3 a4 w1 w2 c0 c1 c2 c3 c4 nn k_a3 k_a4) = nn from (by simp only [own_fS2_N, if_neg hc8, if_neg hc21, if_pos hc32])]; exact Fc18)⟩
      · skip
        refine o_icmpY (pc' := 51) X16 hx (hb hby own_d4_44) (feq hc32).2 (by decide) (by decide) ?_
        refine o_iconst (z := (0 : Int32)) X16 hx rfl (hb hby own_d4_51) (by decide) ?_
        have Fc35 : Fld Z h16 a0 "com/example/hermod/hermod/osp/SequenceWindow" "m_nHighest" "I" (.int (own_f6_H a0 p1 w1 w2)) := (Fld.other W16 f5_0 (Or.inl pre8))
        have Fc36 : Fld Z h16 a0 "com/example/hermod/hermod/osp/SequenceWindow" "m_nAccepted" "J" (.long (own_f6_A a0 p1 w1 w2)) := (Fld.other W16 f5_1 (Or.inl pre8))
        exact o_retB X16 hx Bd.returns (own_lv X16 hlk (by decide +kernel) (by decide +kernel)) (hb hby own_d4_52) (by decide) ⟨(by rw [own_fS2, if_neg hc8, if_neg hc21, if_neg hc32]), N16, (by rw [e16]; exact Kp17), (by rw [e16]; exact Fc35), (by rw [e16]; exact Fc36), (by rw [e16, show (own_fS2_C a0 p1 a3 a4 w1 w2 c0 c1 c2 c3 c4 nn k_a3 k_a4) = p1 from (by simp only [own_fS2_C, if_neg hc8, if_neg hc21, if_neg hc32])]; exact V16), (by rw [e16, show (own_fS2_N a0 p1 a3 a4 w1 w2 c0 c1 c2 c3 c4 nn k_a3 k_a4) = nn from (by simp only [own_fS2_N, if_neg hc8, if_neg hc21, if_neg hc32])]; exact Fc18)⟩
def own_fS3 (a0 : Addr) (p1 : Int32) (a3 : Addr) (a4 : Addr) (w1 : Int32) (w2 : Int64) (c0 : Int32) (c1 : Int32) (c2 : Int32) (c3 : Int32) (c4 : Int32) (nn : Int32) (k_a3 : ClassId) (k_a4 : ClassId) : Int32 := (if (own_f5 p1 nn a3 k_a3 c0 c1 c2 c3 c4) = (0 : Int32) then (if (own_f6 a0 p1 w1 w2) = (own_f5 p1 nn a3 k_a3 c0 c1 c2 c3 c4) then (1 : Int32) else (0 : Int32)) else (if nn < p1 then (if (own_f6 a0 p1 w1 w2) = (own_f5 p1 nn a3 k_a3 c0 c1 c2 c3 c4) then (1 : Int32) else (0 : Int32)) else (if (own_f6 a0 p1 w1 w2) = (own_f5 p1 nn a3 k_a3 c0 c1 c2 c3 c4) then (1 : Int32) else (0 : Int32))))
def own_fS3_C (a0 : Addr) (p1 : Int32) (a3 : Addr) (a4 : Addr) (w1 : Int32) (w2 : Int64) (c0 : Int32) (c1 : Int32) (c2 : Int32) (c3 : Int32) (c4 : Int32) (nn : Int32) (k_a3 : ClassId) (k_a4 : ClassId) : Int32 := (if (own_f5 p1 nn a3 k_a3 c0 c1 c2 c3 c4) = (0 : Int32) then (if (own_f6 a0 p1 w1 w2) = (own_f5 p1 nn a3 k_a3 c0 c1 c2 c3 c4) then c3 else c3) else (if nn < p1 then (if (own_f6 a0 p1 w1 w2) = (own_f5 p1 nn a3 k_a3 c0 c1 c2 c3 c4) then p1 else p1) else (if (own_f6 a0 p1 w1 w2) = (own_f5 p1 nn a3 k_a3 c0 c1 c2 c3 c4) then p1 else p1)))
def own_fS3_N (a0 : Addr) (p1 : Int32) (a3 : Addr) (a4 : Addr) (w1 : Int32) (w2 : Int64) (c0 : Int32) (c1 : Int32) (c2 : Int32) (c3 : Int32) (c4 : Int32) (nn : Int32) (k_a3 : ClassId) (k_a4 : ClassId) : Int32 := (if (own_f5 p1 nn a3 k_a3 c0 c1 c2 c3 c4) = (0 : Int32) then (if (own_f6 a0 p1 w1 w2) = (own_f5 p1 nn a3 k_a3 c0 c1 c2 c3 c4) then nn else nn) else (if nn < p1 then (if (own_f6 a0 p1 w1 w2) = (own_f5 p1 nn a3 k_a3 c0 c1 c2 c3 c4) then p1 else p1) else (if (own_f6 a0 p1 w1 w2) = (own_f5 p1 nn a3 k_a3 c0 c1 c2 c3 c4) then nn else nn)))
theorem own_efS3 (m : MethodId) (a0 : Addr) (p1 : Int32) (a3 : Addr) (a4 : Addr) : entryFrame m #[(.ref a0), (.int p1), (.int (3 : Int32)), (.ref a3), (.ref a4)] 7 = mkF m 0 #[.val (.ref a0), .val (.int p1), .val (.int (3 : Int32)), .val (.ref a3), .val (.ref a4), .unset, .unset] [] := by first | (simp [entryFrame, mkF, argsToLocals, Value.category]; done) | rfl
def own_QS3 (Z : State) (a0 : Addr) (p1 : Int32) (a3 : Addr) (a4 : Addr) (w1 : Int32) (w2 : Int64) (c0 : Int32) (c1 : Int32) (c2 : Int32) (c3 : Int32) (c4 : Int32) (nn : Int32) (k_a3 : ClassId) (k_a4 : ClassId) (h0 : Heap) (n0 : Nat) (v : Option Value) (h : Heap) (L : List Loc) : Prop := v = some (.int (own_fS3 a0 p1 a3 a4 w1 w2 c0 c1 c2 c3 c4 nn k_a3 k_a4)) ∧ Fr n0 L ∧ Keep h0 h [a0, a3, a4] ∧ Fld Z h a0 "com/example/hermod/hermod/osp/SequenceWindow" "m_nHighest" "I" (.int (own_f6_H a0 p1 w1 w2)) ∧ Fld Z h a0 "com/example/hermod/hermod/osp/SequenceWindow" "m_nAccepted" "J" (.long (own_f6_A a0 p1 w1 w2)) ∧ Arv Z h a3 k_a3 .int (5 : Int32) [(.int c0), (.int c1), (.int c2), (.int (own_fS3_C a0 p1 a3 a4 w1 w2 c0 c1 c2 c3 c4 nn k_a3 k_a4)), (.int c4)] (.int (0 : Int32)) ∧ Arv Z h a4 k_a4 .int (1 : Int32) [(.int (own_fS3_N a0 p1 a3 a4 w1 w2 c0 c1 c2 c3 c4 nn k_a3 k_a4))] (.int (0 : Int32))
set_option maxRecDepth 65536 in
set_option maxHeartbeats 40000000 in
theorem own_rmS3 (l : Launch) (Z : State) (aA : Array Value) (hw : ∀ d ∈ tables_1, d.before aA Z = true) (ws : List Jvm.Cond) (a0 : Addr) (p1 : Int32) (a3 : Addr) (a4 : Addr) (w1 : Int32) (w2 : Int64) (c0 : Int32) (c1 : Int32) (c2 : Int32) (c3 : Int32) (c4 : Int32) (nn : Int32) (k_a3 : ClassId) (k_a4 : ClassId) (h0 : Heap) (n0 : Nat) (Z0 : n0 ≤ h0.size) (pre0 : Exa Z h0 a0 "com/example/hermod/hermod/osp/SequenceWindow") (pre1 : n0 ≤ a0) (pre2 : Fld Z h0 a0 "com/example/hermod/hermod/osp/SequenceWindow" "m_nHighest" "I" (.int w1)) (pre3 : Fld Z h0 a0 "com/example/hermod/hermod/osp/SequenceWindow" "m_nAccepted" "J" (.long w2)) (pre4 : Arv Z h0 a3 k_a3 .int (5 : Int32) [(.int c0), (.int c1), (.int c2), (.int c3), (.int c4)] (.int (0 : Int32))) (pre5 : Arv Z h0 a4 k_a4 .int (1 : Int32) [(.int nn)] (.int (0 : Int32))) (pre6 : n0 ≤ a3) (pre7 : n0 ≤ a4) (pre8 : a0 ≠ a3) (pre9 : a0 ≠ a4) (pre10 : a3 ≠ a4) :
    MetFree l (⟨"com/example/hermod/hermod/osp/SequenceWindowAcceptPinLaw", "step", "(Lcom/example/hermod/hermod/osp/SequenceWindow;II[I[I)Z"⟩ : MethodName) (head1 (Jvm.Cond.code (⟨"com/example/hermod/hermod/osp/SequenceWindowAcceptPinLaw", "step", "(Lcom/example/hermod/hermod/osp/SequenceWindow;II[I[I)Z"⟩ : MethodName) method_5_code 7 (some .boolean) :: ws) ({ frames := 2, cells := 0, slots := 0, locals := 27 } : Room)) (fun a U => a = #[(.ref a0), (.int p1), (.int (3 : Int32)), (.ref a3), (.ref a4)] ∧ Z.Warmed39 U.vm ∧ U.heap = h0) (fun _ _ _ _ _ => True) (fun _ U o U' => ∃ v L, o = .returned v ∧ own_QS3 Z a0 p1 a3 a4 w1 w2 c0 c1 c2 c3 c4 nn k_a3 k_a4 h0 n0 v U'.heap L ∧ FrameEnd U o U' L ({ frames := 2, cells := 0, slots := 0, locals := 27 } : Room).cells ({ frames := 2, cells := 0, slots := 0, locals := 27 } : Room).slots) := by
  refine MetFree.of_bodySF (plainFor_of_name own_pn22) hisR ?_
  intro p e s m args below meth c s₁ Bd hml0 hP hK
  obtain ⟨rfl, hZ, hh⟩ := hP
  have hx := Bd.exec
  have hby := Bd.bytes
  have hlk : meth.locks = false := Bd.notSynchronized
  have hml : c.maxLocals = 7 := hml0
  have hown : s.vm.findClass "com/example/hermod/hermod/osp/SequenceWindowAcceptPinLaw" = some m.cls := findClass_of_methodNamed Bd.named
  have hnm := (name_of_methodNamed Bd.named Bd.method).1
  have X0 : Stand p l e ({ frames := 2, cells := 0, slots := 0, locals := 27 } : Room) s m #[(.ref a0), (.int p1), (.int (3 : Int32)), (.ref a3), (.ref a4)] below meth c s₁ [] 0 0 := Stand.of_body Bd
  have e0 : s₁.heap = h0 := by rw [← hh, Bd.state]; rfl
  have N0 := Fr.nil n0
  show OG p e below (FE s ({ frames := 2, cells := 0, slots := 0, locals := 27 } : Room).cells ({ frames := 2, cells := 0, slots := 0, locals := 27 } : Room).slots) (own_QS3 Z a0 p1 a3 a4 w1 w2 c0 c1 c2 c3 c4 nn k_a3 k_a4 h0 n0) (s₁.setTop (entryFrame m #[(.ref a0), (.int p1), (.int (3 : Int32)), (.ref a3), (.ref a4)] 7))
  refine og_of (fun _ k => castTop (own_efS3 m a0 p1 a3 a4) k) ?_
  refine o_iloadN X0 hx rfl (hb hby own_d4_0) rfl ?_
  refine o_aload X0 hx rfl (hb hby own_d4_1) rfl rfl ?_
  refine o_iconst (z := (0 : Int32)) X0 hx rfl (hb hby own_d4_3) (by decide) ?_
  obtain ⟨clv1, Arv1, qv1, Sv1, Nv1, Hv1, Gv1⟩ := id pre5
  have hin2 : ¬ ((0 : Int32) < 0 ∨ clv1.slots.size ≤ ((0 : Int32)).toNatClampNeg) := inb_of Sv1 ⟨by decide, by decide⟩
  have hat2 : clv1.slots[((0 : Int32)).toNatClampNeg]? = some (.int nn) := Hv1.at hin2 rfl
  refine og_of (X0.iaload hx (j := (0 : Int32)) (v := (.int nn)) (by rw [e0]; exact Arv1.1) (State.isArrayOf_alike hZ.alike Arv1.2.1) Arv1.2.2 hin2 hat2 (g := (mkF m 4 #[.val (.ref a0), .val (.int p1), .val (.int (3 : Int32)), .val (.ref a3), .val (.ref a4), .unset, .unset] [(.int (0 : Int32)), (.ref a4), (.int p1)])) rfl rfl (hb hby own_d4_4)) ?_
  show OG p e below _ _ (s₁.setTop (mkF m 5 #[.val (.ref a0), .val (.int p1), .val (.int (3 : Int32)), .val (.ref a3), .val (.ref a4), .unset, .unset] [(.int nn), (.int p1)]))
  refine o_aloadN X0 hx rfl (hb hby own_d4_5) rfl rfl ?_
  obtain ⟨_, _, ⟨T3, L3, k3, n3⟩, -, X3, ⟨Lc3, hQ3, l3, y3, z3⟩, st3⟩ := Jvm.LawKit.callS X0 hx (y := (⟨"com/example/hermod/hermod/osp/SequenceWindowAcceptPinLaw", "expected", "(II[I)Z"⟩ : MethodName)) hown (mvT hZ (hw _ (List.mem_of_getElem? (i := 20) rfl))) (mvT hZ (hw _ (List.mem_of_getElem? (i := 21) rfl))) (mvT hZ (hw _ (List.mem_of_getElem? (i := 4) rfl))) (mvT hZ (hw _ (List.mem_of_getElem? (i := 22) rfl))) (by decide) (backOf (W := 0) (own_rm5 l Z aA hw [] p1 nn a3 k_a3 c0 c1 c2 c3 c4 h0 n0 Z0 pre4) hZ (hw _ (List.mem_of_getElem? (i := 22) rfl)) (hw _ (List.mem_of_getElem? (i := 4) rfl)) (by decide) (by decide)) (g := (mkF m 6 #[.val (.ref a0), .val (.int p1), .val (.int (3 : Int32)), .val (.ref a3), .val (.ref a4), .unset, .unset] [(.ref a3), (.int nn), (.int p1)])) rfl (by rw [hml]; rfl) (argsL := [(.int p1), (.int nn), (.ref a3)]) (rest := []) (lenOf own_pd1 rfl) rfl (by show 2 * 0 + _ ≤ _; exact Nat.le_of_eq rfl) (hb hby own_d4_6) (fun _ _ => ⟨rfl, e0, (by dsimp only [Pt.cells, Pt.slots]; decide +kernel), (by dsimp only [Pt.cells, Pt.slots]; decide +kernel)⟩)
  dsimp only [Pt.U, Pt.locs, Pt.cells, Pt.slots] at X3 l3 y3 z3 st3 hQ3
  rw [l3, y3, z3] at X3
  obtain ⟨rfl, N3q, ee3⟩ := hQ3
  have N4 := Fr.app N0 N3q
  refine og_of st3 ?_
  show OG p e below _ _ (T3.setTop (mkF m 9 #[.val (.ref a0), .val (.int p1), .val (.int (3 : Int32)), .val (.ref a3), .val (.ref a4), .unset, .unset] [(.int (own_f5 p1 nn a3 k_a3 c0 c1 c2 c3 c4))]))
  refine o_istore X3 hx rfl (hb hby own_d4_9) (L' := #[.val (.ref a0), .val (.int p1), .val (.int (3 : Int32)), .val (.ref a3), .val (.ref a4), .val (.int (own_f5 p1 nn a3 k_a3 c0 c1 c2 c3 c4)), .unset]) rfl ?_
  refine o_aloadN X3 hx rfl (hb hby own_d4_11) rfl rfl ?_
  refine o_iloadN X3 hx rfl (hb hby own_d4_12) rfl ?_
  obtain ⟨cq5, kq5, q5a, q5b, q5c⟩ := isOf hZ ee3 pre0
  obtain ⟨_, _, ⟨T5, L5, k5, n5⟩, -, X5, ⟨Lc5, hQ5, l5, y5, z5⟩, st5⟩ := X3.virtualBack hx (y := (⟨"com/example/hermod/hermod/osp/SequenceWindow", "accept", "(I)Z"⟩ : MethodName)) (z := (⟨"com/example/hermod/hermod/osp/SequenceWindow", "accept", "(I)Z"⟩ : MethodName)) hown (mvT hZ (hw _ (List.mem_of_getElem? (i := 23) rfl))) (mvT hZ (hw _ (List.mem_of_getElem? (i := 24) rfl))) (notFace_of_selects (args := #[]) (mvT hZ (hw _ (List.mem_of_getElem? (i := 26) rfl)))) (mvT hZ (hw _ (List.mem_of_getElem? (i := 26) rfl))) (mvT hZ (hw _ (List.mem_of_getElem? (i := 25) rfl))) (by decide) (backOf (W := 0) (own_rm6 l Z aA hw [] a0 p1 w1 w2 h0 n0 Z0 pre0 pre1 pre2 pre3) hZ (hw _ (List.mem_of_getElem? (i := 27) rfl)) (hw _ (List.mem_of_getElem? (i := 8) rfl)) (by decide) (by decide)) q5a q5c (g := (mkF m 13 #[.val (.ref a0), .val (.int p1), .val (.int (3 : Int32)), .val (.ref a3), .val (.ref a4), .val (.int (own_f5 p1 nn a3 k_a3 c0 c1 c2 c3 c4)), .unset] [(.int p1), (.ref a0)])) rfl (by rw [hml]; rfl) (Steps.refl _) (argsL := [(.int p1)]) (rest := []) (lenOf own_pd2 rfl) rfl (by show 2 * 0 + _ ≤ _; exact Nat.le_of_eq rfl) (hb hby own_d4_13) (fun _ _ => ⟨rfl, ee3, (by dsimp only [Pt.cells, Pt.slots]; decide +kernel), (by dsimp only [Pt.cells, Pt.slots]; decide +kernel)⟩)
  dsimp only [Pt.U, Pt.locs, Pt.cells, Pt.slots] at X5 l5 y5 z5 st5 hQ5
  rw [l5, y5, z5] at X5
  obtain ⟨rfl, N5q, K5, f5_0, f5_1⟩ := hQ5
  have N6 := Fr.app N4 N5q
  have Kp7 : Keep h0 T5.heap [a0, a3, a4] := (Keep.refl h0 [a0, a3, a4]).trans K5 (allS (Or.inl (List.mem_of_getElem? (i := 0) rfl)) all0)
  refine og_tr st5 ?_
  show OG p e below _ _ (T5.setTop (mkF m 16 #[.val (.ref a0), .val (.int p1), .val (.int (3 : Int32)), .val (.ref a3), .val (.ref a4), .val (.int (own_f5 p1 nn a3 k_a3 c0 c1 c2 c3 c4)), .unset] [(.int (own_f6 a0 p1 w1 w2))]))
  refine o_istore X5 hx rfl (hb hby own_d4_16) (L' := #[.val (.ref a0), .val (.int p1), .val (.int (3 : Int32)), .val (.ref a3), .val (.ref a4), .val (.int (own_f5 p1 nn a3 k_a3 c0 c1 c2 c3 c4)), .val (.int (own_f6 a0 p1 w1 w2))]) rfl ?_
  refine o_iload X5 hx rfl (hb hby own_d4_18) rfl ?_
  by_cases hc8 : (own_f5 p1 nn a3 k_a3 c0 c1 c2 c3 c4) = (0 : Int32)
  · skip
    refine o_ifY (pc' := 40) X5 hx (hb hby own_d4_20) ((if0 _ _).trans (teq hc8).1) (by decide) (by decide) ?_
    refine o_iload X5 hx rfl (hb hby own_d4_40) rfl ?_
    refine o_iload X5 hx rfl (hb hby own_d4_42) rfl ?_
    by_cases hc9 : (own_f6 a0 p1 w1 w2) = (own_f5 p1 nn a3 k_a3 c0 c1 c2 c3 c4)
    · skip
      refine o_icmpN (pc' := 47) X5 hx rfl (hb hby own_d4_44) (teq hc9).2 ?_
      refine o_iconst (z := (1 : Int32)) X5 hx rfl (hb hby own_d4_47) (by decide) ?_
      refine o_goto (pc' := 52) X5 hx (hb hby own_d4_48) (by decide) (by decide) ?_
      have Fc10 : Arv Z T5.heap a3 k_a3 .int (5 : Int32) [(.int c0), (.int c1), (.int c2), (.int c3), (.int c4)] (.int (0 : Int32)) := (pre4.keep K5 (ninS (Ne.symm pre8) nin0))
      have Fc11 : Arv Z T5.heap a4 k_a4 .int (1 : Int32) [(.int nn)] (.int (0 : Int32)) := (pre5.keep K5 (ninS (Ne.symm pre9) nin0))
      exact o_retB X5 hx Bd.returns (own_lv X5 hlk (by decide +kernel) (by decide +kernel)) (hb hby own_d4_52) (by decide) ⟨(by rw [own_fS3, if_pos hc8, if_pos hc9]), N6, (Kp7), f5_0, f5_1, (by rw [show (own_fS3_C a0 p1 a3 a4 w1 w2 c0 c1 c2 c3 c4 nn k_a3 k_a4) = c3 from (by simp only [own_fS3_C, if_pos hc8, if_pos hc9])]; exact Fc10), (by rw [show (own_fS3_N a0 p1 a3 a4 w1 w2 c0 c1 c2 c3 c4 nn k_a3 k_a4) = nn from (by simp only [own_fS3_N, if_pos hc8, if_pos hc9])]; exact Fc11)⟩
    · skip
      refine o_icmpY (pc' := 51) X5 hx (hb hby own_d4_44) (feq hc9).2 (by decide) (by decide) ?_
      refine o_iconst (z := (0 : Int32)) X5 hx rfl (hb hby own_d4_51) (by decide) ?_
      have Fc12 : Arv Z T5.heap a3 k_a3 .int (5 : Int32) [(.int c0), (.int c1), (.int c2), (.int c3), (.int c4)] (.int (0 : Int32)) := (pre4.keep K5 (ninS (Ne.symm pre8) nin0))
      have Fc13 : Arv Z T5.heap a4 k_a4 .int (1 : Int32) [(.int nn)] (.int (0 : Int32)) := (pre5.keep K5 (ninS (Ne.symm pre9) nin0))
      exact o_retB X5 hx Bd.returns (own_lv X5 hlk (by decide +kernel) (by decide +kernel)) (hb hby own_d4_52) (by decide) ⟨(by rw [own_fS3, if_pos hc8, if_neg hc9]), N6, (Kp7), f5_0, f5_1, (by rw [show (own_fS3_C a0 p1 a3 a4 w1 w2 c0 c1 c2 c3 c4 nn k_a3 k_a4) = c3 from (by simp only [own_fS3_C, if_pos hc8, if_neg hc9])]; exact Fc12), (by rw [show (own_fS3_N a0 p1 a3 a4 w1 w2 c0 c1 c2 c3 c4 nn k_a3 k_a4) = nn from (by simp only [own_fS3_N, if_pos hc8, if_neg hc9])]; exact Fc13)⟩
  · skip
    refine o_ifN (pc' := 23) X5 hx rfl (hb hby own_d4_20) ((if0 _ _).trans (feq hc8).1) ?_
    refine o_aloadN X5 hx rfl (hb hby own_d4_23) rfl rfl ?_
    refine o_iloadN X5 hx rfl (hb hby own_d4_24) rfl ?_
    refine o_iloadN X5 hx rfl (hb hby own_d4_25) rfl ?_
    have Fc14 : Arv Z T5.heap a3 k_a3 .int (5 : Int32) [(.int c0), (.int c1), (.int c2), (.int c3), (.int c4)] (.int (0 : Int32)) := (pre4.keep K5 (ninS (Ne.symm pre8) nin0))
    obtain ⟨clv15, Arv15, qv15, Sv15, Nv15, Hv15, Gv15⟩ := id Fc14
    have hin16 : ¬ ((3 : Int32) < 0 ∨ clv15.slots.size ≤ ((3 : Int32)).toNatClampNeg) := inb_of Sv15 ⟨by decide, by decide⟩
    obtain ⟨T16, h16, X16, e16, W16, st16⟩ := stI X5 hx hZ rfl Arv15 (j := (3 : Int32)) hin16 (g := (mkF m 26 #[.val (.ref a0), .val (.int p1), .val (.int (3 : Int32)), .val (.ref a3), .val (.ref a4), .val (.int (own_f5 p1 nn a3 k_a3 c0 c1 c2 c3 c4)), .val (.int (own_f6 a0 p1 w1 w2))] [(.int p1), (.int (3 : Int32)), (.ref a3)])) rfl rfl (hb hby own_d4_26)
    have V16 : Arv Z h16 a3 k_a3 .int (5 : Int32) [(.int c0), (.int c1), (.int c2), (.int p1), (.int c4)] (.int (0 : Int32)) := Arv.set Arv15 qv15 Sv15 Nv15 Hv15 Gv15 rfl W16 3 rfl (Nat.le_of_ble_eq_true rfl)
    have N16 := Fr.snoc X16 N6 pre6
    have Kp17 : Keep h0 h16 [a0, a3, a4] := Kp7.wr W16 (Or.inl (List.mem_of_getElem? (i := 1) rfl))
    refine og_of st16 ?_
    show OG p e below _ _ (T16.setTop (mkF m 27 #[.val (.ref a0), .val (.int p1), .val (.int (3 : Int32)), .val (.ref a3), .val (.ref a4), .val (.int (own_f5 p1 nn a3 k_a3 c0 c1 c2 c3 c4)), .val (.int (own_f6 a0 p1 w1 w2))] []))
    refine o_iloadN X16 hx rfl (hb hby own_d4_27) rfl ?_
    refine o_aload X16 hx rfl (hb hby own_d4_28) rfl rfl ?_
    refine o_iconst (z := (0 : Int32)) X16 hx rfl (hb hby own_d4_30) (by decide) ?_
    have Fc18 : Arv Z h16 a4 k_a4 .int (1 : Int32) [(.int nn)] (.int (0 : Int32)) := ((pre5.keep K5 (ninS (Ne.symm pre9) nin0)).other W16 (Ne.symm pre10))
    obtain ⟨clv19, Arv19, qv19, Sv19, Nv19, Hv19, Gv19⟩ := id Fc18
    have hin20 : ¬ ((0 : Int32) < 0 ∨ clv19.slots.size ≤ ((0 : Int32)).toNatClampNeg) := inb_of Sv19 ⟨by decide, by decide⟩
    have hat20 : clv19.slots[((0 : Int32)).toNatClampNeg]? = some (.int nn) := Hv19.at hin20 rfl
    refine og_of (X16.iaload hx (j := (0 : Int32)) (v := (.int nn)) (by rw [e16]; exact Arv19.1) (State.isArrayOf_alike hZ.alike Arv19.2.1) Arv19.2.2 hin20 hat20 (g := (mkF m 31 #[.val (.ref a0), .val (.int p1), .val (.int (3 : Int32)), .val (.ref a3), .val (.ref a4), .val (.int (own_f5 p1 nn a3 k_a3 c0 c1 c2 c3 c4)), .val (.int (own_f6 a0 p1 w1 w2))] [(.int (0 : Int32)), (.ref a4), (.int p1)])) rfl rfl (hb hby own_d4_31)) ?_
    show OG p e below _ _ (T16.setTop (mkF m 32 #[.val (.ref a0), .val (.int p1), .val (.int (3 : Int32)), .val (.ref a3), .val (.ref a4), .val (.int (own_f5 p1 nn a3 k_a3 c0 c1 c2 c3 c4)), .val (.int (own_f6 a0 p1 w1 w2))] [(.int nn), (.int p1)]))
    by_cases hc21 : nn < p1
    · skip
      refine o_icmpN (pc' := 35) X16 hx rfl (hb hby own_d4_32) (tlt hc21).2.2.2 ?_
      refine o_aload X16 hx rfl (hb hby own_d4_35) rfl rfl ?_
      refine o_iconst (z := (0 : Int32)) X16 hx rfl (hb hby own_d4_37) (by decide) ?_
      refine o_iloadN X16 hx rfl (hb hby own_d4_38) rfl ?_
      obtain ⟨clv22, Arv22, qv22, Sv22, Nv22, Hv22, Gv22⟩ := id Fc18
      have hin23 : ¬ ((0 : Int32) < 0 ∨ clv22.slots.size ≤ ((0 : Int32)).toNatClampNeg) := inb_of Sv22 ⟨by decide, by decide⟩
      obtain ⟨T23, h23, X23, e23, W23, st23⟩ := stI X16 hx hZ e16 Arv22 (j := (0 : Int32)) hin23 (g := (mkF m 39 #[.val (.ref a0), .val (.int p1), .val (.int (3 : Int32)), .val (.ref a3), .val (.ref a4), .val (.int (own_f5 p1 nn a3 k_a3 c0 c1 c2 c3 c4)), .val (.int (own_f6 a0 p1 w1 w2))] [(.int p1), (.int (0 : Int32)), (.ref a4)])) rfl rfl (hb hby own_d4_39)
      have V23 : Arv Z h23 a4 k_a4 .int (1 : Int32) [(.int p1)] (.int (0 : Int32)) := Arv.set Arv22 qv22 Sv22 Nv22 Hv22 Gv22 rfl W23 0 rfl (Nat.le_of_ble_eq_true rfl)
      have N23 := Fr.snoc X23 N16 pre7
      have Kp24 : Keep h0 h23 [a0, a3, a4] := Kp17.wr W23 (Or.inl (List.mem_of_getElem? (i := 2) rfl))
      refine og_of st23 ?_
      show OG p e below _ _ (T23.setTop (mkF m 40 #[.val (.ref a0), .val (.int p1), .val (.int (3 : Int32)), .val (.ref a3), .val (.ref a4), .val (.int (own_f5 p1 nn a3 k_a3 c0 c1 c2 c3 c4)), .val (.int (own_f6 a0 p1 w1 w2))] []))
      refine o_iload X23 hx rfl (hb hby own_d4_40) rfl ?_
      refine o_iload X23 hx rfl (hb hby own_d4_42) rfl ?_
      by_cases hc25 : (own_f6 a0 p1 w1 w2) = (own_f5 p1 nn a3 k_a3 c0 c1 c2 c3 c4)
      · skip
        refine o_icmpN (pc' := 47) X23 hx rfl (hb hby own_d4_44) (teq hc25).2 ?_
        refine o_iconst (z := (1 : Int32)) X23 hx rfl (hb hby own_d4_47) (by decide) ?_
        refine o_goto (pc' := 52) X23 hx (hb hby own_d4_48) (by decide) (by decide) ?_
        have Fc26 : Fld Z h23 a0 "com/example/hermod/hermod/osp/SequenceWindow" "m_nHighest" "I" (.int (own_f6_H a0 p1 w1 w2)) := (Fld.other W23 (Fld.other W16 f5_0 (Or.inl pre8)) (Or.inl pre9))
        have Fc27 : Fld Z h23 a0 "com/example/hermod/hermod/osp/SequenceWindow" "m_nAccepted" "J" (.long (own_f6_A a0 p1 w1 w2)) := (Fld.other W23 (Fld.other W16 f5_1 (Or.inl pre8)) (Or.inl pre9))
        have Fc28 : Arv Z h23 a3 k_a3 .int (5 : Int32) [(.int c0), (.int c1), (.int c2), (.int p1), (.int c4)] (.int (0 : Int32)) := (V16.other W23 pre10)
        exact o_retB X23 hx Bd.returns (own_lv X23 hlk (by decide +kernel) (by decide +kernel)) (hb hby own_d4_52) (by decide) ⟨(by rw [own_fS3, if_neg hc8, if_pos hc21, if_pos hc25]), N23, (by rw [e23]; exact Kp24), (by rw [e23]; exact Fc26), (by rw [e23]; exact Fc27), (by rw [e23, show (own_fS3_C a0 p1 a3 a4 w1 w2 c0 c1 c2 c3 c4 nn k_a3 k_a4) = p1 from (by simp only [own_fS3_C, if_neg hc8, if_pos hc21, if_pos hc25])]; exact Fc28), (by rw [e23, show (own_fS3_N a0 p1 a3 a4 w1 w2 c0 c1 c2 c3 c4 nn k_a3 k_a4) = p1 from (by simp only [own_fS3_N, if_neg hc8, if_pos hc21, if_pos hc25])]; exact V23)⟩
      · skip
        refine o_icmpY (pc' := 51) X23 hx (hb hby own_d4_44) (feq hc25).2 (by decide) (by decide) ?_
        refine o_iconst (z := (0 : Int32)) X23 hx rfl (hb hby own_d4_51) (by decide) ?_
        have Fc29 : Fld Z h23 a0 "com/example/hermod/hermod/osp/SequenceWindow" "m_nHighest" "I" (.int (own_f6_H a0 p1 w1 w2)) := (Fld.other W23 (Fld.other W16 f5_0 (Or.inl pre8)) (Or.inl pre9))
        have Fc30 : Fld Z h23 a0 "com/example/hermod/hermod/osp/SequenceWindow" "m_nAccepted" "J" (.long (own_f6_A a0 p1 w1 w2)) := (Fld.other W23 (Fld.other W16 f5_1 (Or.inl pre8)) (Or.inl pre9))
        have Fc31 : Arv Z h23 a3 k_a3 .int (5 : Int32) [(.int c0), (.int c1), (.int c2), (.int p1), (.int c4)] (.int (0 : Int32)) := (V16.other W23 pre10)
        exact o_retB X23 hx Bd.returns (own_lv X23 hlk (by decide +kernel) (by decide +kernel)) (hb hby own_d4_52) (by decide) ⟨(by rw [own_fS3, if_neg hc8, if_pos hc21, if_neg hc25]), N23, (by rw [e23]; exact Kp24), (by rw [e23]; exact Fc29), (by rw [e23]; exact Fc30), (by rw [e23, show (own_fS3_C a0 p1 a3 a4 w1 w2 c0 c1 c2 c3 c4 nn k_a3 k_a4) = p1 from (by simp only [own_fS3_C, if_neg hc8, if_pos hc21, if_neg hc25])]; exact Fc31), (by rw [e23, show (own_fS3_N a0 p1 a3 a4 w1 w2 c0 c1 c2 c3 c4 nn k_a3 k_a4) = p1 from (by simp only [own_fS3_N, if_neg hc8, if_pos hc21, if_neg hc25])]; exact V23)⟩
    · skip
      refine o_icmpY (pc' := 40) X16 hx (hb hby own_d4_32) (flt hc21).2.2.2 (by decide) (by decide) ?_
      refine o_iload X16 hx rfl (hb hby own_d4_40) rfl ?_
      refine o_iload X16 hx rfl (hb hby own_d4_42) rfl ?_
      by_cases hc32 : (own_f6 a0 p1 w1 w2) = (own_f5 p1 nn a3 k_a3 c0 c1 c2 c3 c4)
      · skip
        refine o_icmpN (pc' := 47) X16 hx rfl (hb hby own_d4_44) (teq hc32).2 ?_
        refine o_iconst (z := (1 : Int32)) X16 hx rfl (hb hby own_d4_47) (by decide) ?_
        refine o_goto (pc' := 52) X16 hx (hb hby own_d4_48) (by decide) (by decide) ?_
        have Fc33 : Fld Z h16 a0 "com/example/hermod/hermod/osp/SequenceWindow" "m_nHighest" "I" (.int (own_f6_H a0 p1 w1 w2)) := (Fld.other W16 f5_0 (Or.inl pre8))
        have Fc34 : Fld Z h16 a0 "com/example/hermod/hermod/osp/SequenceWindow" "m_nAccepted" "J" (.long (own_f6_A a0 p1 w1 w2)) := (Fld.other W16 f5_1 (Or.inl pre8))
        exact o_retB X16 hx Bd.returns (own_lv X16 hlk (by decide +kernel) (by decide +kernel)) (hb hby own_d4_52) (by decide) ⟨(by rw [own_fS3, if_neg hc8, if_neg hc21, if_pos hc32]), N16, (by rw [e16]; exact Kp17), (by rw [e16]; exact Fc33), (by rw [e16]; exact Fc34), (by rw [e16, show (own_fS3_C a0 p1 a3 a4 w1 w2 c0 c1 c2 c3 c4 nn k_a3 k_a4) = p1 from (by simp only [own_fS3_C, if_neg hc8, if_neg hc21, if_pos hc32])]; exact V16), (by rw [e16, show (own_fS3_N a0 p1 a3 a4 w1 w2 c0 c1 c2 c3 c4 nn k_a3 k_a4) = nn from (by simp only [own_fS3_N, if_neg hc8, if_neg hc21, if_pos hc32])]; exact Fc18)⟩
      · skip
        refine o_icmpY (pc' := 51) X16 hx (hb hby own_d4_44) (feq hc32).2 (by decide) (by decide) ?_
        refine o_iconst (z := (0 : Int32)) X16 hx rfl (hb hby own_d4_51) (by decide) ?_
        have Fc35 : Fld Z h16 a0 "com/example/hermod/hermod/osp/SequenceWindow" "m_nHighest" "I" (.int (own_f6_H a0 p1 w1 w2)) := (Fld.other W16 f5_0 (Or.inl pre8))
        have Fc36 : Fld Z h16 a0 "com/example/hermod/hermod/osp/SequenceWindow" "m_nAccepted" "J" (.long (own_f6_A a0 p1 w1 w2)) := (Fld.other W16 f5_1 (Or.inl pre8))
        exact o_retB X16 hx Bd.returns (own_lv X16 hlk (by decide +kernel) (by decide +kernel)) (hb hby own_d4_52) (by decide) ⟨(by rw [own_fS3, if_neg hc8, if_neg hc21, if_neg hc32]), N16, (by rw [e16]; exact Kp17), (by rw [e16]; exact Fc35), (by rw [e16]; exact Fc36), (by rw [e16, show (own_fS3_C a0 p1 a3 a4 w1 w2 c0 c1 c2 c3 c4 nn k_a3 k_a4) = p1 from (by simp only [own_fS3_C, if_neg hc8, if_neg hc21, if_neg hc32])]; exact V16), (by rw [e16, show (own_fS3_N a0 p1 a3 a4 w1 w2 c0 c1 c2 c3 c4 nn k_a3 k_a4) = nn from (by simp only [own_fS3_N, if_neg hc8, if_neg hc21, if_neg hc32])]; exact Fc18)⟩
def own_fS4 (a0 : Addr) (p1 : Int32) (a3 : Addr) (a4 : Addr) (w1 : Int32) (w2 : Int64) (c0 : Int32) (c1 : Int32) (c2 : Int32) (c3 : Int32) (c4 : Int32) (nn : Int32) (k_a3 : ClassId) (k_a4 : ClassId) : Int32 := (if (own_f5 p1 nn a3 k_a3 c0 c1 c2 c3 c4) = (0 : Int32) then (if (own_f6 a0 p1 w1 w2) = (own_f5 p1 nn a3 k_a3 c0 c1 c2 c3 c4) then (1 : Int32) else (0 : Int32)) else (if nn < p1 then (if (own_f6 a0 p1 w1 w2) = (own_f5 p1 nn a3 k_a3 c0 c1 c2 c3 c4) then (1 : Int32) else (0 : Int32)) else (if (own_f6 a0 p1 w1 w2) = (own_f5 p1 nn a3 k_a3 c0 c1 c2 c3 c4) then (1 : Int32) else (0 : Int32))))
def own_fS4_C (a0 : Addr) (p1 : Int32) (a3 : Addr) (a4 : Addr) (w1 : Int32) (w2 : Int64) (c0 : Int32) (c1 : Int32) (c2 : Int32) (c3 : Int32) (c4 : Int32) (nn : Int32) (k_a3 : ClassId) (k_a4 : ClassId) : Int32 := (if (own_f5 p1 nn a3 k_a3 c0 c1 c2 c3 c4) = (0 : Int32) then (if (own_f6 a0 p1 w1 w2) = (own_f5 p1 nn a3 k_a3 c0 c1 c2 c3 c4) then c4 else c4) else (if nn < p1 then (if (own_f6 a0 p1 w1 w2) = (own_f5 p1 nn a3 k_a3 c0 c1 c2 c3 c4) then p1 else p1) else (if (own_f6 a0 p1 w1 w2) = (own_f5 p1 nn a3 k_a3 c0 c1 c2 c3 c4) then p1 else p1)))
def own_fS4_N (a0 : Addr) (p1 : Int32) (a3 : Addr) (a4 : Addr) (w1 : Int32) (w2 : Int64) (c0 : Int32) (c1 : Int32) (c2 : Int32) (c3 : Int32) (c4 : Int32) (nn : Int32) (k_a3 : ClassId) (k_a4 : ClassId) : Int32 := (if (own_f5 p1 nn a3 k_a3 c0 c1 c2 c3 c4) = (0 : Int32) then (if (own_f6 a0 p1 w1 w2) = (own_f5 p1 nn a3 k_a3 c0 c1 c2 c3 c4) then nn else nn) else (if nn < p1 then (if (own_f6 a0 p1 w1 w2) = (own_f5 p1 nn a3 k_a3 c0 c1 c2 c3 c4) then p1 else p1) else (if (own_f6 a0 p1 w1 w2) = (own_f5 p1 nn a3 k_a3 c0 c1 c2 c3 c4) then nn else nn)))
theorem own_efS4 (m : MethodId) (a0 : Addr) (p1 : Int32) (a3 : Addr) (a4 : Addr) : entryFrame m #[(.ref a0), (.int p1), (.int (4 : Int32)), (.ref a3), (.ref a4)] 7 = mkF m 0 #[.val (.ref a0), .val (.int p1), .val (.int (4 : Int32)), .val (.ref a3), .val (.ref a4), .unset, .unset] [] := by first | (simp [entryFrame, mkF, argsToLocals, Value.category]; done) | rfl
def own_QS4 (Z : State) (a0 : Addr) (p1 : Int32) (a3 : Addr) (a4 : Addr) (w1 : Int32) (w2 : Int64) (c0 : Int32) (c1 : Int32) (c2 : Int32) (c3 : Int32) (c4 : Int32) (nn : Int32) (k_a3 : ClassId) (k_a4 : ClassId) (h0 : Heap) (n0 : Nat) (v : Option Value) (h : Heap) (L : List Loc) : Prop := v = some (.int (own_fS4 a0 p1 a3 a4 w1 w2 c0 c1 c2 c3 c4 nn k_a3 k_a4)) ∧ Fr n0 L ∧ Keep h0 h [a0, a3, a4] ∧ Fld Z h a0 "com/example/hermod/hermod/osp/SequenceWindow" "m_nHighest" "I" (.int (own_f6_H a0 p1 w1 w2)) ∧ Fld Z h a0 "com/example/hermod/hermod/osp/SequenceWindow" "m_nAccepted" "J" (.long (own_f6_A a0 p1 w1 w2)) ∧ Arv Z h a3 k_a3 .int (5 : Int32) [(.int c0), (.int c1), (.int c2), (.int c3), (.int (own_fS4_C a0 p1 a3 a4 w1 w2 c0 c1 c2 c3 c4 nn k_a3 k_a4))] (.int (0 : Int32)) ∧ Arv Z h a4 k_a4 .int (1 : Int32) [(.int (own_fS4_N a0 p1 a3 a4 w1 w2 c0 c1 c2 c3 c4 nn k_a3 k_a4))] (.int (0 : Int32))
set_option maxRecDepth 65536 in
set_option maxHeartbeats 40000000 in
theorem own_rmS4 (l : Launch) (Z : State) (aA : Array Value) (hw : ∀ d ∈ tables_1, d.before aA Z = true) (ws : List Jvm.Cond) (a0 : Addr) (p1 : Int32) (a3 : Addr) (a4 : Addr) (w1 : Int32) (w2 : Int64) (c0 : Int32) (c1 : Int32) (c2 : Int32) (c3 : Int32) (c4 : Int32) (nn : Int32) (k_a3 : ClassId) (k_a4 : ClassId) (h0 : Heap) (n0 : Nat) (Z0 : n0 ≤ h0.size) (pre0 : Exa Z h0 a0 "com/example/hermod/hermod/osp/SequenceWindow") (pre1 : n0 ≤ a0) (pre2 : Fld Z h0 a0 "com/example/hermod/hermod/osp/SequenceWindow" "m_nHighest" "I" (.int w1)) (pre3 : Fld Z h0 a0 "com/example/hermod/hermod/osp/SequenceWindow" "m_nAccepted" "J" (.long w2)) (pre4 : Arv Z h0 a3 k_a3 .int (5 : Int32) [(.int c0), (.int c1), (.int c2), (.int c3), (.int c4)] (.int (0 : Int32))) (pre5 : Arv Z h0 a4 k_a4 .int (1 : Int32) [(.int nn)] (.int (0 : Int32))) (pre6 : n0 ≤ a3) (pre7 : n0 ≤ a4) (pre8 : a0 ≠ a3) (pre9 : a0 ≠ a4) (pre10 : a3 ≠ a4) :
    MetFree l (⟨"com/example/hermod/hermod/osp/SequenceWindowAcceptPinLaw", "step", "(Lcom/example/hermod/hermod/osp/SequenceWindow;II[I[I)Z"⟩ : MethodName) (head1 (Jvm.Cond.code (⟨"com/example/hermod/hermod/osp/SequenceWindowAcceptPinLaw", "step", "(Lcom/example/hermod/hermod/osp/SequenceWindow;II[I[I)Z"⟩ : MethodName) method_5_code 7 (some .boolean) :: ws) ({ frames := 2, cells := 0, slots := 0, locals := 27 } : Room)) (fun a U => a = #[(.ref a0), (.int p1), (.int (4 : Int32)), (.ref a3), (.ref a4)] ∧ Z.Warmed39 U.vm ∧ U.heap = h0) (fun _ _ _ _ _ => True) (fun _ U o U' => ∃ v L, o = .returned v ∧ own_QS4 Z a0 p1 a3 a4 w1 w2 c0 c1 c2 c3 c4 nn k_a3 k_a4 h0 n0 v U'.heap L ∧ FrameEnd U o U' L ({ frames := 2, cells := 0, slots := 0, locals := 27 } : Room).cells ({ frames := 2, cells := 0, slots := 0, locals := 27 } : Room).slots) := by
  refine MetFree.of_bodySF (plainFor_of_name own_pn22) hisR ?_
  intro p e s m args below meth c s₁ Bd hml0 hP hK
  obtain ⟨rfl, hZ, hh⟩ := hP
  have hx := Bd.exec
  have hby := Bd.bytes
  have hlk : meth.locks = false := Bd.notSynchronized
  have hml : c.maxLocals = 7 := hml0
  have hown : s.vm.findClass "com/example/hermod/hermod/osp/SequenceWindowAcceptPinLaw" = some m.cls := findClass_of_methodNamed Bd.named
  have hnm := (name_of_methodNamed Bd.named Bd.method).1
  have X0 : Stand p l e ({ frames := 2, cells := 0, slots := 0, locals := 27 } : Room) s m #[(.ref a0), (.int p1), (.int (4 : Int32)), (.ref a3), (.ref a4)] below meth c s₁ [] 0 0 := Stand.of_body Bd
  have e0 : s₁.heap = h0 := by rw [← hh, Bd.state]; rfl
  have N0 := Fr.nil n0
  show OG p e below (FE s ({ frames := 2, cells := 0, slots := 0, locals := 27 } : Room).cells ({ frames := 2, cells := 0, slots := 0, locals := 27 } : Room).slots) (own_QS4 Z a0 p1 a3 a4 w1 w2 c0 c1 c2 c3 c4 nn k_a3 k_a4 h0 n0) (s₁.setTop (entryFrame m #[(.ref a0), (.int p1), (.int (4 : Int32)), (.ref a3), (.ref a4)] 7))
  refine og_of (fun _ k => castTop (own_efS4 m a0 p1 a3 a4) k) ?_
  refine o_iloadN X0 hx rfl (hb hby own_d4_0) rfl ?_
  refine o_aload X0 hx rfl (hb hby own_d4_1) rfl rfl ?_
  refine o_iconst (z := (0 : Int32)) X0 hx rfl (hb hby own_d4_3) (by decide) ?_
  obtain ⟨clv1, Arv1, qv1, Sv1, Nv1, Hv1, Gv1⟩ := id pre5
  have hin2 : ¬ ((0 : Int32) < 0 ∨ clv1.slots.size ≤ ((0 : Int32)).toNatClampNeg) := inb_of Sv1 ⟨by decide, by decide⟩
  have hat2 : clv1.slots[((0 : Int32)).toNatClampNeg]? = some (.int nn) := Hv1.at hin2 rfl
  refine og_of (X0.iaload hx (j := (0 : Int32)) (v := (.int nn)) (by rw [e0]; exact Arv1.1) (State.isArrayOf_alike hZ.alike Arv1.2.1) Arv1.2.2 hin2 hat2 (g := (mkF m 4 #[.val (.ref a0), .val (.int p1), .val (.int (4 : Int32)), .val (.ref a3), .val (.ref a4), .unset, .unset] [(.int (0 : Int32)), (.ref a4), (.int p1)])) rfl rfl (hb hby own_d4_4)) ?_
  show OG p e below _ _ (s₁.setTop (mkF m 5 #[.val (.ref a0), .val (.int p1), .val (.int (4 : Int32)), .val (.ref a3), .val (.ref a4), .unset, .unset] [(.int nn), (.int p1)]))
  refine o_aloadN X0 hx rfl (hb hby own_d4_5) rfl rfl ?_
  obtain ⟨_, _, ⟨T3, L3, k3, n3⟩, -, X3, ⟨Lc3, hQ3, l3, y3, z3⟩, st3⟩ := Jvm.LawKit.callS X0 hx (y := (⟨"com/example/hermod/hermod/osp/SequenceWindowAcceptPinLaw", "expected", "(II[I)Z"⟩ : MethodName)) hown (mvT hZ (hw _ (List.mem_of_getElem? (i := 20) rfl))) (mvT hZ (hw _ (List.mem_of_getElem? (i := 21) rfl))) (mvT hZ (hw _ (List.mem_of_getElem? (i := 4) rfl))) (mvT hZ (hw _ (List.mem_of_getElem? (i := 22) rfl))) (by decide) (backOf (W := 0) (own_rm5 l Z aA hw [] p1 nn a3 k_a3 c0 c1 c2 c3 c4 h0 n0 Z0 pre4) hZ (hw _ (List.mem_of_getElem? (i := 22) rfl)) (hw _ (List.mem_of_getElem? (i := 4) rfl)) (by decide) (by decide)) (g := (mkF m 6 #[.val (.ref a0), .val (.int p1), .val (.int (4 : Int32)), .val (.ref a3), .val (.ref a4), .unset, .unset] [(.ref a3), (.int nn), (.int p1)])) rfl (by rw [hml]; rfl) (argsL := [(.int p1), (.int nn), (.ref a3)]) (rest := []) (lenOf own_pd1 rfl) rfl (by show 2 * 0 + _ ≤ _; exact Nat.le_of_eq rfl) (hb hby own_d4_6) (fun _ _ => ⟨rfl, e0, (by dsimp only [Pt.cells, Pt.slots]; decide +kernel), (by dsimp only [Pt.cells, Pt.slots]; decide +kernel)⟩)
  dsimp only [Pt.U, Pt.locs, Pt.cells, Pt.slots] at X3 l3 y3 z3 st3 hQ3
  rw [l3, y3, z3] at X3
  obtain ⟨rfl, N3q, ee3⟩ := hQ3
  have N4 := Fr.app N0 N3q
  refine og_of st3 ?_
  show OG p e below _ _ (T3.setTop (mkF m 9 #[.val (.ref a0), .val (.int p1), .val (.int (4 : Int32)), .val (.ref a3), .val (.ref a4), .unset, .unset] [(.int (own_f5 p1 nn a3 k_a3 c0 c1 c2 c3 c4))]))
  refine o_istore X3 hx rfl (hb hby own_d4_9) (L' := #[.val (.ref a0), .val (.int p1), .val (.int (4 : Int32)), .val (.ref a3), .val (.ref a4), .val (.int (own_f5 p1 nn a3 k_a3 c0 c1 c2 c3 c4)), .unset]) rfl ?_
  refine o_aloadN X3 hx rfl (hb hby own_d4_11) rfl rfl ?_
  refine o_iloadN X3 hx rfl (hb hby own_d4_12) rfl ?_
  obtain ⟨cq5, kq5, q5a, q5b, q5c⟩ := isOf hZ ee3 pre0
  obtain ⟨_, _, ⟨T5, L5, k5, n5⟩, -, X5, ⟨Lc5, hQ5, l5, y5, z5⟩, st5⟩ := X3.virtualBack hx (y := (⟨"com/example/hermod/hermod/osp/SequenceWindow", "accept", "(I)Z"⟩ : MethodName)) (z := (⟨"com/example/hermod/hermod/osp/SequenceWindow", "accept", "(I)Z"⟩ : MethodName)) hown (mvT hZ (hw _ (List.mem_of_getElem? (i := 23) rfl))) (mvT hZ (hw _ (List.mem_of_getElem? (i := 24) rfl))) (notFace_of_selects (args := #[]) (mvT hZ (hw _ (List.mem_of_getElem? (i := 26) rfl)))) (mvT hZ (hw _ (List.mem_of_getElem? (i := 26) rfl))) (mvT hZ (hw _ (List.mem_of_getElem? (i := 25) rfl))) (by decide) (backOf (W := 0) (own_rm6 l Z aA hw [] a0 p1 w1 w2 h0 n0 Z0 pre0 pre1 pre2 pre3) hZ (hw _ (List.mem_of_getElem? (i := 27) rfl)) (hw _ (List.mem_of_getElem? (i := 8) rfl)) (by decide) (by decide)) q5a q5c (g := (mkF m 13 #[.val (.ref a0), .val (.int p1), .val (.int (4 : Int32)), .val (.ref a3), .val (.ref a4), .val (.int (own_f5 p1 nn a3 k_a3 c0 c1 c2 c3 c4)), .unset] [(.int p1), (.ref a0)])) rfl (by rw [hml]; rfl) (Steps.refl _) (argsL := [(.int p1)]) (rest := []) (lenOf own_pd2 rfl) rfl (by show 2 * 0 + _ ≤ _; exact Nat.le_of_eq rfl) (hb hby own_d4_13) (fun _ _ => ⟨rfl, ee3, (by dsimp only [Pt.cells, Pt.slots]; decide +kernel), (by dsimp only [Pt.cells, Pt.slots]; decide +kernel)⟩)
  dsimp only [Pt.U, Pt.locs, Pt.cells, Pt.slots] at X5 l5 y5 z5 st5 hQ5
  rw [l5, y5, z5] at X5
  obtain ⟨rfl, N5q, K5, f5_0, f5_1⟩ := hQ5
  have N6 := Fr.app N4 N5q
  have Kp7 : Keep h0 T5.heap [a0, a3, a4] := (Keep.refl h0 [a0, a3, a4]).trans K5 (allS (Or.inl (List.mem_of_getElem? (i := 0) rfl)) all0)
  refine og_tr st5 ?_
  show OG p e below _ _ (T5.setTop (mkF m 16 #[.val (.ref a0), .val (.int p1), .val (.int (4 : Int32)), .val (.ref a3), .val (.ref a4), .val (.int (own_f5 p1 nn a3 k_a3 c0 c1 c2 c3 c4)), .unset] [(.int (own_f6 a0 p1 w1 w2))]))
  refine o_istore X5 hx rfl (hb hby own_d4_16) (L' := #[.val (.ref a0), .val (.int p1), .val (.int (4 : Int32)), .val (.ref a3), .val (.ref a4), .val (.int (own_f5 p1 nn a3 k_a3 c0 c1 c2 c3 c4)), .val (.int (own_f6 a0 p1 w1 w2))]) rfl ?_
  refine o_iload X5 hx rfl (hb hby own_d4_18) rfl ?_
  by_cases hc8 : (own_f5 p1 nn a3 k_a3 c0 c1 c2 c3 c4) = (0 : Int32)
  · skip
    refine o_ifY (pc' := 40) X5 hx (hb hby own_d4_20) ((if0 _ _).trans (teq hc8).1) (by decide) (by decide) ?_
    refine o_iload X5 hx rfl (hb hby own_d4_40) rfl ?_
    refine o_iload X5 hx rfl (hb hby own_d4_42) rfl ?_
    by_cases hc9 : (own_f6 a0 p1 w1 w2) = (own_f5 p1 nn a3 k_a3 c0 c1 c2 c3 c4)
    · skip
      refine o_icmpN (pc' := 47) X5 hx rfl (hb hby own_d4_44) (teq hc9).2 ?_
      refine o_iconst (z := (1 : Int32)) X5 hx rfl (hb hby own_d4_47) (by decide) ?_
      refine o_goto (pc' := 52) X5 hx (hb hby own_d4_48) (by decide) (by decide) ?_
      have Fc10 : Arv Z T5.heap a3 k_a3 .int (5 : Int32) [(.int c0), (.int c1), (.int c2), (.int c3), (.int c4)] (.int (0 : Int32)) := (pre4.keep K5 (ninS (Ne.symm pre8) nin0))
      have Fc11 : Arv Z T5.heap a4 k_a4 .int (1 : Int32) [(.int nn)] (.int (0 : Int32)) := (pre5.keep K5 (ninS (Ne.symm pre9) nin0))
      exact o_retB X5 hx Bd.returns (own_lv X5 hlk (by decide +kernel) (by decide +kernel)) (hb hby own_d4_52) (by decide) ⟨(by rw [own_fS4, if_pos hc8, if_pos hc9]), N6, (Kp7), f5_0, f5_1, (by rw [show (own_fS4_C a0 p1 a3 a4 w1 w2 c0 c1 c2 c3 c4 nn k_a3 k_a4) = c4 from (by simp only [own_fS4_C, if_pos hc8, if_pos hc9])]; exact Fc10), (by rw [show (own_fS4_N a0 p1 a3 a4 w1 w2 c0 c1 c2 c3 c4 nn k_a3 k_a4) = nn from (by simp only [own_fS4_N, if_pos hc8, if_pos hc9])]; exact Fc11)⟩
    · skip
      refine o_icmpY (pc' := 51) X5 hx (hb hby own_d4_44) (feq hc9).2 (by decide) (by decide) ?_
      refine o_iconst (z := (0 : Int32)) X5 hx rfl (hb hby own_d4_51) (by decide) ?_
      have Fc12 : Arv Z T5.heap a3 k_a3 .int (5 : Int32) [(.int c0), (.int c1), (.int c2), (.int c3), (.int c4)] (.int (0 : Int32)) := (pre4.keep K5 (ninS (Ne.symm pre8) nin0))
      have Fc13 : Arv Z T5.heap a4 k_a4 .int (1 : Int32) [(.int nn)] (.int (0 : Int32)) := (pre5.keep K5 (ninS (Ne.symm pre9) nin0))
      exact o_retB X5 hx Bd.returns (own_lv X5 hlk (by decide +kernel) (by decide +kernel)) (hb hby own_d4_52) (by decide) ⟨(by rw [own_fS4, if_pos hc8, if_neg hc9]), N6, (Kp7), f5_0, f5_1, (by rw [show (own_fS4_C a0 p1 a3 a4 w1 w2 c0 c1 c2 c3 c4 nn k_a3 k_a4) = c4 from (by simp only [own_fS4_C, if_pos hc8, if_neg hc9])]; exact Fc12), (by rw [show (own_fS4_N a0 p1 a3 a4 w1 w2 c0 c1 c2 c3 c4 nn k_a3 k_a4) = nn from (by simp only [own_fS4_N, if_pos hc8, if_neg hc9])]; exact Fc13)⟩
  · skip
    refine o_ifN (pc' := 23) X5 hx rfl (hb hby own_d4_20) ((if0 _ _).trans (feq hc8).1) ?_
    refine o_aloadN X5 hx rfl (hb hby own_d4_23) rfl rfl ?_
    refine o_iloadN X5 hx rfl (hb hby own_d4_24) rfl ?_
    refine o_iloadN X5 hx rfl (hb hby own_d4_25) rfl ?_
    have Fc14 : Arv Z T5.heap a3 k_a3 .int (5 : Int32) [(.int c0), (.int c1), (.int c2), (.int c3), (.int c4)] (.int (0 : Int32)) := (pre4.keep K5 (ninS (Ne.symm pre8) nin0))
    obtain ⟨clv15, Arv15, qv15, Sv15, Nv15, Hv15, Gv15⟩ := id Fc14
    have hin16 : ¬ ((4 : Int32) < 0 ∨ clv15.slots.size ≤ ((4 : Int32)).toNatClampNeg) := inb_of Sv15 ⟨by decide, by decide⟩
    obtain ⟨T16, h16, X16, e16, W16, st16⟩ := stI X5 hx hZ rfl Arv15 (j := (4 : Int32)) hin16 (g := (mkF m 26 #[.val (.ref a0), .val (.int p1), .val (.int (4 : Int32)), .val (.ref a3), .val (.ref a4), .val (.int (own_f5 p1 nn a3 k_a3 c0 c1 c2 c3 c4)), .val (.int (own_f6 a0 p1 w1 w2))] [(.int p1), (.int (4 : Int32)), (.ref a3)])) rfl rfl (hb hby own_d4_26)
    have V16 : Arv Z h16 a3 k_a3 .int (5 : Int32) [(.int c0), (.int c1), (.int c2), (.int c3), (.int p1)] (.int (0 : Int32)) := Arv.set Arv15 qv15 Sv15 Nv15 Hv15 Gv15 rfl W16 4 rfl (Nat.le_of_ble_eq_true rfl)
    have N16 := Fr.snoc X16 N6 pre6
    have Kp17 : Keep h0 h16 [a0, a3, a4] := Kp7.wr W16 (Or.inl (List.mem_of_getElem? (i := 1) rfl))
    refine og_of st16 ?_
    show OG p e below _ _ (T16.setTop (mkF m 27 #[.val (.ref a0), .val (.int p1), .val (.int (4 : Int32)), .val (.ref a3), .val (.ref a4), .val (.int (own_f5 p1 nn a3 k_a3 c0 c1 c2 c3 c4)), .val (.int (own_f6 a0 p1 w1 w2))] []))
    refine o_iloadN X16 hx rfl (hb hby own_d4_27) rfl ?_
    refine o_aload X16 hx rfl (hb hby own_d4_28) rfl rfl ?_
    refine o_iconst (z := (0 : Int32)) X16 hx rfl (hb hby own_d4_30) (by decide) ?_
    have Fc18 : Arv Z h16 a4 k_a4 .int (1 : Int32) [(.int nn)] (.int (0 : Int32)) := ((pre5.keep K5 (ninS (Ne.symm pre9) nin0)).other W16 (Ne.symm pre10))
    obtain ⟨clv19, Arv19, qv19, Sv19, Nv19, Hv19, Gv19⟩ := id Fc18
    have hin20 : ¬ ((0 : Int32) < 0 ∨ clv19.slots.size ≤ ((0 : Int32)).toNatClampNeg) := inb_of Sv19 ⟨by decide, by decide⟩
    have hat20 : clv19.slots[((0 : Int32)).toNatClampNeg]? = some (.int nn) := Hv19.at hin20 rfl
    refine og_of (X16.iaload hx (j := (0 : Int32)) (v := (.int nn)) (by rw [e16]; exact Arv19.1) (State.isArrayOf_alike hZ.alike Arv19.2.1) Arv19.2.2 hin20 hat20 (g := (mkF m 31 #[.val (.ref a0), .val (.int p1), .val (.int (4 : Int32)), .val (.ref a3), .val (.ref a4), .val (.int (own_f5 p1 nn a3 k_a3 c0 c1 c2 c3 c4)), .val (.int (own_f6 a0 p1 w1 w2))] [(.int (0 : Int32)), (.ref a4), (.int p1)])) rfl rfl (hb hby own_d4_31)) ?_
    show OG p e below _ _ (T16.setTop (mkF m 32 #[.val (.ref a0), .val (.int p1), .val (.int (4 : Int32)), .val (.ref a3), .val (.ref a4), .val (.int (own_f5 p1 nn a3 k_a3 c0 c1 c2 c3 c4)), .val (.int (own_f6 a0 p1 w1 w2))] [(.int nn), (.int p1)]))
    by_cases hc21 : nn < p1
    · skip
      refine o_icmpN (pc' := 35) X16 hx rfl (hb hby own_d4_32) (tlt hc21).2.2.2 ?_
      refine o_aload X16 hx rfl (hb hby own_d4_35) rfl rfl ?_
      refine o_iconst (z := (0 : Int32)) X16 hx rfl (hb hby own_d4_37) (by decide) ?_
      refine o_iloadN X16 hx rfl (hb hby own_d4_38) rfl ?_
      obtain ⟨clv22, Arv22, qv22, Sv22, Nv22, Hv22, Gv22⟩ := id Fc18
      have hin23 : ¬ ((0 : Int32) < 0 ∨ clv22.slots.size ≤ ((0 : Int32)).toNatClampNeg) := inb_of Sv22 ⟨by decide, by decide⟩
      obtain ⟨T23, h23, X23, e23, W23, st23⟩ := stI X16 hx hZ e16 Arv22 (j := (0 : Int32)) hin23 (g := (mkF m 39 #[.val (.ref a0), .val (.int p1), .val (.int (4 : Int32)), .val (.ref a3), .val (.ref a4), .val (.int (own_f5 p1 nn a3 k_a3 c0 c1 c2 c3 c4)), .val (.int (own_f6 a0 p1 w1 w2))] [(.int p1), (.int (0 : Int32)), (.ref a4)])) rfl rfl (hb hby own_d4_39)
      have V23 : Arv Z h23 a4 k_a4 .int (1 : Int32) [(.int p1)] (.int (0 : Int32)) := Arv.set Arv22 qv22 Sv22 Nv22 Hv22 Gv22 rfl W23 0 rfl (Nat.le_of_ble_eq_true rfl)
      have N23 := Fr.snoc X23 N16 pre7
      have Kp24 : Keep h0 h23 [a0, a3, a4] := Kp17.wr W23 (Or.inl (List.mem_of_getElem? (i := 2) rfl))
      refine og_of st23 ?_
      show OG p e below _ _ (T23.setTop (mkF m 40 #[.val (.ref a0), .val (.int p1), .val (.int (4 : Int32)), .val (.ref a3), .val (.ref a4), .val (.int (own_f5 p1 nn a3 k_a3 c0 c1 c2 c3 c4)), .val (.int (own_f6 a0 p1 w1 w2))] []))
      refine o_iload X23 hx rfl (hb hby own_d4_40) rfl ?_
      refine o_iload X23 hx rfl (hb hby own_d4_42) rfl ?_
      by_cases hc25 : (own_f6 a0 p1 w1 w2) = (own_f5 p1 nn a3 k_a3 c0 c1 c2 c3 c4)
      · skip
        refine o_icmpN (pc' := 47) X23 hx rfl (hb hby own_d4_44) (teq hc25).2 ?_
        refine o_iconst (z := (1 : Int32)) X23 hx rfl (hb hby own_d4_47) (by decide) ?_
        refine o_goto (pc' := 52) X23 hx (hb hby own_d4_48) (by decide) (by decide) ?_
        have Fc26 : Fld Z h23 a0 "com/example/hermod/hermod/osp/SequenceWindow" "m_nHighest" "I" (.int (own_f6_H a0 p1 w1 w2)) := (Fld.other W23 (Fld.other W16 f5_0 (Or.inl pre8)) (Or.inl pre9))
        have Fc27 : Fld Z h23 a0 "com/example/hermod/hermod/osp/SequenceWindow" "m_nAccepted" "J" (.long (own_f6_A a0 p1 w1 w2)) := (Fld.other W23 (Fld.other W16 f5_1 (Or.inl pre8)) (Or.inl pre9))
        have Fc28 : Arv Z h23 a3 k_a3 .int (5 : Int32) [(.int c0), (.int c1), (.int c2), (.int c3), (.int p1)] (.int (0 : Int32)) := (V16.other W23 pre10)
        exact o_retB X23 hx Bd.returns (own_lv X23 hlk (by decide +kernel) (by decide +kernel)) (hb hby own_d4_52) (by decide) ⟨(by rw [own_fS4, if_neg hc8, if_pos hc21, if_pos hc25]), N23, (by rw [e23]; exact Kp24), (by rw [e23]; exact Fc26), (by rw [e23]; exact Fc27), (by rw [e23, show (own_fS4_C a0 p1 a3 a4 w1 w2 c0 c1 c2 c3 c4 nn k_a3 k_a4) = p1 from (by simp only [own_fS4_C, if_neg hc8, if_pos hc21, if_pos hc25])]; exact Fc28), (by rw [e23, show (own_fS4_N a0 p1 a3 a4 w1 w2 c0 c1 c2 c3 c4 nn k_a3 k_a4) = p1 from (by simp only [own_fS4_N, if_neg hc8, if_pos hc21, if_pos hc25])]; exact V23)⟩
      · skip
        refine o_icmpY (pc' := 51) X23 hx (hb hby own_d4_44) (feq hc25).2 (by decide) (by decide) ?_
        refine o_iconst (z := (0 : Int32)) X23 hx rfl (hb hby own_d4_51) (by decide) ?_
        have Fc29 : Fld Z h23 a0 "com/example/hermod/hermod/osp/SequenceWindow" "m_nHighest" "I" (.int (own_f6_H a0 p1 w1 w2)) := (Fld.other W23 (Fld.other W16 f5_0 (Or.inl pre8)) (Or.inl pre9))
        have Fc30 : Fld Z h23 a0 "com/example/hermod/hermod/osp/SequenceWindow" "m_nAccepted" "J" (.long (own_f6_A a0 p1 w1 w2)) := (Fld.other W23 (Fld.other W16 f5_1 (Or.inl pre8)) (Or.inl pre9))
        have Fc31 : Arv Z h23 a3 k_a3 .int (5 : Int32) [(.int c0), (.int c1), (.int c2), (.int c3), (.int p1)] (.int (0 : Int32)) := (V16.other W23 pre10)
        exact o_retB X23 hx Bd.returns (own_lv X23 hlk (by decide +kernel) (by decide +kernel)) (hb hby own_d4_52) (by decide) ⟨(by rw [own_fS4, if_neg hc8, if_pos hc21, if_neg hc25]), N23, (by rw [e23]; exact Kp24), (by rw [e23]; exact Fc29), (by rw [e23]; exact Fc30), (by rw [e23, show (own_fS4_C a0 p1 a3 a4 w1 w2 c0 c1 c2 c3 c4 nn k_a3 k_a4) = p1 from (by simp only [own_fS4_C, if_neg hc8, if_pos hc21, if_neg hc25])]; exact Fc31), (by rw [e23, show (own_fS4_N a0 p1 a3 a4 w1 w2 c0 c1 c2 c3 c4 nn k_a3 k_a4) = p1 from (by simp only [own_fS4_N, if_neg hc8, if_pos hc21, if_neg hc25])]; exact V23)⟩
    · skip
      refine o_icmpY (pc' := 40) X16 hx (hb hby own_d4_32) (flt hc21).2.2.2 (by decide) (by decide) ?_
      refine o_iload X16 hx rfl (hb hby own_d4_40) rfl ?_
      refine o_iload X16 hx rfl (hb hby own_d4_42) rfl ?_
      by_cases hc32 : (own_f6 a0 p1 w1 w2) = (own_f5 p1 nn a3 k_a3 c0 c1 c2 c3 c4)
      · skip
        refine o_icmpN (pc' := 47) X16 hx rfl (hb hby own_d4_44) (teq hc32).2 ?_
        refine o_iconst (z := (1 : Int32)) X16 hx rfl (hb hby own_d4_47) (by decide) ?_
        refine o_goto (pc' := 52) X16 hx (hb hby own_d4_48) (by decide) (by decide) ?_
        have Fc33 : Fld Z h16 a0 "com/example/hermod/hermod/osp/SequenceWindow" "m_nHighest" "I" (.int (own_f6_H a0 p1 w1 w2)) := (Fld.other W16 f5_0 (Or.inl pre8))
        have Fc34 : Fld Z h16 a0 "com/example/hermod/hermod/osp/SequenceWindow" "m_nAccepted" "J" (.long (own_f6_A a0 p1 w1 w2)) := (Fld.other W16 f5_1 (Or.inl pre8))
        exact o_retB X16 hx Bd.returns (own_lv X16 hlk (by decide +kernel) (by decide +kernel)) (hb hby own_d4_52) (by decide) ⟨(by rw [own_fS4, if_neg hc8, if_neg hc21, if_pos hc32]), N16, (by rw [e16]; exact Kp17), (by rw [e16]; exact Fc33), (by rw [e16]; exact Fc34), (by rw [e16, show (own_fS4_C a0 p1 a3 a4 w1 w2 c0 c1 c2 c3 c4 nn k_a3 k_a4) = p1 from (by simp only [own_fS4_C, if_neg hc8, if_neg hc21, if_pos hc32])]; exact V16), (by rw [e16, show (own_fS4_N a0 p1 a3 a4 w1 w2 c0 c1 c2 c3 c4 nn k_a3 k_a4) = nn from (by simp only [own_fS4_N, if_neg hc8, if_neg hc21, if_pos hc32])]; exact Fc18)⟩
      · skip
        refine o_icmpY (pc' := 51) X16 hx (hb hby own_d4_44) (feq hc32).2 (by decide) (by decide) ?_
        refine o_iconst (z := (0 : Int32)) X16 hx rfl (hb hby own_d4_51) (by decide) ?_
        have Fc35 : Fld Z h16 a0 "com/example/hermod/hermod/osp/SequenceWindow" "m_nHighest" "I" (.int (own_f6_H a0 p1 w1 w2)) := (Fld.other W16 f5_0 (Or.inl pre8))
        have Fc36 : Fld Z h16 a0 "com/example/hermod/hermod/osp/SequenceWindow" "m_nAccepted" "J" (.long (own_f6_A a0 p1 w1 w2)) := (Fld.other W16 f5_1 (Or.inl pre8))
        exact o_retB X16 hx Bd.returns (own_lv X16 hlk (by decide +kernel) (by decide +kernel)) (hb hby own_d4_52) (by decide) ⟨(by rw [own_fS4, if_neg hc8, if_neg hc21, if_neg hc32]), N16, (by rw [e16]; exact Kp17), (by rw [e16]; exact Fc35), (by rw [e16]; exact Fc36), (by rw [e16, show (own_fS4_C a0 p1 a3 a4 w1 w2 c0 c1 c2 c3 c4 nn k_a3 k_a4) = p1 from (by simp only [own_fS4_C, if_neg hc8, if_neg hc21, if_neg hc32])]; exact V16), (by rw [e16, show (own_fS4_N a0 p1 a3 a4 w1 w2 c0 c1 c2 c3 c4 nn k_a3 k_a4) = nn from (by simp only [own_fS4_N, if_neg hc8, if_neg hc21, if_neg hc32])]; exact Fc18)⟩
theorem own_d8_0 : decode prog_19_method_3_code 0 = .ok (.aload_n 0, 1) := by decide +kernel
theorem own_d8_1 : decode prog_19_method_3_code 1 = .ok (.getfield 7, 3) := by decide +kernel
theorem own_d8_4 : decode prog_19_method_3_code 4 = .ok (.ldc 17, 2) := by decide +kernel
theorem own_d8_6 : decode prog_19_method_3_code 6 = .ok (.if_icmp .ne 7, 3) := by decide +kernel
theorem own_d8_9 : decode prog_19_method_3_code 9 = .ok (.iconst 1, 1) := by decide +kernel
theorem own_d8_10 : decode prog_19_method_3_code 10 = .ok (.goto 4, 3) := by decide +kernel
theorem own_d8_13 : decode prog_19_method_3_code 13 = .ok (.iconst 0, 1) := by decide +kernel
theorem own_d8_14 : decode prog_19_method_3_code 14 = .ok (.ireturn, 1) := by decide +kernel
def own_f8 (a0 : Addr) (w1 : Int32) : Int32 := (if w1 = (65535 : Int32) then (1 : Int32) else (0 : Int32))
theorem own_ef8 (m : MethodId) (a0 : Addr) : entryFrame m #[(.ref a0)] 1 = mkF m 0 #[.val (.ref a0)] [] := by first | (simp [entryFrame, mkF, argsToLocals, Value.category]; done) | rfl
def own_Q8 (Z : State) (a0 : Addr) (w1 : Int32) (h0 : Heap) (n0 : Nat) (v : Option Value) (h : Heap) (L : List Loc) : Prop := v = some (.int (own_f8 a0 w1)) ∧ Fr n0 L ∧ h = h0
set_option maxRecDepth 65536 in
set_option maxHeartbeats 40000000 in
theorem own_rm8 (l : Launch) (Z : State) (aA : Array Value) (hw : ∀ d ∈ tables_1, d.before aA Z = true) (ws : List Jvm.Cond) (a0 : Addr) (w1 : Int32) (h0 : Heap) (n0 : Nat) (Z0 : n0 ≤ h0.size) (pre0 : Fld Z h0 a0 "com/example/hermod/hermod/osp/SequenceWindow" "m_nHighest" "I" (.int w1)) :
    MetFree l (⟨"com/example/hermod/hermod/osp/SequenceWindow", "isSpent", "()Z"⟩ : MethodName) (head1 (Jvm.Cond.code (⟨"com/example/hermod/hermod/osp/SequenceWindow", "isSpent", "()Z"⟩ : MethodName) prog_19_method_3_code 1 (some .boolean) :: ws) ({ frames := 0, cells := 0, slots := 0, locals := 0 } : Room)) (fun a U => a = #[(.ref a0)] ∧ Z.Warmed39 U.vm ∧ U.heap = h0) (fun _ _ _ _ _ => True) (fun _ U o U' => ∃ v L, o = .returned v ∧ own_Q8 Z a0 w1 h0 n0 v U'.heap L ∧ FrameEnd U o U' L ({ frames := 0, cells := 0, slots := 0, locals := 0 } : Room).cells ({ frames := 0, cells := 0, slots := 0, locals := 0 } : Room).slots) := by
  refine MetFree.of_bodySF (plainFor_of_name own_pn29) hisR ?_
  intro p e s m args below meth c s₁ Bd hml0 hP hK
  obtain ⟨rfl, hZ, hh⟩ := hP
  have hx := Bd.exec
  have hby := Bd.bytes
  have hlk : meth.locks = false := Bd.notSynchronized
  have hml : c.maxLocals = 1 := hml0
  have hown : s.vm.findClass "com/example/hermod/hermod/osp/SequenceWindow" = some m.cls := findClass_of_methodNamed Bd.named
  have hnm := (name_of_methodNamed Bd.named Bd.method).1
  have X0 : Stand p l e ({ frames := 0, cells := 0, slots := 0, locals := 0 } : Room) s m #[(.ref a0)] below meth c s₁ [] 0 0 := Stand.of_body Bd
  have e0 : s₁.heap = h0 := by rw [← hh, Bd.state]; rfl
  have N0 := Fr.nil n0
  show OG p e below (FE s ({ frames := 0, cells := 0, slots := 0, locals := 0 } : Room).cells ({ frames := 0, cells := 0, slots := 0, locals := 0 } : Room).slots) (own_Q8 Z a0 w1 h0 n0) (s₁.setTop (entryFrame m #[(.ref a0)] 1))
  refine og_of (fun _ k => castTop (own_ef8 m a0) k) ?_
  refine o_aloadN X0 hx rfl (hb hby own_d8_0) rfl rfl ?_
  obtain ⟨T1, X1, e1, st1⟩ := getF X0 hx hZ hown (host := "") (Or.inl (hw _ (List.mem_of_getElem? (i := 15) rfl))) Via.refl e0 pre0 (g := (mkF m 1 #[.val (.ref a0)] [(.ref a0)])) rfl rfl (hb hby own_d8_1)
  refine og_of st1 ?_
  show OG p e below _ _ (T1.setTop (mkF m 4 #[.val (.ref a0)] [(.int w1)]))
  refine o_ldcI X1 hx rfl (hb hby own_d8_4) hZ hown (hw _ (List.mem_of_getElem? (i := 38) rfl)) ?_
  by_cases hc2 : w1 = (65535 : Int32)
  · skip
    refine o_icmpN (pc' := 9) X1 hx rfl (hb hby own_d8_6) (teq hc2).2 ?_
    refine o_iconst (z := (1 : Int32)) X1 hx rfl (hb hby own_d8_9) (by decide) ?_
    refine o_goto (pc' := 14) X1 hx (hb hby own_d8_10) (by decide) (by decide) ?_
    exact o_retB X1 hx Bd.returns (own_lv X1 hlk (by decide +kernel) (by decide +kernel)) (hb hby own_d8_14) (by decide) ⟨(by rw [own_f8, if_pos hc2]), N0, e1⟩
  · skip
    refine o_icmpY (pc' := 13) X1 hx (hb hby own_d8_6) (feq hc2).2 (by decide) (by decide) ?_
    refine o_iconst (z := (0 : Int32)) X1 hx rfl (hb hby own_d8_13) (by decide) ?_
    exact o_retB X1 hx Bd.returns (own_lv X1 hlk (by decide +kernel) (by decide +kernel)) (hb hby own_d8_14) (by decide) ⟨(by rw [own_f8, if_neg hc2]), N0, e1⟩
theorem own_shl (A : Int64) (d : Int32) (k : Nat) (hd : d.toInt = (k : Int)) (hk : k < 64) : (A <<< (d &&& 0x3f).toInt64).toBitVec = A.toBitVec <<< k := by
  have h0 : d.toBitVec.toNat % 64 = k := by
    have e : d.toBitVec.toInt = (k : Int) := hd
    rw [BitVec.toInt_eq_toNat_cond] at e
    have hlt := d.toBitVec.isLt
    split at e <;> omega
  obtain ⟨s1, s2⟩ := sm64 d k h0
  rw [Int64.toBitVec_shiftLeft, s1]
  show A.toBitVec <<< ((BitVec.ofNat 64 k).smod 64).toNat = _
  rw [smod64 k s2]
theorem own_b1 (k : Nat) : (1 : Int64).toBitVec.getLsbD k = decide (k = 0) := by
  show (1#64).getLsbD k = _
  by_cases h : k = 0
  · subst h; rfl
  · simp [h, BitVec.getLsbD_one]
theorem own_bshl (A : Int64) (d : Int32) (k j : Nat) (hd : d.toInt = (k : Int)) (hk : k < 64) (hj : j < 64) : (A <<< (d &&& 0x3f).toInt64).toBitVec.getLsbD j = (decide (k ≤ j) && A.toBitVec.getLsbD (j - k)) := by
  rw [own_shl A d k hd hk, BitVec.getLsbD_shiftLeft]
  by_cases h : j < k
  · simp [h, Nat.not_le.mpr h]
  · simp [h, hj, Nat.not_lt.mp h]
theorem own_bone (d : Int32) (k j : Nat) (hd : d.toInt = (k : Int)) (hk : k < 64) (hj : j < 64) : ((1 : Int64) <<< (d &&& 0x3f).toInt64).toBitVec.getLsbD j = decide (j = k) := by
  rw [own_bshl 1 d k j hd hk hj, own_b1]
  by_cases h : j = k
  · subst h; simp
  · by_cases h2 : k ≤ j
    · have : ¬ (j - k = 0) := by omega
      simp [h, this]
    · simp [h, h2]
theorem own_test (A : Int64) (d : Int32) (k : Nat) (hd : d.toInt = (k : Int)) (hk : k < 64) : (A &&& ((1 : Int64) <<< (d &&& 0x3f).toInt64)) = (0 : Int64) ↔ A.toBitVec.getLsbD k = false := by
  rw [← Int64.toBitVec_inj, Int64.toBitVec_and]
  constructor
  · intro h
    have q := congrArg (fun b => BitVec.getLsbD b k) h
    simp only [BitVec.getLsbD_and, own_bone d k k hd hk hk, decide_true, Bool.and_true] at q
    rw [q]; show (0#64).getLsbD k = false; simp
  · intro h
    apply BitVec.eq_of_getLsbD_eq
    intro i hi
    rw [BitVec.getLsbD_and, own_bone d k i hd hk hi]
    show _ = (0#64).getLsbD i
    by_cases e : i = k
    · subst e; simp [h]
    · simp [e]
def own_I (H : Int32) (A : Int64) (c0 c1 c2 c3 c4 n : Int32) : Prop := H = n ∧ ((n = -1 ∧ c0 = -1 ∧ c1 = -1 ∧ c2 = -1 ∧ c3 = -1 ∧ c4 = -1) ∨
  (0 ≤ n.toInt ∧ n.toInt ≤ 65535 ∧ (c0.toInt ≤ n.toInt ∧ c1.toInt ≤ n.toInt ∧ c2.toInt ≤ n.toInt ∧ c3.toInt ≤ n.toInt ∧ c4.toInt ≤ n.toInt) ∧ ∀ k : Nat, k < 32 → (k : Int) ≤ n.toInt → (A.toBitVec.getLsbD k = true ↔ (c0.toInt = n.toInt - k ∨ c1.toInt = n.toInt - k ∨ c2.toInt = n.toInt - k ∨ c3.toInt = n.toInt - k ∨ c4.toInt = n.toInt - k))))
theorem own_I0 : own_I (-1) (0 : Int64) (-1) (-1) (-1) (-1) (-1) (-1) := ⟨rfl, Or.inl ⟨rfl, rfl, rfl, rfl, rfl, rfl⟩⟩
/-- the window: n its highest, A its bits, P what has been accepted -/
def own_K (n : Int32) (A : Int64) (P : Int → Prop) : Prop := 0 ≤ n.toInt ∧ n.toInt ≤ 65535 ∧ (∀ v, P v → v ≤ n.toInt) ∧ ∀ k : Nat, k < 32 → (k : Int) ≤ n.toInt → (A.toBitVec.getLsbD k = true ↔ P (n.toInt - k))
def own_J (n : Int32) (A : Int64) (P : Int → Prop) : Prop := (n = -1 ∧ ∀ v : Int, 0 ≤ v → ¬ P v) ∨ own_K n A P
/-- what is expected of m: by cases -/
theorem own_core (a : Addr) (m n : Int32) (A : Int64) (P : Int → Prop) (i : Int32) (hi : (P m.toInt → i = 1) ∧ (¬ P m.toInt → i = 0)) (hm : 0 ≤ m.toInt ∧ m.toInt ≤ 65535) (hJ : own_J n A P) :
    ∃ e : Int32, (if n < (0 : Int32) then (1 : Int32) else (if n < m then (1 : Int32) else (if (n - (32 : Int32)) < m then (if i = (0 : Int32) then (1 : Int32) else (0 : Int32)) else (0 : Int32)))) = e ∧ own_f6 a m n A = e ∧
      (if e = (0 : Int32) then n else (if n < m then m else n)) = own_f6_H a m n A ∧
      own_K (own_f6_H a m n A) (own_f6_A a m n A) (fun v => P v ∨ (e ≠ 0 ∧ v = m.toInt)) := by
  have z0 : (0 : Int32).toInt = 0 := rfl
  have o32 : (32 : Int32).toInt = 32 := rfl
  have om : (-1 : Int32).toInt = -1 := rfl
  have rm := rng32 m
  have rn := rng32 n
  rcases hJ with ⟨rfl, hP⟩ | ⟨h0, h1, hle, hb⟩
  · have c1 : (-1 : Int32) < 0 := by decide
    have c2 : (-1 : Int32) < m := by rw [Int32.lt_iff_toInt_lt, om]; omega
    refine ⟨1, by rw [if_pos c1], by rw [own_f6, if_pos c1], ?_, ?_⟩
    · rw [if_neg (by decide), if_pos c2, own_f6_H, if_pos c1]
    · rw [own_f6_H, if_pos c1, own_f6_A, if_pos c1]
      refine ⟨hm.1, hm.2, fun v hv => ?_, fun k hk hk2 => ?_⟩
      · rcases hv with hv | hv
        · by_cases hq : 0 ≤ v
          · exact absurd hv (hP v hq)
          · omega
        · omega
      · rw [own_b1]
        constructor
        · intro h
          have : k = 0 := by simpa using h
          subst this
          exact Or.inr ⟨by decide, by omega⟩
        · rintro (h | ⟨-, h⟩)
          · exact absurd h (hP _ (by omega))
          · have : k = 0 := by omega
            simp [this]
  · have c1 : ¬ n < (0 : Int32) := by rw [Int32.lt_iff_toInt_lt, z0]; omega
    have es : (m - n).toInt = m.toInt - n.toInt := by have := c_isub m n; have r := rng32 (m - n); omega
    have en : (-(m - n)).toInt = n.toInt - m.toInt := by have := c_ineg (m - n); have r := rng32 (-(m - n)); omega
    have e32 : (n - (32 : Int32)).toInt = n.toInt - 32 := by have := c_isub n 32; have r := rng32 (n - 32); omega
    by_cases c2 : n < m
    · have c2' := c2
      rw [Int32.lt_iff_toInt_lt] at c2'
      have c3 : (0 : Int32) < (m - n) := by rw [Int32.lt_iff_toInt_lt, z0, es]; omega
      refine ⟨1, by rw [if_neg c1, if_pos c2], ?_, ?_, ?_⟩
      · rw [own_f6, if_neg c1, if_pos c3]; split <;> rfl
      · rw [if_neg (by decide), if_pos c2, own_f6_H, if_neg c1, if_pos c3]; split <;> rfl
      · have eH : own_f6_H a m n A = m := by rw [own_f6_H, if_neg c1, if_pos c3]; split <;> rfl
        rw [eH, own_f6_A, if_neg c1, if_pos c3]
        refine ⟨hm.1, hm.2, fun v hv => ?_, fun k hk hk2 => ?_⟩
        · rcases hv with hv | hv
          · have := hle v hv; omega
          · omega
        · by_cases c4 : (m - n) < (32 : Int32)
          · rw [if_pos c4, Int64.toBitVec_or, BitVec.getLsbD_or, own_b1]
            rw [Int32.lt_iff_toInt_lt, o32, es] at c4
            obtain ⟨d, hd⟩ : ∃ d : Nat, (d : Int) = m.toInt - n.toInt := ⟨(m.toInt - n.toInt).toNat, by omega⟩
            rw [own_bshl A (m - n) d k (by rw [es]; omega) (by omega) (by omega)]
            by_cases hdk : d ≤ k
            · have q := hb (k - d) (by omega) (by omega)
              have eq1 : n.toInt - ((k - d : Nat) : Int) = m.toInt - (k : Int) := by omega
              rw [eq1] at q
              have k0 : ¬ k = 0 := by omega
              simp only [hdk, decide_true, Bool.true_and, k0, decide_false, Bool.or_false]
              rw [q]
              constructor
              · exact Or.inl
              · rintro (h | ⟨-, h⟩)
                · exact h
                · omega
            · simp only [hdk, decide_false, Bool.false_and, Bool.false_or, decide_eq_true_eq]
              constructor
              · intro h; subst h; exact Or.inr ⟨by decide, by omega⟩
              · rintro (h | ⟨-, h⟩)
                · have := hle _ h; omega
                · omega
          · rw [if_neg c4, own_b1]
            rw [Int32.lt_iff_toInt_lt, o32, es] at c4
            simp only [decide_eq_true_eq]
            constructor
            · intro h; subst h; exact Or.inr ⟨by decide, by omega⟩
            · rintro (h | ⟨-, h⟩)
              · have := hle _ h; omega
              · omega
    · have c2' := c2
      rw [Int32.lt_iff_toInt_lt] at c2'
      have c3 : ¬ (0 : Int32) < (m - n) := by rw [Int32.lt_iff_toInt_lt, z0, es]; omega
      obtain ⟨d, hd⟩ : ∃ d : Nat, (d : Int) = n.toInt - m.toInt := ⟨(n.toInt - m.toInt).toNat, by omega⟩
      by_cases c4 : (-(m - n)) < (32 : Int32)
      · have c4' := c4
        rw [Int32.lt_iff_toInt_lt, o32, en] at c4'
        have c5 : (n - (32 : Int32)) < m := by rw [Int32.lt_iff_toInt_lt, e32]; omega
        have tst := own_test A (-(m - n)) d (by rw [en]; omega) (by omega)
        have q := hb d (by omega) (by omega)
        have eq1 : n.toInt - (d : Int) = m.toInt := by omega
        rw [eq1] at q
        by_cases hPm : P m.toInt
        · have i1 := hi.1 hPm
          have t1 : ¬ (A &&& ((1 : Int64) <<< ((-(m - n)) &&& 0x3f).toInt64)) = (0 : Int64) := fun h => by
            have := tst.mp h
            rw [q.mpr hPm] at this; cases this
          refine ⟨0, ?_, ?_, ?_, ?_⟩
          · rw [if_neg c1, if_neg c2, if_pos c5, i1, if_neg (by decide)]
          · rw [own_f6, if_neg c1, if_neg c3, if_pos c4, if_neg t1]
          · rw [if_pos rfl, own_f6_H, if_neg c1, if_neg c3, if_pos c4, if_neg t1]
          · rw [own_f6_H, if_neg c1, if_neg c3, if_pos c4, if_neg t1, own_f6_A, if_neg c1, if_neg c3, if_pos c4, if_neg t1]
            refine ⟨h0, h1, fun v hv => ?_, fun k hk hk2 => ?_⟩
            · rcases hv with hv | ⟨hv, -⟩
              · exact hle v hv
              · exact absurd rfl hv
            · rw [hb k hk hk2]
              constructor
              · exact Or.inl
              · rintro (h | ⟨h, -⟩)
                · exact h
                · exact absurd rfl h
        · have i0 := hi.2 hPm
          have t1 : (A &&& ((1 : Int64) <<< ((-(m - n)) &&& 0x3f).toInt64)) = (0 : Int64) := tst.mpr (by
            cases hc : A.toBitVec.getLsbD d with
            | false => rfl
            | true => exact absurd (q.mp hc) hPm)
          refine ⟨1, ?_, ?_, ?_, ?_⟩
          · rw [if_neg c1, if_neg c2, if_pos c5, i0, if_pos rfl]
          · rw [own_f6, if_neg c1, if_neg c3, if_pos c4, if_pos t1]
          · rw [if_neg (by decide), if_neg c2, own_f6_H, if_neg c1, if_neg c3, if_pos c4, if_pos t1]
          · rw [own_f6_H, if_neg c1, if_neg c3, if_pos c4, if_pos t1, own_f6_A, if_neg c1, if_neg c3, if_pos c4, if_pos t1]
            refine ⟨h0, h1, fun v hv => ?_, fun k hk hk2 => ?_⟩
            · rcases hv with hv | ⟨-, hv⟩
              · exact hle v hv
              · omega
            · rw [Int64.toBitVec_or, BitVec.getLsbD_or, own_bone (-(m - n)) d k (by rw [en]; omega) (by omega) (by omega), Bool.or_eq_true, hb k hk hk2, decide_eq_true_eq]
              constructor
              · rintro (h | h)
                · exact Or.inl h
                · exact Or.inr ⟨by decide, by omega⟩
              · rintro (h | ⟨-, h⟩)
                · exact Or.inl h
                · exact Or.inr (by omega)
      · have c4' := c4
        rw [Int32.lt_iff_toInt_lt, o32, en] at c4'
        have c5 : ¬ (n - (32 : Int32)) < m := by rw [Int32.lt_iff_toInt_lt, e32]; omega
        refine ⟨0, ?_, ?_, ?_, ?_⟩
        · rw [if_neg c1, if_neg c2, if_neg c5]
        · rw [own_f6, if_neg c1, if_neg c3, if_neg c4]
        · rw [if_pos rfl, own_f6_H, if_neg c1, if_neg c3, if_neg c4]
        · rw [own_f6_H, if_neg c1, if_neg c3, if_neg c4, own_f6_A, if_neg c1, if_neg c3, if_neg c4]
          refine ⟨h0, h1, fun v hv => ?_, fun k hk hk2 => ?_⟩
          · rcases hv with hv | ⟨hv, -⟩
            · exact hle v hv
            · exact absurd rfl hv
          · rw [hb k hk hk2]
            constructor
            · exact Or.inl
            · rintro (h | ⟨h, -⟩)
              · exact h
              · exact absurd rfl h
theorem own_x0 (s : Int32) : 0 ≤ (s &&& (65535 : Int32)).toInt ∧ (s &&& (65535 : Int32)).toInt ≤ 65535 := by
  rw [c_mask s 65535 16 (by decide) (by decide)]; omega
theorem own_xn (p s : Int32) : 0 ≤ (own_f1 p s).toInt ∧ (own_f1 p s).toInt ≤ 65535 := by
  unfold own_f1
  split <;> exact own_x0 _
theorem own_in (p : Int32) (a : Addr) (k : ClassId) (c0 c1 c2 c3 c4 : Int32) : ((c0.toInt = p.toInt ∨ c1.toInt = p.toInt ∨ c2.toInt = p.toInt ∨ c3.toInt = p.toInt ∨ c4.toInt = p.toInt) → own_f7 p a k c0 c1 c2 c3 c4 = 1) ∧ (¬ (c0.toInt = p.toInt ∨ c1.toInt = p.toInt ∨ c2.toInt = p.toInt ∨ c3.toInt = p.toInt ∨ c4.toInt = p.toInt) → own_f7 p a k c0 c1 c2 c3 c4 = 0) := by
  simp only [own_f7, ← Int32.toInt_inj]
  constructor
  · intro h
    (repeat' split) <;> first | rfl | (exfalso; omega)
  · intro h
    (repeat' split) <;> first | rfl | (exfalso; omega)
theorem own_S0 {a0 : Addr} {p1 : Int32} {a3 a4 : Addr} {w1 : Int32} {w2 : Int64} {c1 c2 c3 c4 nn : Int32} {k_a3 k_a4 : ClassId} (hI : own_I w1 w2 (-1 : Int32) c1 c2 c3 c4 nn) (hm : 0 ≤ p1.toInt ∧ p1.toInt ≤ 65535) :
    own_fS0 a0 p1 a3 a4 w1 w2 (-1 : Int32) c1 c2 c3 c4 nn k_a3 k_a4 = 1 ∧ own_I (own_f6_H a0 p1 w1 w2) (own_f6_A a0 p1 w1 w2) (own_fS0_C a0 p1 a3 a4 w1 w2 (-1 : Int32) c1 c2 c3 c4 nn k_a3 k_a4) c1 c2 c3 c4 (own_fS0_N a0 p1 a3 a4 w1 w2 (-1 : Int32) c1 c2 c3 c4 nn k_a3 k_a4) := by
  obtain ⟨rfl, hI⟩ := hI
  have om : (-1 : Int32).toInt = -1 := rfl
  have hJ : own_J w1 w2 (fun v => (-1 : Int32).toInt = v ∨ c1.toInt = v ∨ c2.toInt = v ∨ c3.toInt = v ∨ c4.toInt = v) := by
    rcases hI with ⟨h, q0, q1, q2, q3, q4⟩ | ⟨h0, h1, ⟨b0, b1, b2, b3, b4⟩, hb⟩
    · refine Or.inl ⟨h, fun v hv => ?_⟩
      simp only [q1, q2, q3, q4,  om]; omega
    · refine Or.inr ⟨h0, h1, fun v hv => by omega, hb⟩
  obtain ⟨e, h5, h6, hH, hK0, hK1, hK2, hK3⟩ := own_core a0 p1 w1 w2 _ (own_f7 p1 a3 k_a3 (-1 : Int32) c1 c2 c3 c4) (own_in p1 a3 k_a3 (-1 : Int32) c1 c2 c3 c4) hm hJ
  have h5' : own_f5 p1 w1 a3 k_a3 (-1 : Int32) c1 c2 c3 c4 = e := by rw [own_f5]; exact h5
  refine ⟨by simp only [own_fS0, h5', h6, if_true, ite_self], ?_⟩
  have hN : own_fS0_N a0 p1 a3 a4 w1 w2 (-1 : Int32) c1 c2 c3 c4 w1 k_a3 k_a4 = own_f6_H a0 p1 w1 w2 := by
    rw [← hH]; simp only [own_fS0_N, h5', h6, if_true, ite_self]
  have hC : own_fS0_C a0 p1 a3 a4 w1 w2 (-1 : Int32) c1 c2 c3 c4 w1 k_a3 k_a4 = if e = 0 then (-1 : Int32) else p1 := by
    simp only [own_fS0_C, h5', h6, if_true, ite_self]
  rw [hN, hC]
  refine ⟨rfl, Or.inr ⟨hK0, hK1, ?_, fun k hk hk2 => ?_⟩⟩
  · by_cases he : e = 0
    · simp only [if_pos he]
      exact ⟨by omega, hK2 _ (Or.inl (by omega)), hK2 _ (Or.inl (by omega)), hK2 _ (Or.inl (by omega)), hK2 _ (Or.inl (by omega))⟩
    · simp only [if_neg he]
      exact ⟨hK2 _ (Or.inr ⟨he, rfl⟩), hK2 _ (Or.inl (by omega)), hK2 _ (Or.inl (by omega)), hK2 _ (Or.inl (by omega)), hK2 _ (Or.inl (by omega))⟩
  · rw [hK3 k hk hk2]
    by_cases he : e = 0
    · simp only [if_pos he]
      constructor
      · rintro (h | ⟨h, -⟩)
        · exact h
        · exact absurd he h
      · exact Or.inl
    · simp only [if_neg he]
      constructor
      · rintro (h | ⟨-, h⟩) <;> omega
      · intro h
        by_cases hp : p1.toInt = (own_f6_H a0 p1 w1 w2).toInt - (k : Int)
        · exact Or.inr ⟨he, hp.symm⟩
        · exact Or.inl (by omega)
theorem own_S1 {a0 : Addr} {p1 : Int32} {a3 a4 : Addr} {w1 : Int32} {w2 : Int64} {c0 c2 c3 c4 nn : Int32} {k_a3 k_a4 : ClassId} (hI : own_I w1 w2 c0 (-1 : Int32) c2 c3 c4 nn) (hm : 0 ≤ p1.toInt ∧ p1.toInt ≤ 65535) :
    own_fS1 a0 p1 a3 a4 w1 w2 c0 (-1 : Int32) c2 c3 c4 nn k_a3 k_a4 = 1 ∧ own_I (own_f6_H a0 p1 w1 w2) (own_f6_A a0 p1 w1 w2) c0 (own_fS1_C a0 p1 a3 a4 w1 w2 c0 (-1 : Int32) c2 c3 c4 nn k_a3 k_a4) c2 c3 c4 (own_fS1_N a0 p1 a3 a4 w1 w2 c0 (-1 : Int32) c2 c3 c4 nn k_a3 k_a4) := by
  obtain ⟨rfl, hI⟩ := hI
  have om : (-1 : Int32).toInt = -1 := rfl
  have hJ : own_J w1 w2 (fun v => c0.toInt = v ∨ (-1 : Int32).toInt = v ∨ c2.toInt = v ∨ c3.toInt = v ∨ c4.toInt = v) := by
    rcases hI with ⟨h, q0, q1, q2, q3, q4⟩ | ⟨h0, h1, ⟨b0, b1, b2, b3, b4⟩, hb⟩
    · refine Or.inl ⟨h, fun v hv => ?_⟩
      simp only [q0, q2, q3, q4,  om]; omega
    · refine Or.inr ⟨h0, h1, fun v hv => by omega, hb⟩
  obtain ⟨e, h5, h6, hH, hK0, hK1, hK2, hK3⟩ := own_core a0 p1 w1 w2 _ (own_f7 p1 a3 k_a3 c0 (-1 : Int32) c2 c3 c4) (own_in p1 a3 k_a3 c0 (-1 : Int32) c2 c3 c4) hm hJ
  have h5' : own_f5 p1 w1 a3 k_a3 c0 (-1 : Int32) c2 c3 c4 = e := by rw [own_f5]; exact h5
  refine ⟨by simp only [own_fS1, h5', h6, if_true, ite_self], ?_⟩
  have hN : own_fS1_N a0 p1 a3 a4 w1 w2 c0 (-1 : Int32) c2 c3 c4 w1 k_a3 k_a4 = own_f6_H a0 p1 w1 w2 := by
    rw [← hH]; simp only [own_fS1_N, h5', h6, if_true, ite_self]
  have hC : own_fS1_C a0 p1 a3 a4 w1 w2 c0 (-1 : Int32) c2 c3 c4 w1 k_a3 k_a4 = if e = 0 then (-1 : Int32) else p1 := by
    simp only [own_fS1_C, h5', h6, if_true, ite_self]
  rw [hN, hC]
  refine ⟨rfl, Or.inr ⟨hK0, hK1, ?_, fun k hk hk2 => ?_⟩⟩
  · by_cases he : e = 0
    · simp only [if_pos he]
      exact ⟨hK2 _ (Or.inl (by omega)), by omega, hK2 _ (Or.inl (by omega)), hK2 _ (Or.inl (by omega)), hK2 _ (Or.inl (by omega))⟩
    · simp only [if_neg he]
      exact ⟨hK2 _ (Or.inl (by omega)), hK2 _ (Or.inr ⟨he, rfl⟩), hK2 _ (Or.inl (by omega)), hK2 _ (Or.inl (by omega)), hK2 _ (Or.inl (by omega))⟩
  · rw [hK3 k hk hk2]
    by_cases he : e = 0
    · simp only [if_pos he]
      constructor
      · rintro (h | ⟨h, -⟩)
        · exact h
        · exact absurd he h
      · exact Or.inl
    · simp only [if_neg he]
      constructor
      · rintro (h | ⟨-, h⟩) <;> omega
      · intro h
        by_cases hp : p1.toInt = (own_f6_H a0 p1 w1 w2).toInt - (k : Int)
        · exact Or.inr ⟨he, hp.symm⟩
        · exact Or.inl (by omega)
theorem own_S2 {a0 : Addr} {p1 : Int32} {a3 a4 : Addr} {w1 : Int32} {w2 : Int64} {c0 c1 c3 c4 nn : Int32} {k_a3 k_a4 : ClassId} (hI : own_I w1 w2 c0 c1 (-1 : Int32) c3 c4 nn) (hm : 0 ≤ p1.toInt ∧ p1.toInt ≤ 65535) :
    own_fS2 a0 p1 a3 a4 w1 w2 c0 c1 (-1 : Int32) c3 c4 nn k_a3 k_a4 = 1 ∧ own_I (own_f6_H a0 p1 w1 w2) (own_f6_A a0 p1 w1 w2) c0 c1 (own_fS2_C a0 p1 a3 a4 w1 w2 c0 c1 (-1 : Int32) c3 c4 nn k_a3 k_a4) c3 c4 (own_fS2_N a0 p1 a3 a4 w1 w2 c0 c1 (-1 : Int32) c3 c4 nn k_a3 k_a4) := by
  obtain ⟨rfl, hI⟩ := hI
  have om : (-1 : Int32).toInt = -1 := rfl
  have hJ : own_J w1 w2 (fun v => c0.toInt = v ∨ c1.toInt = v ∨ (-1 : Int32).toInt = v ∨ c3.toInt = v ∨ c4.toInt = v) := by
    rcases hI with ⟨h, q0, q1, q2, q3, q4⟩ | ⟨h0, h1, ⟨b0, b1, b2, b3, b4⟩, hb⟩
    · refine Or.inl ⟨h, fun v hv => ?_⟩
      simp only [q0, q1, q3, q4,  om]; omega
    · refine Or.inr ⟨h0, h1, fun v hv => by omega, hb⟩
  obtain ⟨e, h5, h6, hH, hK0, hK1, hK2, hK3⟩ := own_core a0 p1 w1 w2 _ (own_f7 p1 a3 k_a3 c0 c1 (-1 : Int32) c3 c4) (own_in p1 a3 k_a3 c0 c1 (-1 : Int32) c3 c4) hm hJ
  have h5' : own_f5 p1 w1 a3 k_a3 c0 c1 (-1 : Int32) c3 c4 = e := by rw [own_f5]; exact h5
  refine ⟨by simp only [own_fS2, h5', h6, if_true, ite_self], ?_⟩
  have hN : own_fS2_N a0 p1 a3 a4 w1 w2 c0 c1 (-1 : Int32) c3 c4 w1 k_a3 k_a4 = own_f6_H a0 p1 w1 w2 := by
    rw [← hH]; simp only [own_fS2_N, h5', h6, if_true, ite_self]
  have hC : own_fS2_C a0 p1 a3 a4 w1 w2 c0 c1 (-1 : Int32) c3 c4 w1 k_a3 k_a4 = if e = 0 then (-1 : Int32) else p1 := by
    simp only [own_fS2_C, h5', h6, if_true, ite_self]
  rw [hN, hC]
  refine ⟨rfl, Or.inr ⟨hK0, hK1, ?_, fun k hk hk2 => ?_⟩⟩
  · by_cases he : e = 0
    · simp only [if_pos he]
      exact ⟨hK2 _ (Or.inl (by omega)), hK2 _ (Or.inl (by omega)), by omega, hK2 _ (Or.inl (by omega)), hK2 _ (Or.inl (by omega))⟩
    · simp only [if_neg he]
      exact ⟨hK2 _ (Or.inl (by omega)), hK2 _ (Or.inl (by omega)), hK2 _ (Or.inr ⟨he, rfl⟩), hK2 _ (Or.inl (by omega)), hK2 _ (Or.inl (by omega))⟩
  · rw [hK3 k hk hk2]
    by_cases he : e = 0
    · simp only [if_pos he]
      constructor
      · rintro (h | ⟨h, -⟩)
        · exact h
        · exact absurd he h
      · exact Or.inl
    · simp only [if_neg he]
      constructor
      · rintro (h | ⟨-, h⟩) <;> omega
      · intro h
        by_cases hp : p1.toInt = (own_f6_H a0 p1 w1 w2).toInt - (k : Int)
        · exact Or.inr ⟨he, hp.symm⟩
        · exact Or.inl (by omega)
theorem own_S3 {a0 : Addr} {p1 : Int32} {a3 a4 : Addr} {w1 : Int32} {w2 : Int64} {c0 c1 c2 c4 nn : Int32} {k_a3 k_a4 : ClassId} (hI : own_I w1 w2 c0 c1 c2 (-1 : Int32) c4 nn) (hm : 0 ≤ p1.toInt ∧ p1.toInt ≤ 65535) :
    own_fS3 a0 p1 a3 a4 w1 w2 c0 c1 c2 (-1 : Int32) c4 nn k_a3 k_a4 = 1 ∧ own_I (own_f6_H a0 p1 w1 w2) (own_f6_A a0 p1 w1 w2) c0 c1 c2 (own_fS3_C a0 p1 a3 a4 w1 w2 c0 c1 c2 (-1 : Int32) c4 nn k_a3 k_a4) c4 (own_fS3_N a0 p1 a3 a4 w1 w2 c0 c1 c2 (-1 : Int32) c4 nn k_a3 k_a4) := by
  obtain ⟨rfl, hI⟩ := hI
  have om : (-1 : Int32).toInt = -1 := rfl
  have hJ : own_J w1 w2 (fun v => c0.toInt = v ∨ c1.toInt = v ∨ c2.toInt = v ∨ (-1 : Int32).toInt = v ∨ c4.toInt = v) := by
    rcases hI with ⟨h, q0, q1, q2, q3, q4⟩ | ⟨h0, h1, ⟨b0, b1, b2, b3, b4⟩, hb⟩
    · refine Or.inl ⟨h, fun v hv => ?_⟩
      simp only [q0, q1, q2, q4,  om]; omega
    · refine Or.inr ⟨h0, h1, fun v hv => by omega, hb⟩
  obtain ⟨e, h5, h6, hH, hK0, hK1, hK2, hK3⟩ := own_core a0 p1 w1 w2 _ (own_f7 p1 a3 k_a3 c0 c1 c2 (-1 : Int32) c4) (own_in p1 a3 k_a3 c0 c1 c2 (-1 : Int32) c4) hm hJ
  have h5' : own_f5 p1 w1 a3 k_a3 c0 c1 c2 (-1 : Int32) c4 = e := by rw [own_f5]; exact h5
  refine ⟨by simp only [own_fS3, h5', h6, if_true, ite_self], ?_⟩
  have hN : own_fS3_N a0 p1 a3 a4 w1 w2 c0 c1 c2 (-1 : Int32) c4 w1 k_a3 k_a4 = own_f6_H a0 p1 w1 w2 := by
    rw [← hH]; simp only [own_fS3_N, h5', h6, if_true, ite_self]
  have hC : own_fS3_C a0 p1 a3 a4 w1 w2 c0 c1 c2 (-1 : Int32) c4 w1 k_a3 k_a4 = if e = 0 then (-1 : Int32) else p1 := by
    simp only [own_fS3_C, h5', h6, if_true, ite_self]
  rw [hN, hC]
  refine ⟨rfl, Or.inr ⟨hK0, hK1, ?_, fun k hk hk2 => ?_⟩⟩
  · by_cases he : e = 0
    · simp only [if_pos he]
      exact ⟨hK2 _ (Or.inl (by omega)), hK2 _ (Or.inl (by omega)), hK2 _ (Or.inl (by omega)), by omega, hK2 _ (Or.inl (by omega))⟩
    · simp only [if_neg he]
      exact ⟨hK2 _ (Or.inl (by omega)), hK2 _ (Or.inl (by omega)), hK2 _ (Or.inl (by omega)), hK2 _ (Or.inr ⟨he, rfl⟩), hK2 _ (Or.inl (by omega))⟩
  · rw [hK3 k hk hk2]
    by_cases he : e = 0
    · simp only [if_pos he]
      constructor
      · rintro (h | ⟨h, -⟩)
        · exact h
        · exact absurd he h
      · exact Or.inl
    · simp only [if_neg he]
      constructor
      · rintro (h | ⟨-, h⟩) <;> omega
      · intro h
        by_cases hp : p1.toInt = (own_f6_H a0 p1 w1 w2).toInt - (k : Int)
        · exact Or.inr ⟨he, hp.symm⟩
        · exact Or.inl (by omega)
theorem own_S4 {a0 : Addr} {p1 : Int32} {a3 a4 : Addr} {w1 : Int32} {w2 : Int64} {c0 c1 c2 c3 nn : Int32} {k_a3 k_a4 : ClassId} (hI : own_I w1 w2 c0 c1 c2 c3 (-1 : Int32) nn) (hm : 0 ≤ p1.toInt ∧ p1.toInt ≤ 65535) :
    own_fS4 a0 p1 a3 a4 w1 w2 c0 c1 c2 c3 (-1 : Int32) nn k_a3 k_a4 = 1 ∧ own_I (own_f6_H a0 p1 w1 w2) (own_f6_A a0 p1 w1 w2) c0 c1 c2 c3 (own_fS4_C a0 p1 a3 a4 w1 w2 c0 c1 c2 c3 (-1 : Int32) nn k_a3 k_a4) (own_fS4_N a0 p1 a3 a4 w1 w2 c0 c1 c2 c3 (-1 : Int32) nn k_a3 k_a4) := by
  obtain ⟨rfl, hI⟩ := hI
  have om : (-1 : Int32).toInt = -1 := rfl
  have hJ : own_J w1 w2 (fun v => c0.toInt = v ∨ c1.toInt = v ∨ c2.toInt = v ∨ c3.toInt = v ∨ (-1 : Int32).toInt = v) := by
    rcases hI with ⟨h, q0, q1, q2, q3, q4⟩ | ⟨h0, h1, ⟨b0, b1, b2, b3, b4⟩, hb⟩
    · refine Or.inl ⟨h, fun v hv => ?_⟩
      simp only [q0, q1, q2, q3,  om]; omega
    · refine Or.inr ⟨h0, h1, fun v hv => by omega, hb⟩
  obtain ⟨e, h5, h6, hH, hK0, hK1, hK2, hK3⟩ := own_core a0 p1 w1 w2 _ (own_f7 p1 a3 k_a3 c0 c1 c2 c3 (-1 : Int32)) (own_in p1 a3 k_a3 c0 c1 c2 c3 (-1 : Int32)) hm hJ
  have h5' : own_f5 p1 w1 a3 k_a3 c0 c1 c2 c3 (-1 : Int32) = e := by rw [own_f5]; exact h5
  refine ⟨by simp only [own_fS4, h5', h6, if_true, ite_self], ?_⟩
  have hN : own_fS4_N a0 p1 a3 a4 w1 w2 c0 c1 c2 c3 (-1 : Int32) w1 k_a3 k_a4 = own_f6_H a0 p1 w1 w2 := by
    rw [← hH]; simp only [own_fS4_N, h5', h6, if_true, ite_self]
  have hC : own_fS4_C a0 p1 a3 a4 w1 w2 c0 c1 c2 c3 (-1 : Int32) w1 k_a3 k_a4 = if e = 0 then (-1 : Int32) else p1 := by
    simp only [own_fS4_C, h5', h6, if_true, ite_self]
  rw [hN, hC]
  refine ⟨rfl, Or.inr ⟨hK0, hK1, ?_, fun k hk hk2 => ?_⟩⟩
  · by_cases he : e = 0
    · simp only [if_pos he]
      exact ⟨hK2 _ (Or.inl (by omega)), hK2 _ (Or.inl (by omega)), hK2 _ (Or.inl (by omega)), hK2 _ (Or.inl (by omega)), by omega⟩
    · simp only [if_neg he]
      exact ⟨hK2 _ (Or.inl (by omega)), hK2 _ (Or.inl (by omega)), hK2 _ (Or.inl (by omega)), hK2 _ (Or.inl (by omega)), hK2 _ (Or.inr ⟨he, rfl⟩)⟩
  · rw [hK3 k hk hk2]
    by_cases he : e = 0
    · simp only [if_pos he]
      constructor
      · rintro (h | ⟨h, -⟩)
        · exact h
        · exact absurd he h
      · exact Or.inl
    · simp only [if_neg he]
      constructor
      · rintro (h | ⟨-, h⟩) <;> omega
      · intro h
        by_cases hp : p1.toInt = (own_f6_H a0 p1 w1 w2).toInt - (k : Int)
        · exact Or.inr ⟨he, hp.symm⟩
        · exact Or.inl (by omega)

theorem own_pd3 : parseMethodDescriptor "(II)I" = some ⟨[.int, .int], some .int⟩ := by decide +kernel
theorem own_pd4 : parseMethodDescriptor "()V" = some ⟨[], none⟩ := by decide +kernel
theorem own_pd5 : parseMethodDescriptor "(Lcom/example/hermod/hermod/osp/SequenceWindow;II[I[I)Z" = some ⟨[(.object "com/example/hermod/hermod/osp/SequenceWindow"), .int, .int, (.array .int), (.array .int)], some .boolean⟩ := by decide +kernel
theorem own_pd6 : parseMethodDescriptor "()Z" = some ⟨[], some .boolean⟩ := by decide +kernel
theorem own_ef0 (m : MethodId) (p0 : Int32) (p1 : Int32) (p2 : Int32) (p3 : Int32) (p4 : Int32) : entryFrame m #[(.int p0), (.int p1), (.int p2), (.int p3), (.int p4)] maxLocals = mkF m 0 #[.val (.int p0), .val (.int p1), .val (.int p2), .val (.int p3), .val (.int p4), .unset, .unset, .unset, .unset, .unset] [] := by first | (simp [entryFrame, mkF, argsToLocals, Value.category, maxLocals]; done) | rfl
def own_Q0 (Z : State) (p0 : Int32) (p1 : Int32) (p2 : Int32) (p3 : Int32) (p4 : Int32) (h0 : Heap) (n0 : Nat) (v : Option Value) (h : Heap) (L : List Loc) : Prop := v = some (.int (1 : Int32)) ∧ Fr n0 L
set_option maxRecDepth 65536 in
set_option maxHeartbeats 40000000 in
theorem own_rm0 (l : Launch) (Z : State) (aA : Array Value) (hw : ∀ d ∈ tables_1, d.before aA Z = true) (ws : List Jvm.Cond) (p0 : Int32) (p1 : Int32) (p2 : Int32) (p3 : Int32) (p4 : Int32) (h0 : Heap) (n0 : Nat) (Z0 : n0 ≤ h0.size) :
    MetFree l x (head1 (Jvm.Cond.code x code maxLocals ret :: ws) room_1) (fun a U => a = #[(.int p0), (.int p1), (.int p2), (.int p3), (.int p4)] ∧ Z.Warmed39 U.vm ∧ U.heap = h0) (fun _ _ _ _ _ => True) (fun _ U o U' => ∃ v L, o = .returned v ∧ own_Q0 Z p0 p1 p2 p3 p4 h0 n0 v U'.heap L ∧ FrameEnd U o U' L room_1.cells room_1.slots) := by
  refine MetFree.of_bodySF (plainFor_of_name own_pn22) hisR ?_
  intro p e s m args below meth c s₁ Bd hml0 hP hK
  obtain ⟨rfl, hZ, hh⟩ := hP
  have hx := Bd.exec
  have hby := Bd.bytes
  have hlk : meth.locks = false := Bd.notSynchronized
  have hml : c.maxLocals = 10 := hml0
  have hown : s.vm.findClass "com/example/hermod/hermod/osp/SequenceWindowAcceptPinLaw" = some m.cls := findClass_of_methodNamed Bd.named
  have hnm := (name_of_methodNamed Bd.named Bd.method).1
  have X0 : Stand p l e room_1 s m #[(.int p0), (.int p1), (.int p2), (.int p3), (.int p4)] below meth c s₁ [] 0 0 := Stand.of_body Bd
  have e0 : s₁.heap = h0 := by rw [← hh, Bd.state]; rfl
  have N0 := Fr.nil n0
  show OG p e below (FE s room_1.cells room_1.slots) (own_Q0 Z p0 p1 p2 p3 p4 h0 n0) (s₁.setTop (entryFrame m #[(.int p0), (.int p1), (.int p2), (.int p3), (.int p4)] maxLocals))
  refine og_of (fun _ k => castTop (own_ef0 m p0 p1 p2 p3 p4) k) ?_
  refine o_iconst (z := (5 : Int32)) X0 hx rfl (hb hby at_0) (by decide) ?_
  obtain ⟨T1, h1, k_b1, X1, e1, E1, A1, st1⟩ := newP X0 hx hZ (hw _ (List.mem_of_getElem? (i := 0) rfl)) e0 (g := (mkF m 1 #[.val (.int p0), .val (.int p1), .val (.int p2), .val (.int p3), .val (.int p4), .unset, .unset, .unset, .unset, .unset] [(.int (5 : Int32))])) rfl (hb hby at_1) rfl (by decide +kernel) (cap := 5) (by decide +kernel) (by decide +kernel) (by decide +kernel) (by decide +kernel)
  obtain ⟨b1, g1⟩ : ∃ z, z = h0.size := ⟨_, rfl⟩
  rw [← g1] at A1 st1
  have gn1 : n0 ≤ b1 := Nat.le_trans Z0 (Nat.le_of_eq g1.symm)
  have sz1 : h0.size ≤ b1 := Nat.le_trans (Keep.refl h0 []).1 (Nat.le_of_eq g1.symm)
  have Kp2 : Keep h0 h1 [] := (Keep.refl h0 []).ext E1
  have V1 : Arv Z h1 b1 k_b1 .int (5 : Int32) [(.int (0 : Int32)), (.int (0 : Int32)), (.int (0 : Int32)), (.int (0 : Int32)), (.int (0 : Int32))] (.int (0 : Int32)) := (Arv.new A1 (by decide)).pad (pad_rep [] (.int (0 : Int32)) 5)
  refine og_of st1 ?_
  show OG p e below _ _ (T1.setTop (mkF m 3 #[.val (.int p0), .val (.int p1), .val (.int p2), .val (.int p3), .val (.int p4), .unset, .unset, .unset, .unset, .unset] [(.ref b1)]))
  clear X0 st1
  refine o_astore X1 hx rfl (hb hby at_3) rfl (L' := #[.val (.int p0), .val (.int p1), .val (.int p2), .val (.int p3), .val (.int p4), .val (.ref b1), .unset, .unset, .unset, .unset]) rfl ?_
  refine o_aload X1 hx rfl (hb hby at_5) rfl rfl ?_
  refine o_iconst (z := (0 : Int32)) X1 hx rfl (hb hby at_7) (by decide) ?_
  refine o_iloadN X1 hx rfl (hb hby at_8) rfl ?_
  refine o_ldcI X1 hx rfl (hb hby at_9) hZ hown (hw _ (List.mem_of_getElem? (i := 1) rfl)) ?_
  obtain ⟨z3, hz3⟩ : ∃ z : Int32, p0 &&& (65535 : Int32) = z := ⟨_, rfl⟩
  refine o_iand (z := z3) X1 hx rfl (hb hby at_11) hz3 ?_
  obtain ⟨clv4, Arv4, qv4, Sv4, Nv4, Hv4, Gv4⟩ := id V1
  have hin5 : ¬ ((0 : Int32) < 0 ∨ clv4.slots.size ≤ ((0 : Int32)).toNatClampNeg) := inb_of Sv4 ⟨by decide, by decide⟩
  obtain ⟨T5, h5, X5, e5, W5, st5⟩ := stI X1 hx hZ e1 Arv4 (j := (0 : Int32)) hin5 (g := (mkF m 12 #[.val (.int p0), .val (.int p1), .val (.int p2), .val (.int p3), .val (.int p4), .val (.ref b1), .unset, .unset, .unset, .unset] [(.int z3), (.int (0 : Int32)), (.ref b1)])) rfl rfl (hb hby at_12)
  have V5 : Arv Z h5 b1 k_b1 .int (5 : Int32) [(.int z3), (.int (0 : Int32)), (.int (0 : Int32)), (.int (0 : Int32)), (.int (0 : Int32))] (.int (0 : Int32)) := Arv.set Arv4 qv4 Sv4 Nv4 Hv4 Gv4 rfl W5 0 rfl (Nat.le_of_ble_eq_true rfl)
  have N5 := Fr.snoc X5 N0 gn1
  have Kp6 : Keep h0 h5 [] := Kp2.wr W5 (Or.inr sz1)
  refine og_of st5 ?_
  show OG p e below _ _ (T5.setTop (mkF m 13 #[.val (.int p0), .val (.int p1), .val (.int p2), .val (.int p3), .val (.int p4), .val (.ref b1), .unset, .unset, .unset, .unset] []))
  clear X1 st5
  refine o_aload X5 hx rfl (hb hby at_13) rfl rfl ?_
  refine o_iconst (z := (1 : Int32)) X5 hx rfl (hb hby at_15) (by decide) ?_
  refine o_aload X5 hx rfl (hb hby at_16) rfl rfl ?_
  refine o_iconst (z := (0 : Int32)) X5 hx rfl (hb hby at_18) (by decide) ?_
  obtain ⟨clv7, Arv7, qv7, Sv7, Nv7, Hv7, Gv7⟩ := id V5
  have hin8 : ¬ ((0 : Int32) < 0 ∨ clv7.slots.size ≤ ((0 : Int32)).toNatClampNeg) := inb_of Sv7 ⟨by decide, by decide⟩
  have hat8 : clv7.slots[((0 : Int32)).toNatClampNeg]? = some (.int z3) := Hv7.at hin8 rfl
  refine og_of (X5.iaload hx (j := (0 : Int32)) (v := (.int z3)) (by rw [e5]; exact Arv7.1) (State.isArrayOf_alike hZ.alike Arv7.2.1) Arv7.2.2 hin8 hat8 (g := (mkF m 19 #[.val (.int p0), .val (.int p1), .val (.int p2), .val (.int p3), .val (.int p4), .val (.ref b1), .unset, .unset, .unset, .unset] [(.int (0 : Int32)), (.ref b1), (.int (1 : Int32)), (.ref b1)])) rfl rfl (hb hby at_19)) ?_
  show OG p e below _ _ (T5.setTop (mkF m 20 #[.val (.int p0), .val (.int p1), .val (.int p2), .val (.int p3), .val (.int p4), .val (.ref b1), .unset, .unset, .unset, .unset] [(.int z3), (.int (1 : Int32)), (.ref b1)]))
  clear hat8 hin8 Gv7 Hv7 Nv7 Sv7 qv7 Arv7 clv7
  refine o_iloadN X5 hx rfl (hb hby at_20) rfl ?_
  have zz10 := (Nat.le_trans (Nat.le_trans Z0 E1.1) (Keep.of_wr W5).1)
  obtain ⟨_, _, ⟨T9, L9, k9, n9⟩, -, X9, ⟨Lc9, hQ9, l9, y9, z9⟩, st9⟩ := Jvm.LawKit.callS X5 hx (y := (⟨"com/example/hermod/hermod/osp/SequenceWindowAcceptPinLaw", "next", "(II)I"⟩ : MethodName)) hown (mvT hZ (hw _ (List.mem_of_getElem? (i := 2) rfl))) (mvT hZ (hw _ (List.mem_of_getElem? (i := 3) rfl))) (mvT hZ (hw _ (List.mem_of_getElem? (i := 4) rfl))) (mvT hZ (hw _ (List.mem_of_getElem? (i := 5) rfl))) (by decide) (backOf (W := 2) (own_rm1 l Z aA hw [] z3 p1 h5 n0 zz10) hZ (hw _ (List.mem_of_getElem? (i := 5) rfl)) (hw _ (List.mem_of_getElem? (i := 4) rfl)) (by decide) (by decide)) (g := (mkF m 21 #[.val (.int p0), .val (.int p1), .val (.int p2), .val (.int p3), .val (.int p4), .val (.ref b1), .unset, .unset, .unset, .unset] [(.int p1), (.int z3), (.int (1 : Int32)), (.ref b1)])) rfl (by rw [hml]; rfl) (argsL := [(.int z3), (.int p1)]) (rest := [(.int (1 : Int32)), (.ref b1)]) (lenOf own_pd3 rfl) rfl (by show 2 * 0 + _ ≤ _; exact Nat.le_of_eq rfl) (hb hby at_21) (fun _ _ => ⟨rfl, e5, (by dsimp only [Pt.cells, Pt.slots]; decide +kernel), (by dsimp only [Pt.cells, Pt.slots]; decide +kernel)⟩)
  dsimp only [Pt.U, Pt.locs, Pt.cells, Pt.slots] at X9 l9 y9 z9 st9 hQ9
  rw [l9, y9, z9] at X9
  obtain ⟨rfl, N9q, ee9⟩ := hQ9
  have N11 := Fr.app N5 N9q
  obtain ⟨z12, hz12⟩ : ∃ z : Int32, (own_f1 z3 p1) = z := ⟨_, rfl⟩
  rw [hz12] at st9
  refine og_of st9 ?_
  show OG p e below _ _ (T9.setTop (mkF m 24 #[.val (.int p0), .val (.int p1), .val (.int p2), .val (.int p3), .val (.int p4), .val (.ref b1), .unset, .unset, .unset, .unset] [(.int z12), (.int (1 : Int32)), (.ref b1)]))
  clear X5 st9
  obtain ⟨clv13, Arv13, qv13, Sv13, Nv13, Hv13, Gv13⟩ := id V5
  have hin14 : ¬ ((1 : Int32) < 0 ∨ clv13.slots.size ≤ ((1 : Int32)).toNatClampNeg) := inb_of Sv13 ⟨by decide, by decide⟩
  obtain ⟨T14, h14, X14, e14, W14, st14⟩ := stI X9 hx hZ ee9 Arv13 (j := (1 : Int32)) hin14 (g := (mkF m 24 #[.val (.int p0), .val (.int p1), .val (.int p2), .val (.int p3), .val (.int p4), .val (.ref b1), .unset, .unset, .unset, .unset] [(.int z12), (.int (1 : Int32)), (.ref b1)])) rfl rfl (hb hby at_24)
  have V14 : Arv Z h14 b1 k_b1 .int (5 : Int32) [(.int z3), (.int z12), (.int (0 : Int32)), (.int (0 : Int32)), (.int (0 : Int32))] (.int (0 : Int32)) := Arv.set Arv13 qv13 Sv13 Nv13 Hv13 Gv13 rfl W14 1 rfl (Nat.le_of_ble_eq_true rfl)
  have N14 := Fr.snoc X14 N11 gn1
  have Kp15 : Keep h0 h14 [] := Kp6.wr W14 (Or.inr sz1)
  refine og_of st14 ?_
  show OG p e below _ _ (T14.setTop (mkF m 25 #[.val (.int p0), .val (.int p1), .val (.int p2), .val (.int p3), .val (.int p4), .val (.ref b1), .unset, .unset, .unset, .unset] []))
  clear X9 st14
  refine o_aload X14 hx rfl (hb hby at_25) rfl rfl ?_
  refine o_iconst (z := (2 : Int32)) X14 hx rfl (hb hby at_27) (by decide) ?_
  refine o_aload X14 hx rfl (hb hby at_28) rfl rfl ?_
  refine o_iconst (z := (1 : Int32)) X14 hx rfl (hb hby at_30) (by decide) ?_
  obtain ⟨clv16, Arv16, qv16, Sv16, Nv16, Hv16, Gv16⟩ := id V14
  have hin17 : ¬ ((1 : Int32) < 0 ∨ clv16.slots.size ≤ ((1 : Int32)).toNatClampNeg) := inb_of Sv16 ⟨by decide, by decide⟩
  have hat17 : clv16.slots[((1 : Int32)).toNatClampNeg]? = some (.int z12) := Hv16.at hin17 rfl
  refine og_of (X14.iaload hx (j := (1 : Int32)) (v := (.int z12)) (by rw [e14]; exact Arv16.1) (State.isArrayOf_alike hZ.alike Arv16.2.1) Arv16.2.2 hin17 hat17 (g := (mkF m 31 #[.val (.int p0), .val (.int p1), .val (.int p2), .val (.int p3), .val (.int p4), .val (.ref b1), .unset, .unset, .unset, .unset] [(.int (1 : Int32)), (.ref b1), (.int (2 : Int32)), (.ref b1)])) rfl rfl (hb hby at_31)) ?_
  show OG p e below _ _ (T14.setTop (mkF m 32 #[.val (.int p0), .val (.int p1), .val (.int p2), .val (.int p3), .val (.int p4), .val (.ref b1), .unset, .unset, .unset, .unset] [(.int z12), (.int (2 : Int32)), (.ref b1)]))
  clear hat17 hin17 Gv16 Hv16 Nv16 Sv16 qv16 Arv16 clv16
  refine o_iloadN X14 hx rfl (hb hby at_32) rfl ?_
  have zz19 := (Nat.le_trans zz10 (Keep.of_wr W14).1)
  obtain ⟨_, _, ⟨T18, L18, k18, n18⟩, -, X18, ⟨Lc18, hQ18, l18, y18, z18⟩, st18⟩ := Jvm.LawKit.callS X14 hx (y := (⟨"com/example/hermod/hermod/osp/SequenceWindowAcceptPinLaw", "next", "(II)I"⟩ : MethodName)) hown (mvT hZ (hw _ (List.mem_of_getElem? (i := 2) rfl))) (mvT hZ (hw _ (List.mem_of_getElem? (i := 3) rfl))) (mvT hZ (hw _ (List.mem_of_getElem? (i := 4) rfl))) (mvT hZ (hw _ (List.mem_of_getElem? (i := 5) rfl))) (by decide) (backOf (W := 2) (own_rm1 l Z aA hw [] z12 p2 h14 n0 zz19) hZ (hw _ (List.mem_of_getElem? (i := 5) rfl)) (hw _ (List.mem_of_getElem? (i := 4) rfl)) (by decide) (by decide)) (g := (mkF m 33 #[.val (.int p0), .val (.int p1), .val (.int p2), .val (.int p3), .val (.int p4), .val (.ref b1), .unset, .unset, .unset, .unset] [(.int p2), (.int z12), (.int (2 : Int32)), (.ref b1)])) rfl (by rw [hml]; rfl) (argsL := [(.int z12), (.int p2)]) (rest := [(.int (2 : Int32)), (.ref b1)]) (lenOf own_pd3 rfl) rfl (by show 2 * 0 + _ ≤ _; exact Nat.le_of_eq rfl) (hb hby at_33) (fun _ _ => ⟨rfl, e14, (by dsimp only [Pt.cells, Pt.slots]; decide +kernel), (by dsimp only [Pt.cells, Pt.slots]; decide +kernel)⟩)
  dsimp only [Pt.U, Pt.locs, Pt.cells, Pt.slots] at X18 l18 y18 z18 st18 hQ18
  rw [l18, y18, z18] at X18
  obtain ⟨rfl, N18q, ee18⟩ := hQ18
  have N20 := Fr.app N14 N18q
  obtain ⟨z21, hz21⟩ : ∃ z : Int32, (own_f1 z12 p2) = z := ⟨_, rfl⟩
  rw [hz21] at st18
  refine og_of st18 ?_
  show OG p e below _ _ (T18.setTop (mkF m 36 #[.val (.int p0), .val (.int p1), .val (.int p2), .val (.int p3), .val (.int p4), .val (.ref b1), .unset, .unset, .unset, .unset] [(.int z21), (.int (2 : Int32)), (.ref b1)]))
  clear X14 st18
  obtain ⟨clv22, Arv22, qv22, Sv22, Nv22, Hv22, Gv22⟩ := id V14
  have hin23 : ¬ ((2 : Int32) < 0 ∨ clv22.slots.size ≤ ((2 : Int32)).toNatClampNeg) := inb_of Sv22 ⟨by decide, by decide⟩
  obtain ⟨T23, h23, X23, e23, W23, st23⟩ := stI X18 hx hZ ee18 Arv22 (j := (2 : Int32)) hin23 (g := (mkF m 36 #[.val (.int p0), .val (.int p1), .val (.int p2), .val (.int p3), .val (.int p4), .val (.ref b1), .unset, .unset, .unset, .unset] [(.int z21), (.int (2 : Int32)), (.ref b1)])) rfl rfl (hb hby at_36)
  have V23 : Arv Z h23 b1 k_b1 .int (5 : Int32) [(.int z3), (.int z12), (.int z21), (.int (0 : Int32)), (.int (0 : Int32))] (.int (0 : Int32)) := Arv.set Arv22 qv22 Sv22 Nv22 Hv22 Gv22 rfl W23 2 rfl (Nat.le_of_ble_eq_true rfl)
  have N23 := Fr.snoc X23 N20 gn1
  have Kp24 : Keep h0 h23 [] := Kp15.wr W23 (Or.inr sz1)
  refine og_of st23 ?_
  show OG p e below _ _ (T23.setTop (mkF m 37 #[.val (.int p0), .val (.int p1), .val (.int p2), .val (.int p3), .val (.int p4), .val (.ref b1), .unset, .unset, .unset, .unset] []))
  clear X18 st23
  refine o_aload X23 hx rfl (hb hby at_37) rfl rfl ?_
  refine o_iconst (z := (3 : Int32)) X23 hx rfl (hb hby at_39) (by decide) ?_
  refine o_aload X23 hx rfl (hb hby at_40) rfl rfl ?_
  refine o_iconst (z := (2 : Int32)) X23 hx rfl (hb hby at_42) (by decide) ?_
  obtain ⟨clv25, Arv25, qv25, Sv25, Nv25, Hv25, Gv25⟩ := id V23
  have hin26 : ¬ ((2 : Int32) < 0 ∨ clv25.slots.size ≤ ((2 : Int32)).toNatClampNeg) := inb_of Sv25 ⟨by decide, by decide⟩
  have hat26 : clv25.slots[((2 : Int32)).toNatClampNeg]? = some (.int z21) := Hv25.at hin26 rfl
  refine og_of (X23.iaload hx (j := (2 : Int32)) (v := (.int z21)) (by rw [e23]; exact Arv25.1) (State.isArrayOf_alike hZ.alike Arv25.2.1) Arv25.2.2 hin26 hat26 (g := (mkF m 43 #[.val (.int p0), .val (.int p1), .val (.int p2), .val (.int p3), .val (.int p4), .val (.ref b1), .unset, .unset, .unset, .unset] [(.int (2 : Int32)), (.ref b1), (.int (3 : Int32)), (.ref b1)])) rfl rfl (hb hby at_43)) ?_
  show OG p e below _ _ (T23.setTop (mkF m 44 #[.val (.int p0), .val (.int p1), .val (.int p2), .val (.int p3), .val (.int p4), .val (.ref b1), .unset, .unset, .unset, .unset] [(.int z21), (.int (3 : Int32)), (.ref b1)]))
  clear hat26 hin26 Gv25 Hv25 Nv25 Sv25 qv25 Arv25 clv25
  refine o_iloadN X23 hx rfl (hb hby at_44) rfl ?_
  have zz28 := (Nat.le_trans zz19 (Keep.of_wr W23).1)
  obtain ⟨_, _, ⟨T27, L27, k27, n27⟩, -, X27, ⟨Lc27, hQ27, l27, y27, z27⟩, st27⟩ := Jvm.LawKit.callS X23 hx (y := (⟨"com/example/hermod/hermod/osp/SequenceWindowAcceptPinLaw", "next", "(II)I"⟩ : MethodName)) hown (mvT hZ (hw _ (List.mem_of_getElem? (i := 2) rfl))) (mvT hZ (hw _ (List.mem_of_getElem? (i := 3) rfl))) (mvT hZ (hw _ (List.mem_of_getElem? (i := 4) rfl))) (mvT hZ (hw _ (List.mem_of_getElem? (i := 5) rfl))) (by decide) (backOf (W := 2) (own_rm1 l Z aA hw [] z21 p3 h23 n0 zz28) hZ (hw _ (List.mem_of_getElem? (i := 5) rfl)) (hw _ (List.mem_of_getElem? (i := 4) rfl)) (by decide) (by decide)) (g := (mkF m 45 #[.val (.int p0), .val (.int p1), .val (.int p2), .val (.int p3), .val (.int p4), .val (.ref b1), .unset, .unset, .unset, .unset] [(.int p3), (.int z21), (.int (3 : Int32)), (.ref b1)])) rfl (by rw [hml]; rfl) (argsL := [(.int z21), (.int p3)]) (rest := [(.int (3 : Int32)), (.ref b1)]) (lenOf own_pd3 rfl) rfl (by show 2 * 0 + _ ≤ _; exact Nat.le_of_eq rfl) (hb hby at_45) (fun _ _ => ⟨rfl, e23, (by dsimp only [Pt.cells, Pt.slots]; decide +kernel), (by dsimp only [Pt.cells, Pt.slots]; decide +kernel)⟩)
  dsimp only [Pt.U, Pt.locs, Pt.cells, Pt.slots] at X27 l27 y27 z27 st27 hQ27
  rw [l27, y27, z27] at X27
  obtain ⟨rfl, N27q, ee27⟩ := hQ27
  have N29 := Fr.app N23 N27q
  obtain ⟨z30, hz30⟩ : ∃ z : Int32, (own_f1 z21 p3) = z := ⟨_, rfl⟩
  rw [hz30] at st27
  refine og_of st27 ?_
  show OG p e below _ _ (T27.setTop (mkF m 48 #[.val (.int p0), .val (.int p1), .val (.int p2), .val (.int p3), .val (.int p4), .val (.ref b1), .unset, .unset, .unset, .unset] [(.int z30), (.int (3 : Int32)), (.ref b1)]))
  clear X23 st27
  obtain ⟨clv31, Arv31, qv31, Sv31, Nv31, Hv31, Gv31⟩ := id V23
  have hin32 : ¬ ((3 : Int32) < 0 ∨ clv31.slots.size ≤ ((3 : Int32)).toNatClampNeg) := inb_of Sv31 ⟨by decide, by decide⟩
  obtain ⟨T32, h32, X32, e32, W32, st32⟩ := stI X27 hx hZ ee27 Arv31 (j := (3 : Int32)) hin32 (g := (mkF m 48 #[.val (.int p0), .val (.int p1), .val (.int p2), .val (.int p3), .val (.int p4), .val (.ref b1), .unset, .unset, .unset, .unset] [(.int z30), (.int (3 : Int32)), (.ref b1)])) rfl rfl (hb hby at_48)
  have V32 : Arv Z h32 b1 k_b1 .int (5 : Int32) [(.int z3), (.int z12), (.int z21), (.int z30), (.int (0 : Int32))] (.int (0 : Int32)) := Arv.set Arv31 qv31 Sv31 Nv31 Hv31 Gv31 rfl W32 3 rfl (Nat.le_of_ble_eq_true rfl)
  have N32 := Fr.snoc X32 N29 gn1
  have Kp33 : Keep h0 h32 [] := Kp24.wr W32 (Or.inr sz1)
  refine og_of st32 ?_
  show OG p e below _ _ (T32.setTop (mkF m 49 #[.val (.int p0), .val (.int p1), .val (.int p2), .val (.int p3), .val (.int p4), .val (.ref b1), .unset, .unset, .unset, .unset] []))
  clear X27 st32
  refine o_aload X32 hx rfl (hb hby at_49) rfl rfl ?_
  refine o_iconst (z := (4 : Int32)) X32 hx rfl (hb hby at_51) (by decide) ?_
  refine o_aload X32 hx rfl (hb hby at_52) rfl rfl ?_
  refine o_iconst (z := (3 : Int32)) X32 hx rfl (hb hby at_54) (by decide) ?_
  obtain ⟨clv34, Arv34, qv34, Sv34, Nv34, Hv34, Gv34⟩ := id V32
  have hin35 : ¬ ((3 : Int32) < 0 ∨ clv34.slots.size ≤ ((3 : Int32)).toNatClampNeg) := inb_of Sv34 ⟨by decide, by decide⟩
  have hat35 : clv34.slots[((3 : Int32)).toNatClampNeg]? = some (.int z30) := Hv34.at hin35 rfl
  refine og_of (X32.iaload hx (j := (3 : Int32)) (v := (.int z30)) (by rw [e32]; exact Arv34.1) (State.isArrayOf_alike hZ.alike Arv34.2.1) Arv34.2.2 hin35 hat35 (g := (mkF m 55 #[.val (.int p0), .val (.int p1), .val (.int p2), .val (.int p3), .val (.int p4), .val (.ref b1), .unset, .unset, .unset, .unset] [(.int (3 : Int32)), (.ref b1), (.int (4 : Int32)), (.ref b1)])) rfl rfl (hb hby at_55)) ?_
  show OG p e below _ _ (T32.setTop (mkF m 56 #[.val (.int p0), .val (.int p1), .val (.int p2), .val (.int p3), .val (.int p4), .val (.ref b1), .unset, .unset, .unset, .unset] [(.int z30), (.int (4 : Int32)), (.ref b1)]))
  clear hat35 hin35 Gv34 Hv34 Nv34 Sv34 qv34 Arv34 clv34
  refine o_iload X32 hx rfl (hb hby at_56) rfl ?_
  have zz37 := (Nat.le_trans zz28 (Keep.of_wr W32).1)
  obtain ⟨_, _, ⟨T36, L36, k36, n36⟩, -, X36, ⟨Lc36, hQ36, l36, y36, z36⟩, st36⟩ := Jvm.LawKit.callS X32 hx (y := (⟨"com/example/hermod/hermod/osp/SequenceWindowAcceptPinLaw", "next", "(II)I"⟩ : MethodName)) hown (mvT hZ (hw _ (List.mem_of_getElem? (i := 2) rfl))) (mvT hZ (hw _ (List.mem_of_getElem? (i := 3) rfl))) (mvT hZ (hw _ (List.mem_of_getElem? (i := 4) rfl))) (mvT hZ (hw _ (List.mem_of_getElem? (i := 5) rfl))) (by decide) (backOf (W := 2) (own_rm1 l Z aA hw [] z30 p4 h32 n0 zz37) hZ (hw _ (List.mem_of_getElem? (i := 5) rfl)) (hw _ (List.mem_of_getElem? (i := 4) rfl)) (by decide) (by decide)) (g := (mkF m 58 #[.val (.int p0), .val (.int p1), .val (.int p2), .val (.int p3), .val (.int p4), .val (.ref b1), .unset, .unset, .unset, .unset] [(.int p4), (.int z30), (.int (4 : Int32)), (.ref b1)])) rfl (by rw [hml]; rfl) (argsL := [(.int z30), (.int p4)]) (rest := [(.int (4 : Int32)), (.ref b1)]) (lenOf own_pd3 rfl) rfl (by show 2 * 0 + _ ≤ _; exact Nat.le_of_eq rfl) (hb hby at_58) (fun _ _ => ⟨rfl, e32, (by dsimp only [Pt.cells, Pt.slots]; decide +kernel), (by dsimp only [Pt.cells, Pt.slots]; decide +kernel)⟩)
  dsimp only [Pt.U, Pt.locs, Pt.cells, Pt.slots] at X36 l36 y36 z36 st36 hQ36
  rw [l36, y36, z36] at X36
  obtain ⟨rfl, N36q, ee36⟩ := hQ36
  have N38 := Fr.app N32 N36q
  obtain ⟨z39, hz39⟩ : ∃ z : Int32, (own_f1 z30 p4) = z := ⟨_, rfl⟩
  rw [hz39] at st36
  refine og_of st36 ?_
  show OG p e below _ _ (T36.setTop (mkF m 61 #[.val (.int p0), .val (.int p1), .val (.int p2), .val (.int p3), .val (.int p4), .val (.ref b1), .unset, .unset, .unset, .unset] [(.int z39), (.int (4 : Int32)), (.ref b1)]))
  clear X32 st36
  obtain ⟨clv40, Arv40, qv40, Sv40, Nv40, Hv40, Gv40⟩ := id V32
  have hin41 : ¬ ((4 : Int32) < 0 ∨ clv40.slots.size ≤ ((4 : Int32)).toNatClampNeg) := inb_of Sv40 ⟨by decide, by decide⟩
  obtain ⟨T41, h41, X41, e41, W41, st41⟩ := stI X36 hx hZ ee36 Arv40 (j := (4 : Int32)) hin41 (g := (mkF m 61 #[.val (.int p0), .val (.int p1), .val (.int p2), .val (.int p3), .val (.int p4), .val (.ref b1), .unset, .unset, .unset, .unset] [(.int z39), (.int (4 : Int32)), (.ref b1)])) rfl rfl (hb hby at_61)
  have V41 : Arv Z h41 b1 k_b1 .int (5 : Int32) [(.int z3), (.int z12), (.int z21), (.int z30), (.int z39)] (.int (0 : Int32)) := Arv.set Arv40 qv40 Sv40 Nv40 Hv40 Gv40 rfl W41 4 rfl (Nat.le_of_ble_eq_true rfl)
  have N41 := Fr.snoc X41 N38 gn1
  have Kp42 : Keep h0 h41 [] := Kp33.wr W41 (Or.inr sz1)
  refine og_of st41 ?_
  show OG p e below _ _ (T41.setTop (mkF m 62 #[.val (.int p0), .val (.int p1), .val (.int p2), .val (.int p3), .val (.int p4), .val (.ref b1), .unset, .unset, .unset, .unset] []))
  clear X36 st41
  refine o_iconst (z := (5 : Int32)) X41 hx rfl (hb hby at_62) (by decide) ?_
  obtain ⟨T43, h43, k_b43, X43, e43, E43, A43, st43⟩ := newP X41 hx hZ (hw _ (List.mem_of_getElem? (i := 0) rfl)) e41 (g := (mkF m 63 #[.val (.int p0), .val (.int p1), .val (.int p2), .val (.int p3), .val (.int p4), .val (.ref b1), .unset, .unset, .unset, .unset] [(.int (5 : Int32))])) rfl (hb hby at_63) rfl (by decide +kernel) (cap := 5) (by decide +kernel) (by decide +kernel) (by decide +kernel) (by decide +kernel)
  obtain ⟨b43, g43⟩ : ∃ z, z = h41.size := ⟨_, rfl⟩
  rw [← g43] at A43 st43
  have ne44 : b1 ≠ b43 := Nat.ne_of_lt (Nat.lt_of_lt_of_le V41.lt (Nat.le_of_eq g43.symm))
  have zz45 := (Nat.le_trans zz37 (Keep.of_wr W41).1)
  have gn43 : n0 ≤ b43 := Nat.le_trans zz45 (Nat.le_of_eq g43.symm)
  have sz43 : h0.size ≤ b43 := Nat.le_trans Kp42.1 (Nat.le_of_eq g43.symm)
  have Kp46 : Keep h0 h43 [] := Kp42.ext E43
  have V43 : Arv Z h43 b43 k_b43 .int (5 : Int32) [(.int (0 : Int32)), (.int (0 : Int32)), (.int (0 : Int32)), (.int (0 : Int32)), (.int (0 : Int32))] (.int (0 : Int32)) := (Arv.new A43 (by decide)).pad (pad_rep [] (.int (0 : Int32)) 5)
  refine og_of st43 ?_
  show OG p e below _ _ (T43.setTop (mkF m 65 #[.val (.int p0), .val (.int p1), .val (.int p2), .val (.int p3), .val (.int p4), .val (.ref b1), .unset, .unset, .unset, .unset] [(.ref b43)]))
  clear X41 st43
  refine o_dup X43 hx rfl (hb hby at_65) rfl ?_
  refine o_iconst (z := (0 : Int32)) X43 hx rfl (hb hby at_66) (by decide) ?_
  refine o_iconst (z := (-1 : Int32)) X43 hx rfl (hb hby at_67) (by decide) ?_
  obtain ⟨clv47, Arv47, qv47, Sv47, Nv47, Hv47, Gv47⟩ := id V43
  have hin48 : ¬ ((0 : Int32) < 0 ∨ clv47.slots.size ≤ ((0 : Int32)).toNatClampNeg) := inb_of Sv47 ⟨by decide, by decide⟩
  obtain ⟨T48, h48, X48, e48, W48, st48⟩ := stI X43 hx hZ e43 Arv47 (j := (0 : Int32)) hin48 (g := (mkF m 68 #[.val (.int p0), .val (.int p1), .val (.int p2), .val (.int p3), .val (.int p4), .val (.ref b1), .unset, .unset, .unset, .unset] [(.int (-1 : Int32)), (.int (0 : Int32)), (.ref b43), (.ref b43)])) rfl rfl (hb hby at_68)
  have V48 : Arv Z h48 b43 k_b43 .int (5 : Int32) [(.int (-1 : Int32)), (.int (0 : Int32)), (.int (0 : Int32)), (.int (0 : Int32)), (.int (0 : Int32))] (.int (0 : Int32)) := Arv.set Arv47 qv47 Sv47 Nv47 Hv47 Gv47 rfl W48 0 rfl (Nat.le_of_ble_eq_true rfl)
  have N48 := Fr.snoc X48 N41 gn43
  have Kp49 : Keep h0 h48 [] := Kp46.wr W48 (Or.inr sz43)
  refine og_of st48 ?_
  show OG p e below _ _ (T48.setTop (mkF m 69 #[.val (.int p0), .val (.int p1), .val (.int p2), .val (.int p3), .val (.int p4), .val (.ref b1), .unset, .unset, .unset, .unset] [(.ref b43)]))
  clear X43 st48
  refine o_dup X48 hx rfl (hb hby at_69) rfl ?_
  refine o_iconst (z := (1 : Int32)) X48 hx rfl (hb hby at_70) (by decide) ?_
  refine o_iconst (z := (-1 : Int32)) X48 hx rfl (hb hby at_71) (by decide) ?_
  obtain ⟨clv50, Arv50, qv50, Sv50, Nv50, Hv50, Gv50⟩ := id V48
  have hin51 : ¬ ((1 : Int32) < 0 ∨ clv50.slots.size ≤ ((1 : Int32)).toNatClampNeg) := inb_of Sv50 ⟨by decide, by decide⟩
  obtain ⟨T51, h51, X51, e51, W51, st51⟩ := stI X48 hx hZ e48 Arv50 (j := (1 : Int32)) hin51 (g := (mkF m 72 #[.val (.int p0), .val (.int p1), .val (.int p2), .val (.int p3), .val (.int p4), .val (.ref b1), .unset, .unset, .unset, .unset] [(.int (-1 : Int32)), (.int (1 : Int32)), (.ref b43), (.ref b43)])) rfl rfl (hb hby at_72)
  have V51 : Arv Z h51 b43 k_b43 .int (5 : Int32) [(.int (-1 : Int32)), (.int (-1 : Int32)), (.int (0 : Int32)), (.int (0 : Int32)), (.int (0 : Int32))] (.int (0 : Int32)) := Arv.set Arv50 qv50 Sv50 Nv50 Hv50 Gv50 rfl W51 1 rfl (Nat.le_of_ble_eq_true rfl)
  have N51 := Fr.snoc X51 N48 gn43
  have Kp52 : Keep h0 h51 [] := Kp49.wr W51 (Or.inr sz43)
  refine og_of st51 ?_
  show OG p e below _ _ (T51.setTop (mkF m 73 #[.val (.int p0), .val (.int p1), .val (.int p2), .val (.int p3), .val (.int p4), .val (.ref b1), .unset, .unset, .unset, .unset] [(.ref b43)]))
  clear X48 st51
  refine o_dup X51 hx rfl (hb hby at_73) rfl ?_
  refine o_iconst (z := (2 : Int32)) X51 hx rfl (hb hby at_74) (by decide) ?_
  refine o_iconst (z := (-1 : Int32)) X51 hx rfl (hb hby at_75) (by decide) ?_
  obtain ⟨clv53, Arv53, qv53, Sv53, Nv53, Hv53, Gv53⟩ := id V51
  have hin54 : ¬ ((2 : Int32) < 0 ∨ clv53.slots.size ≤ ((2 : Int32)).toNatClampNeg) := inb_of Sv53 ⟨by decide, by decide⟩
  obtain ⟨T54, h54, X54, e54, W54, st54⟩ := stI X51 hx hZ e51 Arv53 (j := (2 : Int32)) hin54 (g := (mkF m 76 #[.val (.int p0), .val (.int p1), .val (.int p2), .val (.int p3), .val (.int p4), .val (.ref b1), .unset, .unset, .unset, .unset] [(.int (-1 : Int32)), (.int (2 : Int32)), (.ref b43), (.ref b43)])) rfl rfl (hb hby at_76)
  have V54 : Arv Z h54 b43 k_b43 .int (5 : Int32) [(.int (-1 : Int32)), (.int (-1 : Int32)), (.int (-1 : Int32)), (.int (0 : Int32)), (.int (0 : Int32))] (.int (0 : Int32)) := Arv.set Arv53 qv53 Sv53 Nv53 Hv53 Gv53 rfl W54 2 rfl (Nat.le_of_ble_eq_true rfl)
  have N54 := Fr.snoc X54 N51 gn43
  have Kp55 : Keep h0 h54 [] := Kp52.wr W54 (Or.inr sz43)
  refine og_of st54 ?_
  show OG p e below _ _ (T54.setTop (mkF m 77 #[.val (.int p0), .val (.int p1), .val (.int p2), .val (.int p3), .val (.int p4), .val (.ref b1), .unset, .unset, .unset, .unset] [(.ref b43)]))
  clear X51 st54
  refine o_dup X54 hx rfl (hb hby at_77) rfl ?_
  refine o_iconst (z := (3 : Int32)) X54 hx rfl (hb hby at_78) (by decide) ?_
  refine o_iconst (z := (-1 : Int32)) X54 hx rfl (hb hby at_79) (by decide) ?_
  obtain ⟨clv56, Arv56, qv56, Sv56, Nv56, Hv56, Gv56⟩ := id V54
  have hin57 : ¬ ((3 : Int32) < 0 ∨ clv56.slots.size ≤ ((3 : Int32)).toNatClampNeg) := inb_of Sv56 ⟨by decide, by decide⟩
  obtain ⟨T57, h57, X57, e57, W57, st57⟩ := stI X54 hx hZ e54 Arv56 (j := (3 : Int32)) hin57 (g := (mkF m 80 #[.val (.int p0), .val (.int p1), .val (.int p2), .val (.int p3), .val (.int p4), .val (.ref b1), .unset, .unset, .unset, .unset] [(.int (-1 : Int32)), (.int (3 : Int32)), (.ref b43), (.ref b43)])) rfl rfl (hb hby at_80)
  have V57 : Arv Z h57 b43 k_b43 .int (5 : Int32) [(.int (-1 : Int32)), (.int (-1 : Int32)), (.int (-1 : Int32)), (.int (-1 : Int32)), (.int (0 : Int32))] (.int (0 : Int32)) := Arv.set Arv56 qv56 Sv56 Nv56 Hv56 Gv56 rfl W57 3 rfl (Nat.le_of_ble_eq_true rfl)
  have N57 := Fr.snoc X57 N54 gn43
  have Kp58 : Keep h0 h57 [] := Kp55.wr W57 (Or.inr sz43)
  refine og_of st57 ?_
  show OG p e below _ _ (T57.setTop (mkF m 81 #[.val (.int p0), .val (.int p1), .val (.int p2), .val (.int p3), .val (.int p4), .val (.ref b1), .unset, .unset, .unset, .unset] [(.ref b43)]))
  clear X54 st57
  refine o_dup X57 hx rfl (hb hby at_81) rfl ?_
  refine o_iconst (z := (4 : Int32)) X57 hx rfl (hb hby at_82) (by decide) ?_
  refine o_iconst (z := (-1 : Int32)) X57 hx rfl (hb hby at_83) (by decide) ?_
  obtain ⟨clv59, Arv59, qv59, Sv59, Nv59, Hv59, Gv59⟩ := id V57
  have hin60 : ¬ ((4 : Int32) < 0 ∨ clv59.slots.size ≤ ((4 : Int32)).toNatClampNeg) := inb_of Sv59 ⟨by decide, by decide⟩
  obtain ⟨T60, h60, X60, e60, W60, st60⟩ := stI X57 hx hZ e57 Arv59 (j := (4 : Int32)) hin60 (g := (mkF m 84 #[.val (.int p0), .val (.int p1), .val (.int p2), .val (.int p3), .val (.int p4), .val (.ref b1), .unset, .unset, .unset, .unset] [(.int (-1 : Int32)), (.int (4 : Int32)), (.ref b43), (.ref b43)])) rfl rfl (hb hby at_84)
  have V60 : Arv Z h60 b43 k_b43 .int (5 : Int32) [(.int (-1 : Int32)), (.int (-1 : Int32)), (.int (-1 : Int32)), (.int (-1 : Int32)), (.int (-1 : Int32))] (.int (0 : Int32)) := Arv.set Arv59 qv59 Sv59 Nv59 Hv59 Gv59 rfl W60 4 rfl (Nat.le_of_ble_eq_true rfl)
  have N60 := Fr.snoc X60 N57 gn43
  have Kp61 : Keep h0 h60 [] := Kp58.wr W60 (Or.inr sz43)
  refine og_of st60 ?_
  show OG p e below _ _ (T60.setTop (mkF m 85 #[.val (.int p0), .val (.int p1), .val (.int p2), .val (.int p3), .val (.int p4), .val (.ref b1), .unset, .unset, .unset, .unset] [(.ref b43)]))
  clear X57 st60
  refine o_astore X60 hx rfl (hb hby at_85) rfl (L' := #[.val (.int p0), .val (.int p1), .val (.int p2), .val (.int p3), .val (.int p4), .val (.ref b1), .val (.ref b43), .unset, .unset, .unset]) rfl ?_
  refine o_iconst (z := (1 : Int32)) X60 hx rfl (hb hby at_87) (by decide) ?_
  obtain ⟨T62, h62, k_b62, X62, e62, E62, A62, st62⟩ := newP X60 hx hZ (hw _ (List.mem_of_getElem? (i := 0) rfl)) e60 (g := (mkF m 88 #[.val (.int p0), .val (.int p1), .val (.int p2), .val (.int p3), .val (.int p4), .val (.ref b1), .val (.ref b43), .unset, .unset, .unset] [(.int (1 : Int32))])) rfl (hb hby at_88) rfl (by decide +kernel) (cap := 1) (by decide +kernel) (by decide +kernel) (by decide +kernel) (by decide +kernel)
  obtain ⟨b62, g62⟩ : ∃ z, z = h60.size := ⟨_, rfl⟩
  rw [← g62] at A62 st62
  have Fc63 : Arv Z h60 b1 k_b1 .int (5 : Int32) [(.int z3), (.int z12), (.int z21), (.int z30), (.int z39)] (.int (0 : Int32)) := ((((((V41.ext E43).other W48 ne44).other W51 ne44).other W54 ne44).other W57 ne44).other W60 ne44)
  have ne64 : b1 ≠ b62 := Nat.ne_of_lt (Nat.lt_of_lt_of_le Fc63.lt (Nat.le_of_eq g62.symm))
  have ne65 : b43 ≠ b62 := Nat.ne_of_lt (Nat.lt_of_lt_of_le V60.lt (Nat.le_of_eq g62.symm))
  have zz66 := (Nat.le_trans (Nat.le_trans (Nat.le_trans (Nat.le_trans (Nat.le_trans (Nat.le_trans zz45 E43.1) (Keep.of_wr W48).1) (Keep.of_wr W51).1) (Keep.of_wr W54).1) (Keep.of_wr W57).1) (Keep.of_wr W60).1)
  have gn62 : n0 ≤ b62 := Nat.le_trans zz66 (Nat.le_of_eq g62.symm)
  have sz62 : h0.size ≤ b62 := Nat.le_trans Kp61.1 (Nat.le_of_eq g62.symm)
  have Kp67 : Keep h0 h62 [] := Kp61.ext E62
  have V62 : Arv Z h62 b62 k_b62 .int (1 : Int32) [(.int (0 : Int32))] (.int (0 : Int32)) := (Arv.new A62 (by decide)).pad (pad_rep [] (.int (0 : Int32)) 1)
  refine og_of st62 ?_
  show OG p e below _ _ (T62.setTop (mkF m 90 #[.val (.int p0), .val (.int p1), .val (.int p2), .val (.int p3), .val (.int p4), .val (.ref b1), .val (.ref b43), .unset, .unset, .unset] [(.ref b62)]))
  clear X60 st62
  refine o_dup X62 hx rfl (hb hby at_90) rfl ?_
  refine o_iconst (z := (0 : Int32)) X62 hx rfl (hb hby at_91) (by decide) ?_
  refine o_iconst (z := (-1 : Int32)) X62 hx rfl (hb hby at_92) (by decide) ?_
  obtain ⟨clv68, Arv68, qv68, Sv68, Nv68, Hv68, Gv68⟩ := id V62
  have hin69 : ¬ ((0 : Int32) < 0 ∨ clv68.slots.size ≤ ((0 : Int32)).toNatClampNeg) := inb_of Sv68 ⟨by decide, by decide⟩
  obtain ⟨T69, h69, X69, e69, W69, st69⟩ := stI X62 hx hZ e62 Arv68 (j := (0 : Int32)) hin69 (g := (mkF m 93 #[.val (.int p0), .val (.int p1), .val (.int p2), .val (.int p3), .val (.int p4), .val (.ref b1), .val (.ref b43), .unset, .unset, .unset] [(.int (-1 : Int32)), (.int (0 : Int32)), (.ref b62), (.ref b62)])) rfl rfl (hb hby at_93)
  have V69 : Arv Z h69 b62 k_b62 .int (1 : Int32) [(.int (-1 : Int32))] (.int (0 : Int32)) := Arv.set Arv68 qv68 Sv68 Nv68 Hv68 Gv68 rfl W69 0 rfl (Nat.le_of_ble_eq_true rfl)
  have N69 := Fr.snoc X69 N60 gn62
  have Kp70 : Keep h0 h69 [] := Kp67.wr W69 (Or.inr sz62)
  refine og_of st69 ?_
  show OG p e below _ _ (T69.setTop (mkF m 94 #[.val (.int p0), .val (.int p1), .val (.int p2), .val (.int p3), .val (.int p4), .val (.ref b1), .val (.ref b43), .unset, .unset, .unset] [(.ref b62)]))
  clear X62 st69
  refine o_astore X69 hx rfl (hb hby at_94) rfl (L' := #[.val (.int p0), .val (.int p1), .val (.int p2), .val (.int p3), .val (.int p4), .val (.ref b1), .val (.ref b43), .val (.ref b62), .unset, .unset]) rfl ?_
  obtain ⟨T71, h71, X71, e71, E71, A71, D71, -, st71⟩ := newO X69 hx hZ hown (hw _ (List.mem_of_getElem? (i := 6) rfl)) (hw _ (List.mem_of_getElem? (i := 7) rfl)) (hw _ (List.mem_of_getElem? (i := 8) rfl)) e69 (g := (mkF m 96 #[.val (.int p0), .val (.int p1), .val (.int p2), .val (.int p3), .val (.int p4), .val (.ref b1), .val (.ref b43), .val (.ref b62), .unset, .unset] [])) rfl (hb hby at_96) (by decide +kernel) (by decide +kernel)
  obtain ⟨b71, g71⟩ : ∃ z, z = h69.size := ⟨_, rfl⟩
  rw [← g71] at A71 D71 st71
  have Fc72 : Arv Z h69 b1 k_b1 .int (5 : Int32) [(.int z3), (.int z12), (.int z21), (.int z30), (.int z39)] (.int (0 : Int32)) := ((Fc63.ext E62).other W69 ne64)
  have ne73 : b1 ≠ b71 := Nat.ne_of_lt (Nat.lt_of_lt_of_le Fc72.lt (Nat.le_of_eq g71.symm))
  have Fc74 : Arv Z h69 b43 k_b43 .int (5 : Int32) [(.int (-1 : Int32)), (.int (-1 : Int32)), (.int (-1 : Int32)), (.int (-1 : Int32)), (.int (-1 : Int32))] (.int (0 : Int32)) := ((V60.ext E62).other W69 ne65)
  have ne75 : b43 ≠ b71 := Nat.ne_of_lt (Nat.lt_of_lt_of_le Fc74.lt (Nat.le_of_eq g71.symm))
  have ne76 : b62 ≠ b71 := Nat.ne_of_lt (Nat.lt_of_lt_of_le V69.lt (Nat.le_of_eq g71.symm))
  have zz77 := (Nat.le_trans (Nat.le_trans zz66 E62.1) (Keep.of_wr W69).1)
  have gn71 : n0 ≤ b71 := Nat.le_trans zz77 (Nat.le_of_eq g71.symm)
  have sz71 : h0.size ≤ b71 := Nat.le_trans Kp70.1 (Nat.le_of_eq g71.symm)
  have Kp78 : Keep h0 h71 [] := Kp70.ext E71
  have F71_16 : Fld Z h71 b71 "com/example/hermod/hermod/osp/SequenceWindow" "m_nHighest" "I" (.int (0 : Int32)) := D71 (Or.inl (hw _ (List.mem_of_getElem? (i := 16) rfl))) (ty := .int) (by decide)
  have F71_29 : Fld Z h71 b71 "com/example/hermod/hermod/osp/SequenceWindow" "m_nAccepted" "J" (.long (0 : Int64)) := D71 (Or.inl (hw _ (List.mem_of_getElem? (i := 29) rfl))) (ty := .long) (by decide)
  refine og_of st71 ?_
  show OG p e below _ _ (T71.setTop (mkF m 99 #[.val (.int p0), .val (.int p1), .val (.int p2), .val (.int p3), .val (.int p4), .val (.ref b1), .val (.ref b43), .val (.ref b62), .unset, .unset] [(.ref b71)]))
  clear X69 st71
  refine o_dup X71 hx rfl (hb hby at_99) rfl ?_
  have zz80 := (Nat.le_trans zz77 E71.1)
  obtain ⟨_, _, ⟨T79, L79, k79, n79⟩, -, X79, ⟨Lc79, hQ79, l79, y79, z79⟩, st79⟩ := X71.specialBack hx (y := (⟨"com/example/hermod/hermod/osp/SequenceWindow", "<init>", "()V"⟩ : MethodName)) rfl hown (mvT hZ (hw _ (List.mem_of_getElem? (i := 9) rfl))) (mvT hZ (hw _ (List.mem_of_getElem? (i := 10) rfl))) (mvT hZ (hw _ (List.mem_of_getElem? (i := 11) rfl))) (by decide) (backOf (W := 1) (own_rm2 l Z aA hw [] b71 h71 n0 zz80 A71 gn71 F71_16 F71_29) hZ (hw _ (List.mem_of_getElem? (i := 11) rfl)) (hw _ (List.mem_of_getElem? (i := 8) rfl)) (by decide) (by decide)) (g := (mkF m 100 #[.val (.int p0), .val (.int p1), .val (.int p2), .val (.int p3), .val (.int p4), .val (.ref b1), .val (.ref b43), .val (.ref b62), .unset, .unset] [(.ref b71), (.ref b71)])) rfl (by rw [hml]; rfl) (Steps.refl _) (a := b71) (argsL := []) (rest := [(.ref b71)]) (lenOf own_pd4 rfl) rfl (by show 2 * 0 + _ ≤ _; exact Nat.le_of_eq rfl) (hb hby at_100) (fun _ _ => ⟨rfl, e71, (by dsimp only [Pt.cells, Pt.slots]; decide +kernel), (by dsimp only [Pt.cells, Pt.slots]; decide +kernel)⟩)
  dsimp only [Pt.U, Pt.locs, Pt.cells, Pt.slots] at X79 l79 y79 z79 st79 hQ79
  rw [l79, y79, z79] at X79
  obtain ⟨rfl, N79q, K79, f79_0, f79_1⟩ := hQ79
  have N81 := Fr.app N69 N79q
  have Kp82 : Keep h0 T79.heap [] := Kp78.trans K79 (allS (Or.inr sz71) all0)
  refine og_tr st79 ?_
  show OG p e below _ _ (T79.setTop (mkF m 103 #[.val (.int p0), .val (.int p1), .val (.int p2), .val (.int p3), .val (.int p4), .val (.ref b1), .val (.ref b43), .val (.ref b62), .unset, .unset] [(.ref b71)]))
  clear X71 st79
  refine o_astore X79 hx rfl (hb hby at_103) rfl (L' := #[.val (.int p0), .val (.int p1), .val (.int p2), .val (.int p3), .val (.int p4), .val (.ref b1), .val (.ref b43), .val (.ref b62), .val (.ref b71), .unset]) rfl ?_
  refine o_iconst (z := (1 : Int32)) X79 hx rfl (hb hby at_105) (by decide) ?_
  refine o_istore X79 hx rfl (hb hby at_106) (L' := #[.val (.int p0), .val (.int p1), .val (.int p2), .val (.int p3), .val (.int p4), .val (.ref b1), .val (.ref b43), .val (.ref b62), .val (.ref b71), .val (.int (1 : Int32))]) rfl ?_
  refine o_aload X79 hx rfl (hb hby at_108) rfl rfl ?_
  refine o_aload X79 hx rfl (hb hby at_110) rfl rfl ?_
  refine o_iconst (z := (0 : Int32)) X79 hx rfl (hb hby at_112) (by decide) ?_
  have Fc83 : Arv Z T79.heap b1 k_b1 .int (5 : Int32) [(.int z3), (.int z12), (.int z21), (.int z30), (.int z39)] (.int (0 : Int32)) := ((Fc72.ext E71).keep K79 (ninS ne73 nin0))
  obtain ⟨clv84, Arv84, qv84, Sv84, Nv84, Hv84, Gv84⟩ := id Fc83
  have hin85 : ¬ ((0 : Int32) < 0 ∨ clv84.slots.size ≤ ((0 : Int32)).toNatClampNeg) := inb_of Sv84 ⟨by decide, by decide⟩
  have hat85 : clv84.slots[((0 : Int32)).toNatClampNeg]? = some (.int z3) := Hv84.at hin85 rfl
  refine og_of (X79.iaload hx (j := (0 : Int32)) (v := (.int z3)) (by exact Arv84.1) (State.isArrayOf_alike hZ.alike Arv84.2.1) Arv84.2.2 hin85 hat85 (g := (mkF m 113 #[.val (.int p0), .val (.int p1), .val (.int p2), .val (.int p3), .val (.int p4), .val (.ref b1), .val (.ref b43), .val (.ref b62), .val (.ref b71), .val (.int (1 : Int32))] [(.int (0 : Int32)), (.ref b1), (.ref b71)])) rfl rfl (hb hby at_113)) ?_
  show OG p e below _ _ (T79.setTop (mkF m 114 #[.val (.int p0), .val (.int p1), .val (.int p2), .val (.int p3), .val (.int p4), .val (.ref b1), .val (.ref b43), .val (.ref b62), .val (.ref b71), .val (.int (1 : Int32))] [(.int z3), (.ref b71)]))
  clear hat85 hin85 Gv84 Hv84 Nv84 Sv84 qv84 Arv84 clv84
  refine o_iconst (z := (0 : Int32)) X79 hx rfl (hb hby at_114) (by decide) ?_
  refine o_aload X79 hx rfl (hb hby at_115) rfl rfl ?_
  refine o_aload X79 hx rfl (hb hby at_117) rfl rfl ?_
  have hx0 : 0 ≤ z3.toInt ∧ z3.toInt ≤ 65535 := by rw [← hz3]; exact own_x0 _
  have hI0 : own_I (-1 : Int32) (0 : Int64) (-1 : Int32) (-1 : Int32) (-1 : Int32) (-1 : Int32) (-1 : Int32) (-1 : Int32) := own_I0
  have Fc87 : Exa Z T79.heap b71 "com/example/hermod/hermod/osp/SequenceWindow" := (A71.keep K79)
  have Fc88 : Arv Z T79.heap b43 k_b43 .int (5 : Int32) [(.int (-1 : Int32)), (.int (-1 : Int32)), (.int (-1 : Int32)), (.int (-1 : Int32)), (.int (-1 : Int32))] (.int (0 : Int32)) := ((Fc74.ext E71).keep K79 (ninS ne75 nin0))
  have Fc89 : Arv Z T79.heap b62 k_b62 .int (1 : Int32) [(.int (-1 : Int32))] (.int (0 : Int32)) := ((V69.ext E71).keep K79 (ninS ne76 nin0))
  have zz90 := (Nat.le_trans zz80 K79.1)
  obtain ⟨_, _, ⟨T86, L86, k86, n86⟩, -, X86, ⟨Lc86, hQ86, l86, y86, z86⟩, st86⟩ := Jvm.LawKit.callS X79 hx (y := (⟨"com/example/hermod/hermod/osp/SequenceWindowAcceptPinLaw", "step", "(Lcom/example/hermod/hermod/osp/SequenceWindow;II[I[I)Z"⟩ : MethodName)) hown (mvT hZ (hw _ (List.mem_of_getElem? (i := 17) rfl))) (mvT hZ (hw _ (List.mem_of_getElem? (i := 18) rfl))) (mvT hZ (hw _ (List.mem_of_getElem? (i := 4) rfl))) (mvT hZ (hw _ (List.mem_of_getElem? (i := 19) rfl))) (by decide) (backOf (W := 0) (own_rmS0 l Z aA hw [] b71 z3 b43 b62 (-1 : Int32) (0 : Int64) (-1 : Int32) (-1 : Int32) (-1 : Int32) (-1 : Int32) (-1 : Int32) (-1 : Int32) k_b43 k_b62 T79.heap n0 zz90 Fc87 gn71 f79_0 f79_1 Fc88 Fc89 gn43 gn62 (Ne.symm ne75) (Ne.symm ne76) ne65) hZ (hw _ (List.mem_of_getElem? (i := 19) rfl)) (hw _ (List.mem_of_getElem? (i := 4) rfl)) (by decide) (by decide)) (g := (mkF m 119 #[.val (.int p0), .val (.int p1), .val (.int p2), .val (.int p3), .val (.int p4), .val (.ref b1), .val (.ref b43), .val (.ref b62), .val (.ref b71), .val (.int (1 : Int32))] [(.ref b62), (.ref b43), (.int (0 : Int32)), (.int z3), (.ref b71)])) rfl (by rw [hml]; rfl) (argsL := [(.ref b71), (.int z3), (.int (0 : Int32)), (.ref b43), (.ref b62)]) (rest := []) (lenOf own_pd5 rfl) rfl (by show 2 * 0 + _ ≤ _; exact Nat.le_of_eq rfl) (hb hby at_119) (fun _ _ => ⟨rfl, rfl, (by dsimp only [Pt.cells, Pt.slots]; decide +kernel), (by dsimp only [Pt.cells, Pt.slots]; decide +kernel)⟩)
  dsimp only [Pt.U, Pt.locs, Pt.cells, Pt.slots] at X86 l86 y86 z86 st86 hQ86
  rw [l86, y86, z86] at X86
  obtain ⟨rfl, N86q, K86, f86_0, f86_1, f86_2, f86_3⟩ := hQ86
  have N91 := Fr.app N81 N86q
  have Kp92 : Keep h0 T86.heap [] := Kp82.trans K86 (allS (Or.inr sz71) (allS (Or.inr sz43) (allS (Or.inr sz62) all0)))
  obtain ⟨z93, hz93⟩ : ∃ z : Int32, (own_f6_H b71 z3 (-1 : Int32) (0 : Int64)) = z := ⟨_, rfl⟩
  rw [hz93] at f86_0
  obtain ⟨z94, hz94⟩ : ∃ z : Int64, (own_f6_A b71 z3 (-1 : Int32) (0 : Int64)) = z := ⟨_, rfl⟩
  rw [hz94] at f86_1
  obtain ⟨z95, hz95⟩ : ∃ z : Int32, (own_fS0_C b71 z3 b43 b62 (-1 : Int32) (0 : Int64) (-1 : Int32) (-1 : Int32) (-1 : Int32) (-1 : Int32) (-1 : Int32) (-1 : Int32) k_b43 k_b62) = z := ⟨_, rfl⟩
  rw [hz95] at f86_2
  obtain ⟨z96, hz96⟩ : ∃ z : Int32, (own_fS0_N b71 z3 b43 b62 (-1 : Int32) (0 : Int64) (-1 : Int32) (-1 : Int32) (-1 : Int32) (-1 : Int32) (-1 : Int32) (-1 : Int32) k_b43 k_b62) = z := ⟨_, rfl⟩
  rw [hz96] at f86_3
  obtain ⟨z97, hz97⟩ : ∃ z : Int32, (own_fS0 b71 z3 b43 b62 (-1 : Int32) (0 : Int64) (-1 : Int32) (-1 : Int32) (-1 : Int32) (-1 : Int32) (-1 : Int32) (-1 : Int32) k_b43 k_b62) = z := ⟨_, rfl⟩
  rw [hz97] at st86
  refine og_of st86 ?_
  show OG p e below _ _ (T86.setTop (mkF m 122 #[.val (.int p0), .val (.int p1), .val (.int p2), .val (.int p3), .val (.int p4), .val (.ref b1), .val (.ref b43), .val (.ref b62), .val (.ref b71), .val (.int (1 : Int32))] [(.int z97)]))
  clear X79 st86
  have hI1 : z97 = 1 ∧ own_I z93 z94 z95 (-1 : Int32) (-1 : Int32) (-1 : Int32) (-1 : Int32) z96 := by
    subst hz93 hz94 hz95 hz96 hz97
    exact own_S0 hI0 hx0
  have hk98 : ¬ (z97 = (0 : Int32)) := by rw [hI1.1]; decide
  refine o_ifY (pc' := 128) X86 hx (hb hby at_122) ((if0 _ _).trans (feq hk98).2) (by decide) (by decide) ?_
  refine o_aload X86 hx rfl (hb hby at_128) rfl rfl ?_
  refine o_aload X86 hx rfl (hb hby at_130) rfl rfl ?_
  refine o_iconst (z := (1 : Int32)) X86 hx rfl (hb hby at_132) (by decide) ?_
  have Fc99 : Arv Z T86.heap b1 k_b1 .int (5 : Int32) [(.int z3), (.int z12), (.int z21), (.int z30), (.int z39)] (.int (0 : Int32)) := (Fc83.keep K86 (ninS ne73 (ninS ne44 (ninS ne64 nin0))))
  obtain ⟨clv100, Arv100, qv100, Sv100, Nv100, Hv100, Gv100⟩ := id Fc99
  have hin101 : ¬ ((1 : Int32) < 0 ∨ clv100.slots.size ≤ ((1 : Int32)).toNatClampNeg) := inb_of Sv100 ⟨by decide, by decide⟩
  have hat101 : clv100.slots[((1 : Int32)).toNatClampNeg]? = some (.int z12) := Hv100.at hin101 rfl
  refine og_of (X86.iaload hx (j := (1 : Int32)) (v := (.int z12)) (by exact Arv100.1) (State.isArrayOf_alike hZ.alike Arv100.2.1) Arv100.2.2 hin101 hat101 (g := (mkF m 133 #[.val (.int p0), .val (.int p1), .val (.int p2), .val (.int p3), .val (.int p4), .val (.ref b1), .val (.ref b43), .val (.ref b62), .val (.ref b71), .val (.int (1 : Int32))] [(.int (1 : Int32)), (.ref b1), (.ref b71)])) rfl rfl (hb hby at_133)) ?_
  show OG p e below _ _ (T86.setTop (mkF m 134 #[.val (.int p0), .val (.int p1), .val (.int p2), .val (.int p3), .val (.int p4), .val (.ref b1), .val (.ref b43), .val (.ref b62), .val (.ref b71), .val (.int (1 : Int32))] [(.int z12), (.ref b71)]))
  clear hat101 hin101 Gv100 Hv100 Nv100 Sv100 qv100 Arv100 clv100
  refine o_iconst (z := (1 : Int32)) X86 hx rfl (hb hby at_134) (by decide) ?_
  refine o_aload X86 hx rfl (hb hby at_135) rfl rfl ?_
  refine o_aload X86 hx rfl (hb hby at_137) rfl rfl ?_
  have hx1 : 0 ≤ z12.toInt ∧ z12.toInt ≤ 65535 := by rw [← hz12]; exact own_xn _ _
  have Fc103 : Exa Z T86.heap b71 "com/example/hermod/hermod/osp/SequenceWindow" := (Fc87.keep K86)
  have zz104 := (Nat.le_trans zz90 K86.1)
  obtain ⟨_, _, ⟨T102, L102, k102, n102⟩, -, X102, ⟨Lc102, hQ102, l102, y102, z102⟩, st102⟩ := Jvm.LawKit.callS X86 hx (y := (⟨"com/example/hermod/hermod/osp/SequenceWindowAcceptPinLaw", "step", "(Lcom/example/hermod/hermod/osp/SequenceWindow;II[I[I)Z"⟩ : MethodName)) hown (mvT hZ (hw _ (List.mem_of_getElem? (i := 17) rfl))) (mvT hZ (hw _ (List.mem_of_getElem? (i := 18) rfl))) (mvT hZ (hw _ (List.mem_of_getElem? (i := 4) rfl))) (mvT hZ (hw _ (List.mem_of_getElem? (i := 19) rfl))) (by decide) (backOf (W := 0) (own_rmS1 l Z aA hw [] b71 z12 b43 b62 z93 z94 z95 (-1 : Int32) (-1 : Int32) (-1 : Int32) (-1 : Int32) z96 k_b43 k_b62 T86.heap n0 zz104 Fc103 gn71 f86_0 f86_1 f86_2 f86_3 gn43 gn62 (Ne.symm ne75) (Ne.symm ne76) ne65) hZ (hw _ (List.mem_of_getElem? (i := 19) rfl)) (hw _ (List.mem_of_getElem? (i := 4) rfl)) (by decide) (by decide)) (g := (mkF m 139 #[.val (.int p0), .val (.int p1), .val (.int p2), .val (.int p3), .val (.int p4), .val (.ref b1), .val (.ref b43), .val (.ref b62), .val (.ref b71), .val (.int (1 : Int32))] [(.ref b62), (.ref b43), (.int (1 : Int32)), (.int z12), (.ref b71)])) rfl (by rw [hml]; rfl) (argsL := [(.ref b71), (.int z12), (.int (1 : Int32)), (.ref b43), (.ref b62)]) (rest := []) (lenOf own_pd5 rfl) rfl (by show 2 * 0 + _ ≤ _; exact Nat.le_of_eq rfl) (hb hby at_139) (fun _ _ => ⟨rfl, rfl, (by dsimp only [Pt.cells, Pt.slots]; decide +kernel), (by dsimp only [Pt.cells, Pt.slots]; decide +kernel)⟩)
  dsimp only [Pt.U, Pt.locs, Pt.cells, Pt.slots] at X102 l102 y102 z102 st102 hQ102
  rw [l102, y102, z102] at X102
  obtain ⟨rfl, N102q, K102, f102_0, f102_1, f102_2, f102_3⟩ := hQ102
  have N105 := Fr.app N91 N102q
  have Kp106 : Keep h0 T102.heap [] := Kp92.trans K102 (allS (Or.inr sz71) (allS (Or.inr sz43) (allS (Or.inr sz62) all0)))
  obtain ⟨z107, hz107⟩ : ∃ z : Int32, (own_f6_H b71 z12 z93 z94) = z := ⟨_, rfl⟩
  rw [hz107] at f102_0
  obtain ⟨z108, hz108⟩ : ∃ z : Int64, (own_f6_A b71 z12 z93 z94) = z := ⟨_, rfl⟩
  rw [hz108] at f102_1
  obtain ⟨z109, hz109⟩ : ∃ z : Int32, (own_fS1_C b71 z12 b43 b62 z93 z94 z95 (-1 : Int32) (-1 : Int32) (-1 : Int32) (-1 : Int32) z96 k_b43 k_b62) = z := ⟨_, rfl⟩
  rw [hz109] at f102_2
  obtain ⟨z110, hz110⟩ : ∃ z : Int32, (own_fS1_N b71 z12 b43 b62 z93 z94 z95 (-1 : Int32) (-1 : Int32) (-1 : Int32) (-1 : Int32) z96 k_b43 k_b62) = z := ⟨_, rfl⟩
  rw [hz110] at f102_3
  obtain ⟨z111, hz111⟩ : ∃ z : Int32, (own_fS1 b71 z12 b43 b62 z93 z94 z95 (-1 : Int32) (-1 : Int32) (-1 : Int32) (-1 : Int32) z96 k_b43 k_b62) = z := ⟨_, rfl⟩
  rw [hz111] at st102
  refine og_of st102 ?_
  show OG p e below _ _ (T102.setTop (mkF m 142 #[.val (.int p0), .val (.int p1), .val (.int p2), .val (.int p3), .val (.int p4), .val (.ref b1), .val (.ref b43), .val (.ref b62), .val (.ref b71), .val (.int (1 : Int32))] [(.int z111)]))
  clear X86 st102
  have hI2 : z111 = 1 ∧ own_I z107 z108 z95 z109 (-1 : Int32) (-1 : Int32) (-1 : Int32) z110 := by
    subst hz107 hz108 hz109 hz110 hz111
    exact own_S1 hI1.2 hx1
  have hk112 : ¬ (z111 = (0 : Int32)) := by rw [hI2.1]; decide
  refine o_ifY (pc' := 148) X102 hx (hb hby at_142) ((if0 _ _).trans (feq hk112).2) (by decide) (by decide) ?_
  refine o_aload X102 hx rfl (hb hby at_148) rfl rfl ?_
  refine o_aload X102 hx rfl (hb hby at_150) rfl rfl ?_
  refine o_iconst (z := (2 : Int32)) X102 hx rfl (hb hby at_152) (by decide) ?_
  have Fc113 : Arv Z T102.heap b1 k_b1 .int (5 : Int32) [(.int z3), (.int z12), (.int z21), (.int z30), (.int z39)] (.int (0 : Int32)) := (Fc99.keep K102 (ninS ne73 (ninS ne44 (ninS ne64 nin0))))
  obtain ⟨clv114, Arv114, qv114, Sv114, Nv114, Hv114, Gv114⟩ := id Fc113
  have hin115 : ¬ ((2 : Int32) < 0 ∨ clv114.slots.size ≤ ((2 : Int32)).toNatClampNeg) := inb_of Sv114 ⟨by decide, by decide⟩
  have hat115 : clv114.slots[((2 : Int32)).toNatClampNeg]? = some (.int z21) := Hv114.at hin115 rfl
  refine og_of (X102.iaload hx (j := (2 : Int32)) (v := (.int z21)) (by exact Arv114.1) (State.isArrayOf_alike hZ.alike Arv114.2.1) Arv114.2.2 hin115 hat115 (g := (mkF m 153 #[.val (.int p0), .val (.int p1), .val (.int p2), .val (.int p3), .val (.int p4), .val (.ref b1), .val (.ref b43), .val (.ref b62), .val (.ref b71), .val (.int (1 : Int32))] [(.int (2 : Int32)), (.ref b1), (.ref b71)])) rfl rfl (hb hby at_153)) ?_
  show OG p e below _ _ (T102.setTop (mkF m 154 #[.val (.int p0), .val (.int p1), .val (.int p2), .val (.int p3), .val (.int p4), .val (.ref b1), .val (.ref b43), .val (.ref b62), .val (.ref b71), .val (.int (1 : Int32))] [(.int z21), (.ref b71)]))
  clear hat115 hin115 Gv114 Hv114 Nv114 Sv114 qv114 Arv114 clv114
  refine o_iconst (z := (2 : Int32)) X102 hx rfl (hb hby at_154) (by decide) ?_
  refine o_aload X102 hx rfl (hb hby at_155) rfl rfl ?_
  refine o_aload X102 hx rfl (hb hby at_157) rfl rfl ?_
  have hx2 : 0 ≤ z21.toInt ∧ z21.toInt ≤ 65535 := by rw [← hz21]; exact own_xn _ _
  have Fc117 : Exa Z T102.heap b71 "com/example/hermod/hermod/osp/SequenceWindow" := (Fc103.keep K102)
  have zz118 := (Nat.le_trans zz104 K102.1)
  obtain ⟨_, _, ⟨T116, L116, k116, n116⟩, -, X116, ⟨Lc116, hQ116, l116, y116, z116⟩, st116⟩ := Jvm.LawKit.callS X102 hx (y := (⟨"com/example/hermod/hermod/osp/SequenceWindowAcceptPinLaw", "step", "(Lcom/example/hermod/hermod/osp/SequenceWindow;II[I[I)Z"⟩ : MethodName)) hown (mvT hZ (hw _ (List.mem_of_getElem? (i := 17) rfl))) (mvT hZ (hw _ (List.mem_of_getElem? (i := 18) rfl))) (mvT hZ (hw _ (List.mem_of_getElem? (i := 4) rfl))) (mvT hZ (hw _ (List.mem_of_getElem? (i := 19) rfl))) (by decide) (backOf (W := 0) (own_rmS2 l Z aA hw [] b71 z21 b43 b62 z107 z108 z95 z109 (-1 : Int32) (-1 : Int32) (-1 : Int32) z110 k_b43 k_b62 T102.heap n0 zz118 Fc117 gn71 f102_0 f102_1 f102_2 f102_3 gn43 gn62 (Ne.symm ne75) (Ne.symm ne76) ne65) hZ (hw _ (List.mem_of_getElem? (i := 19) rfl)) (hw _ (List.mem_of_getElem? (i := 4) rfl)) (by decide) (by decide)) (g := (mkF m 159 #[.val (.int p0), .val (.int p1), .val (.int p2), .val (.int p3), .val (.int p4), .val (.ref b1), .val (.ref b43), .val (.ref b62), .val (.ref b71), .val (.int (1 : Int32))] [(.ref b62), (.ref b43), (.int (2 : Int32)), (.int z21), (.ref b71)])) rfl (by rw [hml]; rfl) (argsL := [(.ref b71), (.int z21), (.int (2 : Int32)), (.ref b43), (.ref b62)]) (rest := []) (lenOf own_pd5 rfl) rfl (by show 2 * 0 + _ ≤ _; exact Nat.le_of_eq rfl) (hb hby at_159) (fun _ _ => ⟨rfl, rfl, (by dsimp only [Pt.cells, Pt.slots]; decide +kernel), (by dsimp only [Pt.cells, Pt.slots]; decide +kernel)⟩)
  dsimp only [Pt.U, Pt.locs, Pt.cells, Pt.slots] at X116 l116 y116 z116 st116 hQ116
  rw [l116, y116, z116] at X116
  obtain ⟨rfl, N116q, K116, f116_0, f116_1, f116_2, f116_3⟩ := hQ116
  have N119 := Fr.app N105 N116q
  have Kp120 : Keep h0 T116.heap [] := Kp106.trans K116 (allS (Or.inr sz71) (allS (Or.inr sz43) (allS (Or.inr sz62) all0)))
  obtain ⟨z121, hz121⟩ : ∃ z : Int32, (own_f6_H b71 z21 z107 z108) = z := ⟨_, rfl⟩
  rw [hz121] at f116_0
  obtain ⟨z122, hz122⟩ : ∃ z : Int64, (own_f6_A b71 z21 z107 z108) = z := ⟨_, rfl⟩
  rw [hz122] at f116_1
  obtain ⟨z123, hz123⟩ : ∃ z : Int32, (own_fS2_C b71 z21 b43 b62 z107 z108 z95 z109 (-1 : Int32) (-1 : Int32) (-1 : Int32) z110 k_b43 k_b62) = z := ⟨_, rfl⟩
  rw [hz123] at f116_2
  obtain ⟨z124, hz124⟩ : ∃ z : Int32, (own_fS2_N b71 z21 b43 b62 z107 z108 z95 z109 (-1 : Int32) (-1 : Int32) (-1 : Int32) z110 k_b43 k_b62) = z := ⟨_, rfl⟩
  rw [hz124] at f116_3
  obtain ⟨z125, hz125⟩ : ∃ z : Int32, (own_fS2 b71 z21 b43 b62 z107 z108 z95 z109 (-1 : Int32) (-1 : Int32) (-1 : Int32) z110 k_b43 k_b62) = z := ⟨_, rfl⟩
  rw [hz125] at st116
  refine og_of st116 ?_
  show OG p e below _ _ (T116.setTop (mkF m 162 #[.val (.int p0), .val (.int p1), .val (.int p2), .val (.int p3), .val (.int p4), .val (.ref b1), .val (.ref b43), .val (.ref b62), .val (.ref b71), .val (.int (1 : Int32))] [(.int z125)]))
  clear X102 st116
  have hI3 : z125 = 1 ∧ own_I z121 z122 z95 z109 z123 (-1 : Int32) (-1 : Int32) z124 := by
    subst hz121 hz122 hz123 hz124 hz125
    exact own_S2 hI2.2 hx2
  have hk126 : ¬ (z125 = (0 : Int32)) := by rw [hI3.1]; decide
  refine o_ifY (pc' := 168) X116 hx (hb hby at_162) ((if0 _ _).trans (feq hk126).2) (by decide) (by decide) ?_
  refine o_aload X116 hx rfl (hb hby at_168) rfl rfl ?_
  refine o_aload X116 hx rfl (hb hby at_170) rfl rfl ?_
  refine o_iconst (z := (3 : Int32)) X116 hx rfl (hb hby at_172) (by decide) ?_
  have Fc127 : Arv Z T116.heap b1 k_b1 .int (5 : Int32) [(.int z3), (.int z12), (.int z21), (.int z30), (.int z39)] (.int (0 : Int32)) := (Fc113.keep K116 (ninS ne73 (ninS ne44 (ninS ne64 nin0))))
  obtain ⟨clv128, Arv128, qv128, Sv128, Nv128, Hv128, Gv128⟩ := id Fc127
  have hin129 : ¬ ((3 : Int32) < 0 ∨ clv128.slots.size ≤ ((3 : Int32)).toNatClampNeg) := inb_of Sv128 ⟨by decide, by decide⟩
  have hat129 : clv128.slots[((3 : Int32)).toNatClampNeg]? = some (.int z30) := Hv128.at hin129 rfl
  refine og_of (X116.iaload hx (j := (3 : Int32)) (v := (.int z30)) (by exact Arv128.1) (State.isArrayOf_alike hZ.alike Arv128.2.1) Arv128.2.2 hin129 hat129 (g := (mkF m 173 #[.val (.int p0), .val (.int p1), .val (.int p2), .val (.int p3), .val (.int p4), .val (.ref b1), .val (.ref b43), .val (.ref b62), .val (.ref b71), .val (.int (1 : Int32))] [(.int (3 : Int32)), (.ref b1), (.ref b71)])) rfl rfl (hb hby at_173)) ?_
  show OG p e below _ _ (T116.setTop (mkF m 174 #[.val (.int p0), .val (.int p1), .val (.int p2), .val (.int p3), .val (.int p4), .val (.ref b1), .val (.ref b43), .val (.ref b62), .val (.ref b71), .val (.int (1 : Int32))] [(.int z30), (.ref b71)]))
  clear hat129 hin129 Gv128 Hv128 Nv128 Sv128 qv128 Arv128 clv128
  refine o_iconst (z := (3 : Int32)) X116 hx rfl (hb hby at_174) (by decide) ?_
  refine o_aload X116 hx rfl (hb hby at_175) rfl rfl ?_
  refine o_aload X116 hx rfl (hb hby at_177) rfl rfl ?_
  have hx3 : 0 ≤ z30.toInt ∧ z30.toInt ≤ 65535 := by rw [← hz30]; exact own_xn _ _
  have Fc131 : Exa Z T116.heap b71 "com/example/hermod/hermod/osp/SequenceWindow" := (Fc117.keep K116)
  have zz132 := (Nat.le_trans zz118 K116.1)
  obtain ⟨_, _, ⟨T130, L130, k130, n130⟩, -, X130, ⟨Lc130, hQ130, l130, y130, z130⟩, st130⟩ := Jvm.LawKit.callS X116 hx (y := (⟨"com/example/hermod/hermod/osp/SequenceWindowAcceptPinLaw", "step", "(Lcom/example/hermod/hermod/osp/SequenceWindow;II[I[I)Z"⟩ : MethodName)) hown (mvT hZ (hw _ (List.mem_of_getElem? (i := 17) rfl))) (mvT hZ (hw _ (List.mem_of_getElem? (i := 18) rfl))) (mvT hZ (hw _ (List.mem_of_getElem? (i := 4) rfl))) (mvT hZ (hw _ (List.mem_of_getElem? (i := 19) rfl))) (by decide) (backOf (W := 0) (own_rmS3 l Z aA hw [] b71 z30 b43 b62 z121 z122 z95 z109 z123 (-1 : Int32) (-1 : Int32) z124 k_b43 k_b62 T116.heap n0 zz132 Fc131 gn71 f116_0 f116_1 f116_2 f116_3 gn43 gn62 (Ne.symm ne75) (Ne.symm ne76) ne65) hZ (hw _ (List.mem_of_getElem? (i := 19) rfl)) (hw _ (List.mem_of_getElem? (i := 4) rfl)) (by decide) (by decide)) (g := (mkF m 179 #[.val (.int p0), .val (.int p1), .val (.int p2), .val (.int p3), .val (.int p4), .val (.ref b1), .val (.ref b43), .val (.ref b62), .val (.ref b71), .val (.int (1 : Int32))] [(.ref b62), (.ref b43), (.int (3 : Int32)), (.int z30), (.ref b71)])) rfl (by rw [hml]; rfl) (argsL := [(.ref b71), (.int z30), (.int (3 : Int32)), (.ref b43), (.ref b62)]) (rest := []) (lenOf own_pd5 rfl) rfl (by show 2 * 0 + _ ≤ _; exact Nat.le_of_eq rfl) (hb hby at_179) (fun _ _ => ⟨rfl, rfl, (by dsimp only [Pt.cells, Pt.slots]; decide +kernel), (by dsimp only [Pt.cells, Pt.slots]; decide +kernel)⟩)
  dsimp only [Pt.U, Pt.locs, Pt.cells, Pt.slots] at X130 l130 y130 z130 st130 hQ130
  rw [l130, y130, z130] at X130
  obtain ⟨rfl, N130q, K130, f130_0, f130_1, f130_2, f130_3⟩ := hQ130
  have N133 := Fr.app N119 N130q
  have Kp134 : Keep h0 T130.heap [] := Kp120.trans K130 (allS (Or.inr sz71) (allS (Or.inr sz43) (allS (Or.inr sz62) all0)))
  obtain ⟨z135, hz135⟩ : ∃ z : Int32, (own_f6_H b71 z30 z121 z122) = z := ⟨_, rfl⟩
  rw [hz135] at f130_0
  obtain ⟨z136, hz136⟩ : ∃ z : Int64, (own_f6_A b71 z30 z121 z122) = z := ⟨_, rfl⟩
  rw [hz136] at f130_1
  obtain ⟨z137, hz137⟩ : ∃ z : Int32, (own_fS3_C b71 z30 b43 b62 z121 z122 z95 z109 z123 (-1 : Int32) (-1 : Int32) z124 k_b43 k_b62) = z := ⟨_, rfl⟩
  rw [hz137] at f130_2
  obtain ⟨z138, hz138⟩ : ∃ z : Int32, (own_fS3_N b71 z30 b43 b62 z121 z122 z95 z109 z123 (-1 : Int32) (-1 : Int32) z124 k_b43 k_b62) = z := ⟨_, rfl⟩
  rw [hz138] at f130_3
  obtain ⟨z139, hz139⟩ : ∃ z : Int32, (own_fS3 b71 z30 b43 b62 z121 z122 z95 z109 z123 (-1 : Int32) (-1 : Int32) z124 k_b43 k_b62) = z := ⟨_, rfl⟩
  rw [hz139] at st130
  refine og_of st130 ?_
  show OG p e below _ _ (T130.setTop (mkF m 182 #[.val (.int p0), .val (.int p1), .val (.int p2), .val (.int p3), .val (.int p4), .val (.ref b1), .val (.ref b43), .val (.ref b62), .val (.ref b71), .val (.int (1 : Int32))] [(.int z139)]))
  clear X116 st130
  have hI4 : z139 = 1 ∧ own_I z135 z136 z95 z109 z123 z137 (-1 : Int32) z138 := by
    subst hz135 hz136 hz137 hz138 hz139
    exact own_S3 hI3.2 hx3
  have hk140 : ¬ (z139 = (0 : Int32)) := by rw [hI4.1]; decide
  refine o_ifY (pc' := 188) X130 hx (hb hby at_182) ((if0 _ _).trans (feq hk140).2) (by decide) (by decide) ?_
  refine o_aload X130 hx rfl (hb hby at_188) rfl rfl ?_
  refine o_aload X130 hx rfl (hb hby at_190) rfl rfl ?_
  refine o_iconst (z := (4 : Int32)) X130 hx rfl (hb hby at_192) (by decide) ?_
  have Fc141 : Arv Z T130.heap b1 k_b1 .int (5 : Int32) [(.int z3), (.int z12), (.int z21), (.int z30), (.int z39)] (.int (0 : Int32)) := (Fc127.keep K130 (ninS ne73 (ninS ne44 (ninS ne64 nin0))))
  obtain ⟨clv142, Arv142, qv142, Sv142, Nv142, Hv142, Gv142⟩ := id Fc141
  have hin143 : ¬ ((4 : Int32) < 0 ∨ clv142.slots.size ≤ ((4 : Int32)).toNatClampNeg) := inb_of Sv142 ⟨by decide, by decide⟩
  have hat143 : clv142.slots[((4 : Int32)).toNatClampNeg]? = some (.int z39) := Hv142.at hin143 rfl
  refine og_of (X130.iaload hx (j := (4 : Int32)) (v := (.int z39)) (by exact Arv142.1) (State.isArrayOf_alike hZ.alike Arv142.2.1) Arv142.2.2 hin143 hat143 (g := (mkF m 193 #[.val (.int p0), .val (.int p1), .val (.int p2), .val (.int p3), .val (.int p4), .val (.ref b1), .val (.ref b43), .val (.ref b62), .val (.ref b71), .val (.int (1 : Int32))] [(.int (4 : Int32)), (.ref b1), (.ref b71)])) rfl rfl (hb hby at_193)) ?_
  show OG p e below _ _ (T130.setTop (mkF m 194 #[.val (.int p0), .val (.int p1), .val (.int p2), .val (.int p3), .val (.int p4), .val (.ref b1), .val (.ref b43), .val (.ref b62), .val (.ref b71), .val (.int (1 : Int32))] [(.int z39), (.ref b71)]))
  clear hat143 hin143 Gv142 Hv142 Nv142 Sv142 qv142 Arv142 clv142
  refine o_iconst (z := (4 : Int32)) X130 hx rfl (hb hby at_194) (by decide) ?_
  refine o_aload X130 hx rfl (hb hby at_195) rfl rfl ?_
  refine o_aload X130 hx rfl (hb hby at_197) rfl rfl ?_
  have hx4 : 0 ≤ z39.toInt ∧ z39.toInt ≤ 65535 := by rw [← hz39]; exact own_xn _ _
  have Fc145 : Exa Z T130.heap b71 "com/example/hermod/hermod/osp/SequenceWindow" := (Fc131.keep K130)
  have zz146 := (Nat.le_trans zz132 K130.1)
  obtain ⟨_, _, ⟨T144, L144, k144, n144⟩, -, X144, ⟨Lc144, hQ144, l144, y144, z144⟩, st144⟩ := Jvm.LawKit.callS X130 hx (y := (⟨"com/example/hermod/hermod/osp/SequenceWindowAcceptPinLaw", "step", "(Lcom/example/hermod/hermod/osp/SequenceWindow;II[I[I)Z"⟩ : MethodName)) hown (mvT hZ (hw _ (List.mem_of_getElem? (i := 17) rfl))) (mvT hZ (hw _ (List.mem_of_getElem? (i := 18) rfl))) (mvT hZ (hw _ (List.mem_of_getElem? (i := 4) rfl))) (mvT hZ (hw _ (List.mem_of_getElem? (i := 19) rfl))) (by decide) (backOf (W := 0) (own_rmS4 l Z aA hw [] b71 z39 b43 b62 z135 z136 z95 z109 z123 z137 (-1 : Int32) z138 k_b43 k_b62 T130.heap n0 zz146 Fc145 gn71 f130_0 f130_1 f130_2 f130_3 gn43 gn62 (Ne.symm ne75) (Ne.symm ne76) ne65) hZ (hw _ (List.mem_of_getElem? (i := 19) rfl)) (hw _ (List.mem_of_getElem? (i := 4) rfl)) (by decide) (by decide)) (g := (mkF m 199 #[.val (.int p0), .val (.int p1), .val (.int p2), .val (.int p3), .val (.int p4), .val (.ref b1), .val (.ref b43), .val (.ref b62), .val (.ref b71), .val (.int (1 : Int32))] [(.ref b62), (.ref b43), (.int (4 : Int32)), (.int z39), (.ref b71)])) rfl (by rw [hml]; rfl) (argsL := [(.ref b71), (.int z39), (.int (4 : Int32)), (.ref b43), (.ref b62)]) (rest := []) (lenOf own_pd5 rfl) rfl (by show 2 * 0 + _ ≤ _; exact Nat.le_of_eq rfl) (hb hby at_199) (fun _ _ => ⟨rfl, rfl, (by dsimp only [Pt.cells, Pt.slots]; decide +kernel), (by dsimp only [Pt.cells, Pt.slots]; decide +kernel)⟩)
  dsimp only [Pt.U, Pt.locs, Pt.cells, Pt.slots] at X144 l144 y144 z144 st144 hQ144
  rw [l144, y144, z144] at X144
  obtain ⟨rfl, N144q, K144, f144_0, f144_1, f144_2, f144_3⟩ := hQ144
  have N147 := Fr.app N133 N144q
  have Kp148 : Keep h0 T144.heap [] := Kp134.trans K144 (allS (Or.inr sz71) (allS (Or.inr sz43) (allS (Or.inr sz62) all0)))
  obtain ⟨z149, hz149⟩ : ∃ z : Int32, (own_f6_H b71 z39 z135 z136) = z := ⟨_, rfl⟩
  rw [hz149] at f144_0
  obtain ⟨z150, hz150⟩ : ∃ z : Int64, (own_f6_A b71 z39 z135 z136) = z := ⟨_, rfl⟩
  rw [hz150] at f144_1
  obtain ⟨z151, hz151⟩ : ∃ z : Int32, (own_fS4_C b71 z39 b43 b62 z135 z136 z95 z109 z123 z137 (-1 : Int32) z138 k_b43 k_b62) = z := ⟨_, rfl⟩
  rw [hz151] at f144_2
  obtain ⟨z152, hz152⟩ : ∃ z : Int32, (own_fS4_N b71 z39 b43 b62 z135 z136 z95 z109 z123 z137 (-1 : Int32) z138 k_b43 k_b62) = z := ⟨_, rfl⟩
  rw [hz152] at f144_3
  obtain ⟨z153, hz153⟩ : ∃ z : Int32, (own_fS4 b71 z39 b43 b62 z135 z136 z95 z109 z123 z137 (-1 : Int32) z138 k_b43 k_b62) = z := ⟨_, rfl⟩
  rw [hz153] at st144
  refine og_of st144 ?_
  show OG p e below _ _ (T144.setTop (mkF m 202 #[.val (.int p0), .val (.int p1), .val (.int p2), .val (.int p3), .val (.int p4), .val (.ref b1), .val (.ref b43), .val (.ref b62), .val (.ref b71), .val (.int (1 : Int32))] [(.int z153)]))
  clear X130 st144
  have hI5 : z153 = 1 ∧ own_I z149 z150 z95 z109 z123 z137 z151 z152 := by
    subst hz149 hz150 hz151 hz152 hz153
    exact own_S4 hI4.2 hx4
  have hk154 : ¬ (z153 = (0 : Int32)) := by rw [hI5.1]; decide
  refine o_ifY (pc' := 208) X144 hx (hb hby at_202) ((if0 _ _).trans (feq hk154).2) (by decide) (by decide) ?_
  refine o_iload X144 hx rfl (hb hby at_208) rfl ?_
  refine o_ifN (pc' := 213) X144 hx rfl (hb hby at_210) ((if0 _ _).trans (feq (by decide : ¬ ((1 : Int32) = (0 : Int32)))).1) ?_
  refine o_aload X144 hx rfl (hb hby at_213) rfl rfl ?_
  have zz156 := (Nat.le_trans zz146 K144.1)
  have Fc157 : Exa Z T144.heap b71 "com/example/hermod/hermod/osp/SequenceWindow" := (Fc145.keep K144)
  obtain ⟨cq155, kq155, q155a, q155b, q155c⟩ := isOf hZ rfl Fc157
  obtain ⟨_, _, ⟨T155, L155, k155, n155⟩, -, X155, ⟨Lc155, hQ155, l155, y155, z155⟩, st155⟩ := X144.virtualBack hx (y := (⟨"com/example/hermod/hermod/osp/SequenceWindow", "isSpent", "()Z"⟩ : MethodName)) (z := (⟨"com/example/hermod/hermod/osp/SequenceWindow", "isSpent", "()Z"⟩ : MethodName)) hown (mvT hZ (hw _ (List.mem_of_getElem? (i := 33) rfl))) (mvT hZ (hw _ (List.mem_of_getElem? (i := 34) rfl))) (notFace_of_selects (args := #[]) (mvT hZ (hw _ (List.mem_of_getElem? (i := 36) rfl)))) (mvT hZ (hw _ (List.mem_of_getElem? (i := 36) rfl))) (mvT hZ (hw _ (List.mem_of_getElem? (i := 35) rfl))) (by decide) (backOf (W := 0) (own_rm8 l Z aA hw [] b71 z149 T144.heap n0 zz156 f144_0) hZ (hw _ (List.mem_of_getElem? (i := 37) rfl)) (hw _ (List.mem_of_getElem? (i := 8) rfl)) (by decide) (by decide)) q155a q155c (g := (mkF m 215 #[.val (.int p0), .val (.int p1), .val (.int p2), .val (.int p3), .val (.int p4), .val (.ref b1), .val (.ref b43), .val (.ref b62), .val (.ref b71), .val (.int (1 : Int32))] [(.ref b71)])) rfl (by rw [hml]; rfl) (Steps.refl _) (argsL := []) (rest := []) (lenOf own_pd6 rfl) rfl (by show 2 * 0 + _ ≤ _; exact Nat.le_of_eq rfl) (hb hby at_215) (fun _ _ => ⟨rfl, rfl, (by dsimp only [Pt.cells, Pt.slots]; decide +kernel), (by dsimp only [Pt.cells, Pt.slots]; decide +kernel)⟩)
  dsimp only [Pt.U, Pt.locs, Pt.cells, Pt.slots] at X155 l155 y155 z155 st155 hQ155
  rw [l155, y155, z155] at X155
  obtain ⟨rfl, N155q, ee155⟩ := hQ155
  have N158 := Fr.app N147 N155q
  obtain ⟨z159, hz159⟩ : ∃ z : Int32, (own_f8 b71 z149) = z := ⟨_, rfl⟩
  rw [hz159] at st155
  refine og_tr st155 ?_
  show OG p e below _ _ (T155.setTop (mkF m 218 #[.val (.int p0), .val (.int p1), .val (.int p2), .val (.int p3), .val (.int p4), .val (.ref b1), .val (.ref b43), .val (.ref b62), .val (.ref b71), .val (.int (1 : Int32))] [(.int z159)]))
  clear X144 st155
  refine o_aload X155 hx rfl (hb hby at_218) rfl rfl ?_
  refine o_iconst (z := (0 : Int32)) X155 hx rfl (hb hby at_220) (by decide) ?_
  obtain ⟨clv160, Arv160, qv160, Sv160, Nv160, Hv160, Gv160⟩ := id f144_3
  have hin161 : ¬ ((0 : Int32) < 0 ∨ clv160.slots.size ≤ ((0 : Int32)).toNatClampNeg) := inb_of Sv160 ⟨by decide, by decide⟩
  have hat161 : clv160.slots[((0 : Int32)).toNatClampNeg]? = some (.int z152) := Hv160.at hin161 rfl
  refine og_of (X155.iaload hx (j := (0 : Int32)) (v := (.int z152)) (by rw [ee155]; exact Arv160.1) (State.isArrayOf_alike hZ.alike Arv160.2.1) Arv160.2.2 hin161 hat161 (g := (mkF m 221 #[.val (.int p0), .val (.int p1), .val (.int p2), .val (.int p3), .val (.int p4), .val (.ref b1), .val (.ref b43), .val (.ref b62), .val (.ref b71), .val (.int (1 : Int32))] [(.int (0 : Int32)), (.ref b62), (.int z159)])) rfl rfl (hb hby at_221)) ?_
  show OG p e below _ _ (T155.setTop (mkF m 222 #[.val (.int p0), .val (.int p1), .val (.int p2), .val (.int p3), .val (.int p4), .val (.ref b1), .val (.ref b43), .val (.ref b62), .val (.ref b71), .val (.int (1 : Int32))] [(.int z152), (.int z159)]))
  clear hat161 hin161 Gv160 Hv160 Nv160 Sv160 qv160 Arv160 clv160
  refine o_ldcI X155 hx rfl (hb hby at_222) hZ hown (hw _ (List.mem_of_getElem? (i := 1) rfl)) ?_
  obtain ⟨ph163, hph163⟩ : ∃ z : Int32, (if z152 = (65535 : Int32) then (1 : Int32) else (0 : Int32)) = z := ⟨_, rfl⟩
  have J164 : OG p e below (FE s room_1.cells room_1.slots) (own_Q0 Z p0 p1 p2 p3 p4 h0 n0) (T155.setTop (mkF m 232 #[.val (.int p0), .val (.int p1), .val (.int p2), .val (.int p3), .val (.int p4), .val (.ref b1), .val (.ref b43), .val (.ref b62), .val (.ref b71), .val (.int (1 : Int32))] [(.int ph163), (.int z159)])) := by
    have hk165 : z159 = ph163 := by rw [← hz159, ← hph163, own_f8, hI5.2.1]
    refine o_icmpN (pc' := 235) X155 hx rfl (hb hby at_232) (teq hk165).2 ?_
    refine o_iconst (z := (1 : Int32)) X155 hx rfl (hb hby at_235) (by decide) ?_
    refine o_goto (pc' := 240) X155 hx (hb hby at_236) (by decide) (by decide) ?_
    exact o_retB X155 hx Bd.returns (own_lv X155 hlk (by decide +kernel) (by decide +kernel)) (hb hby at_240) (by decide) ⟨rfl, N158⟩
  by_cases hc166 : z152 = (65535 : Int32)
  · skip
    refine o_icmpN (pc' := 227) X155 hx rfl (hb hby at_224) (teq hc166).2 ?_
    refine o_iconst (z := (1 : Int32)) X155 hx rfl (hb hby at_227) (by decide) ?_
    refine o_goto (pc' := 232) X155 hx (hb hby at_228) (by decide) (by decide) ?_
    have q167 : ph163 = (1 : Int32) := by
      rw [← hph163]
      simp only [if_pos hc166]
    rw [q167] at J164
    exact J164
  · skip
    refine o_icmpY (pc' := 231) X155 hx (hb hby at_224) (feq hc166).2 (by decide) (by decide) ?_
    refine o_iconst (z := (0 : Int32)) X155 hx rfl (hb hby at_231) (by decide) ?_
    have q168 : ph163 = (0 : Int32) := by
      rw [← hph163]
      simp only [if_neg hc166]
    rw [q168] at J164
    exact J164
set_option maxRecDepth 65536 in
set_option maxHeartbeats 40000000 in
theorem own_comes {Post : Tables → Env → Array Value → State → Outcome → State → Prop} (hpost : ∀ tb e args s v u, (limb_1_1.after args s (.returned v) u = true ∧ limb_1_2.after args s (.returned v) u = true ∧ True) → FrameEnd s (.returned v) u (Jvm.fieldLocs frame_1_writes args s ++ Jvm.arrayLocs frame_1_arrays args s ++ Jvm.staticLocs frame_1_statics s) 16 128 → Post tb e args s (.returned v) u) :
    ArmFor flags0 classFile x code maxLocals ret World_1 tables_1 room_1 Calls_1 rest_1 Pre_1 Post := by
  intro l hfl _ _ p e ha hc hk s m args below hf hA hF happ hP
  obtain ⟨hcalls, hrest, hpre⟩ := hP
  obtain ⟨-, -, -, hnamed, -, -, -, hat⟩ := (Spec.applies_iff hf).mp happ
  obtain ⟨hg, hn⟩ := and_e (Cond.before_iff.mp (show (Jvm.Cond.and given_1 narrow_1).before args s = true from hpre))
  obtain ⟨g0, gr0⟩ := and_e hg
  obtain ⟨gi0, gr1⟩ := and_e gr0
  obtain ⟨gi1, gr2⟩ := and_e gr1
  obtain ⟨gi2, gr3⟩ := and_e gr2
  obtain ⟨gi3, gr4⟩ := and_e gr3
  have gi4 := gr4
  obtain ⟨w0, w1, w2, w3, w4, rfl⟩ : ∃ w0 w1 w2 w3 w4 : Value, args = #[w0, w1, w2, w3, w4] := by
    have hs : args.size = 5 := by simpa [Cond.value, given_1] using g0
    obtain ⟨L⟩ := args
    match L, hs with
    | [w0, w1, w2, w3, w4], _ => exact ⟨w0, w1, w2, w3, w4, rfl⟩
  have hw := fun d (hd : d ∈ tables_1) => atoms_spec (ws := Jvm.Cond.code x code maxLocals ret :: tables_1) hat d (List.mem_cons_of_mem _ hd)
  have hfit : Fit s := fun {y c} hc i hi => by
    obtain ⟨ha, rfl⟩ := Array.getElem?_eq_some_iff.mp hc
    have q := List.all_eq_true.mp ((Array.all_eq_true_iff_forall_mem.mp hF) _ (Array.getElem_mem ha)) i (List.mem_range.mpr hi)
    simpa [Array.getElem?_eq_getElem hi] using q
  obtain ⟨i0, ei0⟩ := is_v gi0
  obtain rfl : w0 = (.int i0) := Option.some.inj ei0
  obtain ⟨i1, ei1⟩ := is_v gi1
  obtain rfl : w1 = (.int i1) := Option.some.inj ei1
  obtain ⟨i2, ei2⟩ := is_v gi2
  obtain rfl : w2 = (.int i2) := Option.some.inj ei2
  obtain ⟨i3, ei3⟩ := is_v gi3
  obtain rfl : w3 = (.int i3) := Option.some.inj ei3
  obtain ⟨i4, ei4⟩ := is_v gi4
  obtain rfl : w4 = (.int i4) := Option.some.inj ei4
  obtain ⟨n, o, h1, h2, h3, _, L, rfl, ⟨rfl, N⟩, hq⟩ := own_rm0 l s _ hw tables_1 i0 i1 i2 i3 i4  s.heap s.heap.size (Nat.le_refl _)  p e ha hc hk s m _ below hf ((Spec.applies_iff_loose hf).mp happ).1 ⟨rfl, State.Warmed39.refl s, rfl⟩ trivial
  refine ⟨n, _, h1, h2, h3, hpost _ _ _ _ _ _ ⟨Cond.after_iff.mpr rfl, Cond.after_iff.mpr (eq_i res_at (Term.int_eval (1)) rfl), trivial⟩ ⟨hq.1, hq.2.1, (hq.2.2.sift fun y hy => Or.inr (N y hy)).mono (by decide) (by decide)⟩⟩
theorem main_1_1 : Claimed_1_1 := own_comes fun _ _ _ _ _ _ h hF => ⟨h.1, hF⟩
theorem main_1_2 : Claimed_1_2 := own_comes fun _ _ _ _ _ _ h hF => ⟨h.2.1, hF⟩
end Jvm.Pilot.@@N@@
namespace Jvm.Pilot.@@N@@
open Jvm Jvm.ClassFile Sem Op Lib Jvm.Free Jvm.Stand Jvm.Pilot.@@N@@.Jvm.D
/-! MADE BY PROGRAM (witnessworld.py) out of the Statement's table words and the real class files: 9 classes; the members and pool entries that the words name. The judged class is class 1, her method 5. -/
namespace start1
open Jvm.ClassFile
def u (s : String) : CpInfo := .utf8 (stringToUtf16 s)
/-- a pool by its gaps: so many unusable entries, then the entry; so many at the end -/
def gap : Nat → List CpInfo → List CpInfo
  | 0, r => r
  | n + 1, r => .unusable :: gap n r
def poolList (es : List (Nat × CpInfo)) (last : Nat) : List CpInfo := es.foldr (fun e r => gap e.1 (e.2 :: r)) (gap last [])
def pool (es : List (Nat × CpInfo)) (last : Nat) : Array CpInfo := ⟨poolList es last⟩
def fileOf (pool : Array CpInfo) (this : Nat) (attrs : Array Attribute := #[]) (ms : Array MethodInfo := #[]) (fl : Nat := 33) (sup : Nat := 0) (ifs : Array Nat := #[]) (fds : Array FieldInfo := #[]) : ClassFile where
  minorVersion := 0
  majorVersion := 65
  constantPool := pool
  accessFlags := fl
  thisClass := this
  superClass := sup
  interfaces := ifs
  fields := fds
  methods := ms
  attributes := attrs
def plain (name : String) (sup : Option ClassId) : Class where
  name := name
  kind := .ordinary
  loader := none
  accessFlags := 33
  super := sup
  interfaces := #[]
  cf := none
  fields := #[]
  methods := #[]
  instanceTypes := #[]
  staticTypes := #[]
  resolved := #[]
  callSites := []
  init := .initialized
  statics := none
  mirror := none

def pool0 : Array CpInfo := pool [(5, u "<init>"), (0, u "()V"), (1, .class_ 10), (1, u "java/lang/Object")] 113

def k0c0 : Code := { maxStack := 0, maxLocals := 1, code := object_method_1_code, exceptionTable := #[], attributes := #[] }
def k0m0 : Method := { name := "<init>", desc := "()V", sig := { parameters := [], returnType := none }, accessFlags := 1, code := some k0c0 }
/-- java/lang/Object -/
def k0 : Class := { plain "java/lang/Object" none with
  accessFlags := 33
  interfaces := #[]
  cf := some (fileOf pool0 8 #[] #[{ accessFlags := 1, nameIndex := 5, descriptorIndex := 6, attributes := #[] }] 33 0 #[] #[])
  fields := #[]
  methods := #[k0m0]
  instanceTypes := #[]
  staticTypes := #[]
  resolved := Array.replicate 124 none
  statics := none }

def pool1 : Array CpInfo := pool [(2, .class_ 4), (0, .nameAndType 5 6), (0, u "java/lang/Object"), (0, u "<init>"), (0, u "()V"), (0, .methodref 8 9), (0, .class_ 10), (0, .nameAndType 11 12), (0, u "com/example/hermod/hermod/osp/SequenceWindowAcceptPinLaw"), (0, u "in"), (0, u "(I[I)Z"), (0, .integer 65535), (0, .methodref 8 15), (0, .nameAndType 16 17), (0, u "expected"), (0, u "(II[I)Z"), (0, .methodref 19 20), (0, .class_ 21), (0, .nameAndType 22 23), (0, u "com/example/hermod/hermod/osp/SequenceWindow"), (0, u "accept"), (0, u "(I)Z"), (0, .methodref 8 25), (0, .nameAndType 26 27), (0, u "next"), (0, u "(II)I"), (0, .methodref 19 3), (0, .methodref 8 30), (0, .nameAndType 31 32), (0, u "step"), (0, u "(Lcom/example/hermod/hermod/osp/SequenceWindow;II[I[I)Z"), (0, .methodref 19 34), (0, .nameAndType 35 36), (0, u "isSpent"), (0, u "()Z"), (3, u "law"), (0, u "(IIIII)Z")] 4

def k1m0 : Method := { name := "<init>", desc := "()V", sig := { parameters := [], returnType := none }, accessFlags := 1, code := none }
def k1c1 : Code := { maxStack := 3, maxLocals := 2, code := method_2_code, exceptionTable := #[], attributes := #[] }
def k1m1 : Method := { name := "in", desc := "(I[I)Z", sig := { parameters := [.int, (.array .int)], returnType := some .boolean }, accessFlags := 10, code := some k1c1 }
def k1c2 : Code := { maxStack := 3, maxLocals := 3, code := method_3_code, exceptionTable := #[], attributes := #[] }
def k1m2 : Method := { name := "expected", desc := "(II[I)Z", sig := { parameters := [.int, .int, (.array .int)], returnType := some .boolean }, accessFlags := 10, code := some k1c2 }
def k1c3 : Code := { maxStack := 3, maxLocals := 2, code := method_4_code, exceptionTable := #[], attributes := #[] }
def k1m3 : Method := { name := "next", desc := "(II)I", sig := { parameters := [.int, .int], returnType := some .int }, accessFlags := 10, code := some k1c3 }
def k1c4 : Code := { maxStack := 3, maxLocals := 7, code := method_5_code, exceptionTable := #[], attributes := #[] }
def k1m4 : Method := { name := "step", desc := "(Lcom/example/hermod/hermod/osp/SequenceWindow;II[I[I)Z", sig := { parameters := [(.object "com/example/hermod/hermod/osp/SequenceWindow"), .int, .int, (.array .int), (.array .int)], returnType := some .boolean }, accessFlags := 10, code := some k1c4 }
def k1c5 : Code := { maxStack := 5, maxLocals := 10, code := code, exceptionTable := #[], attributes := #[] }
def k1m5 : Method := { name := "law", desc := "(IIIII)Z", sig := { parameters := [.int, .int, .int, .int, .int], returnType := some .boolean }, accessFlags := 9, code := some k1c5 }
/-- com/example/hermod/hermod/osp/SequenceWindowAcceptPinLaw -/
def k1 : Class := { plain "com/example/hermod/hermod/osp/SequenceWindowAcceptPinLaw" (some 0) with
  accessFlags := 49
  interfaces := #[]
  cf := some (fileOf pool1 8 #[] #[{ accessFlags := 1, nameIndex := 5, descriptorIndex := 6, attributes := #[] }, { accessFlags := 10, nameIndex := 11, descriptorIndex := 12, attributes := #[] }, { accessFlags := 10, nameIndex := 16, descriptorIndex := 17, attributes := #[] }, { accessFlags := 10, nameIndex := 26, descriptorIndex := 27, attributes := #[] }, { accessFlags := 10, nameIndex := 31, descriptorIndex := 32, attributes := #[] }, { accessFlags := 9, nameIndex := 40, descriptorIndex := 41, attributes := #[] }] 49 2 #[] #[])
  fields := #[]
  methods := #[k1m0, k1m1, k1m2, k1m3, k1m4, k1m5]
  instanceTypes := #[]
  staticTypes := #[]
  resolved := Array.replicate 46 none
  statics := none }

def pool2 : Array CpInfo := pool [(1, .methodref 2 3), (0, .class_ 4), (0, .nameAndType 5 6), (0, u "java/lang/Object"), (0, u "<init>"), (0, u "()V"), (0, .fieldref 8 9), (0, .class_ 10), (0, .nameAndType 11 12), (0, u "com/example/hermod/hermod/osp/SequenceWindow"), (0, u "m_nHighest"), (0, u "I"), (0, .fieldref 8 14), (0, .nameAndType 15 16), (0, u "m_nAccepted"), (0, u "J"), (0, .integer 65535), (0, u "WIDTH"), (2, u "MAX_SEQ"), (2, u "accept"), (0, u "(I)Z"), (1, u "isSpent"), (0, u "()Z")] 2

def k2c0 : Code := { maxStack := 2, maxLocals := 1, code := prog_19_method_1_code, exceptionTable := #[], attributes := #[] }
def k2m0 : Method := { name := "<init>", desc := "()V", sig := { parameters := [], returnType := none }, accessFlags := 0, code := some k2c0 }
def k2c1 : Code := { maxStack := 6, maxLocals := 4, code := prog_19_method_2_code, exceptionTable := #[], attributes := #[] }
def k2m1 : Method := { name := "accept", desc := "(I)Z", sig := { parameters := [.int], returnType := some .boolean }, accessFlags := 0, code := some k2c1 }
def k2c2 : Code := { maxStack := 2, maxLocals := 1, code := prog_19_method_3_code, exceptionTable := #[], attributes := #[] }
def k2m2 : Method := { name := "isSpent", desc := "()Z", sig := { parameters := [], returnType := some .boolean }, accessFlags := 0, code := some k2c2 }
/-- com/example/hermod/hermod/osp/SequenceWindow -/
def k2 : Class := { plain "com/example/hermod/hermod/osp/SequenceWindow" (some 0) with
  accessFlags := 32
  interfaces := #[]
  cf := some (fileOf pool2 8 #[] #[{ accessFlags := 0, nameIndex := 5, descriptorIndex := 6, attributes := #[] }, { accessFlags := 0, nameIndex := 24, descriptorIndex := 25, attributes := #[] }, { accessFlags := 0, nameIndex := 27, descriptorIndex := 28, attributes := #[] }] 32 2 #[] #[{ accessFlags := 24, nameIndex := 18, descriptorIndex := 12, attributes := #[] }, { accessFlags := 24, nameIndex := 21, descriptorIndex := 12, attributes := #[] }, { accessFlags := 2, nameIndex := 11, descriptorIndex := 12, attributes := #[] }, { accessFlags := 2, nameIndex := 15, descriptorIndex := 16, attributes := #[] }])
  fields := #[{ name := "WIDTH", type := .int, accessFlags := 24, slot := 0, constantValue := 0 }, { name := "MAX_SEQ", type := .int, accessFlags := 24, slot := 1, constantValue := 0 }, { name := "m_nHighest", type := .int, accessFlags := 2, slot := 0, constantValue := 0 }, { name := "m_nAccepted", type := .long, accessFlags := 2, slot := 1, constantValue := 0 }]
  methods := #[k2m0, k2m1, k2m2]
  instanceTypes := #[.int, .long]
  staticTypes := #[.int, .int]
  resolved := Array.replicate 31 none
  statics := none }

def pool3 : Array CpInfo := pool [(1, u "java/lang/Cloneable"), (0, .class_ 1), (0, u "java/lang/Object"), (0, .class_ 3)] 3

/-- java/lang/Cloneable -/
def k3 : Class := { plain "java/lang/Cloneable" (some 0) with
  accessFlags := 1537
  interfaces := #[]
  cf := some (fileOf pool3 2 #[] #[] 1537 4 #[] #[])
  fields := #[]
  methods := #[]
  instanceTypes := #[]
  staticTypes := #[]
  resolved := Array.replicate 8 none
  statics := none }

def pool4 : Array CpInfo := pool [(1, u "java/io/Serializable"), (0, .class_ 1), (0, u "java/lang/Object"), (0, .class_ 3)] 3

/-- java/io/Serializable -/
def k4 : Class := { plain "java/io/Serializable" (some 0) with
  accessFlags := 1537
  interfaces := #[]
  cf := some (fileOf pool4 2 #[] #[] 1537 4 #[] #[])
  fields := #[]
  methods := #[]
  instanceTypes := #[]
  staticTypes := #[]
  resolved := Array.replicate 8 none
  statics := none }

/-- the primitive byte -/
def k5 : Class := { plain "byte" none with kind := .primitive 'B', accessFlags := 0x411 }
/-- [B -/
def k6 : Class := { plain "[B" (some 0) with kind := .array 5 .byte, interfaces := #[3, 4], accessFlags := 1041 }

/-- the primitive int -/
def k7 : Class := { plain "int" none with kind := .primitive 'I', accessFlags := 0x411 }
/-- [I -/
def k8 : Class := { plain "[I" (some 0) with kind := .array 7 .int, interfaces := #[3, 4], accessFlags := 1041 }

def heap : Heap := #[]
def classes : Array Class := #[k0, k1, k2, k3, k4, k5, k6, k7, k8]
def interned : List (Array UInt16 × Addr) := []
def slotsUsed : Nat := 0
def theMethod : MethodId := ⟨1, 5⟩
def args0 : Array Value := #[.int 0, .int 1, .int 2, .int 3, .int 4]
def aboutOver (below : List Frame) : State where
  vm := { classes := classes, interned := interned.toArray }
  heap := heap
  slotsUsed := slotsUsed
  threads := #[{ frames := .invoking theMethod args0 :: below }]
def below0 : List Frame := [.native { method := ⟨0, 0⟩, args := #[] }]
def about1 : State := aboutOver below0
def p0 : Program := .bare "" "" ""
def e0 : Env := launch0.env 0 0 0
theorem w_frames : about1.frames = Frame.invoking theMethod args0 :: below0 := rfl
set_option maxRecDepth 65536 in
theorem w_args : argsFit about1.vm theMethod args0 = true := by decide +kernel
set_option maxRecDepth 65536 in
theorem w_heap : heapFits about1 = true := by decide +kernel
set_option maxRecDepth 65536 in
theorem w_runnable : about1.curStatus? = some .runnable := by decide +kernel
set_option maxRecDepth 65536 in
theorem w_alone : about1.alone = true := by decide +kernel
set_option maxRecDepth 65536 in
theorem w_named : about1.methodNamed? x = some theMethod := by decide +kernel
set_option maxRecDepth 65536 in
theorem w_hears : about1.hears theMethod below0 = true := by decide +kernel
set_option maxRecDepth 65536 in
theorem w_ripe : about1.ripe theMethod args0 below0 = true := by decide +kernel
theorem w_running : about1.status = .running := rfl
set_option maxRecDepth 65536 in
theorem w_room : about1.hasRoom e0.platform room_1 = true :=
  launch0.hasRoom_least _ room_1 (by decide +kernel) (by decide +kernel) (by decide +kernel) (by decide +kernel) (by decide +kernel) (by decide +kernel)
theorem allAtoms_all (ts : List Jvm.Cond) (a : Array Jvm.Value) (st : Jvm.State) : (allAtoms ts).before a st = ts.all (fun c => c.before a st) := by
  induction ts with
  | nil => rfl
  | cons c t ih =>
    show (Jvm.Cond.and c (allAtoms t)).before a st = _
    rw [Jvm.Cond.before_and, ih, List.all_cons]
def words1 : List Jvm.Cond := Jvm.Cond.code x code maxLocals ret :: tables_1
/-- a 'code' word, met by the world's own term for the bytes: nothing is compared byte by byte -/
theorem code_word {y : MethodName} {bytes : ByteArray} {mx : Nat} {rt : Option FieldType} {a : Array Value} {s : State} {m : MethodId} {meth : Method} {c : Code} (h1 : s.methodNamed? y = some m) (h2 : s.vm.method? m = some meth) (h3 : meth.code = some c) (h4 : c.code = bytes)
    (h5 : (c.maxLocals == mx && c.exceptionTable.isEmpty && decide (c.maxStack ≤ mostOperands) && decide (meth.sig.returnType = rt) && !meth.locks && decide (parseMethodDescriptor y.desc = some meth.sig)) = true) : (Jvm.Cond.code y bytes mx rt).before a s = true := by
  simp only [Bool.and_eq_true, beq_iff_eq, Bool.not_eq_true', decide_eq_true_eq] at h5
  obtain ⟨⟨⟨⟨⟨g1, g2⟩, g3⟩, g4⟩, g5⟩, g6⟩ := h5
  simp [Cond.before, Cond.holds, Cond.value, h1, h2, h3, h4, g1, g2, g3, g4, g5, g6]
def isCode : Jvm.Cond → Bool
  | .code _ _ _ _ => true
  | _ => false
theorem all_split {L : List Jvm.Cond} {P : Jvm.Cond → Bool} (h1 : L.all (fun c => isCode c || P c) = true) (h2 : ∀ c ∈ L.filter isCode, P c = true) : L.all P = true := by
  refine List.all_eq_true.mpr fun c hc => ?_
  have h := List.all_eq_true.mp h1 c hc
  rcases Bool.eq_false_or_eq_true (isCode c) with hi | hi
  · exact h2 c (List.mem_filter.mpr ⟨hc, hi⟩)
  · simpa [hi] using h
set_option maxRecDepth 65536 in
theorem w_c0 : (Jvm.Cond.code x code maxLocals ret).before args0 about1 = true := code_word (m := ⟨1, 5⟩) (meth := k1m5) (c := k1c5) (by decide +kernel) rfl rfl rfl (by decide +kernel)
set_option maxRecDepth 65536 in
theorem w_c1 : (Jvm.Cond.code ({ cls := "com/example/hermod/hermod/osp/SequenceWindowAcceptPinLaw", name := "next", desc := "(II)I" } : Jvm.MethodName) method_4_code (2 : Nat) (Option.some Jvm.ClassFile.FieldType.int)).before args0 about1 = true := code_word (m := ⟨1, 3⟩) (meth := k1m3) (c := k1c3) (by decide +kernel) rfl rfl rfl (by decide +kernel)
set_option maxRecDepth 65536 in
theorem w_c2 : (Jvm.Cond.code ({ cls := "com/example/hermod/hermod/osp/SequenceWindow", name := "<init>", desc := "()V" } : Jvm.MethodName) prog_19_method_1_code (1 : Nat) (Option.none : Option Jvm.ClassFile.FieldType)).before args0 about1 = true := code_word (m := ⟨2, 0⟩) (meth := k2m0) (c := k2c0) (by decide +kernel) rfl rfl rfl (by decide +kernel)
set_option maxRecDepth 65536 in
theorem w_c3 : (Jvm.Cond.code ({ cls := "java/lang/Object", name := "<init>", desc := "()V" } : Jvm.MethodName) object_method_1_code (1 : Nat) (Option.none : Option Jvm.ClassFile.FieldType)).before args0 about1 = true := code_word (m := ⟨0, 0⟩) (meth := k0m0) (c := k0c0) (by decide +kernel) rfl rfl rfl (by decide +kernel)
set_option maxRecDepth 65536 in
theorem w_c4 : (Jvm.Cond.code ({ cls := "com/example/hermod/hermod/osp/SequenceWindowAcceptPinLaw", name := "step", desc := "(Lcom/example/hermod/hermod/osp/SequenceWindow;II[I[I)Z" } : Jvm.MethodName) method_5_code (7 : Nat) (Option.some Jvm.ClassFile.FieldType.boolean)).before args0 about1 = true := code_word (m := ⟨1, 4⟩) (meth := k1m4) (c := k1c4) (by decide +kernel) rfl rfl rfl (by decide +kernel)
set_option maxRecDepth 65536 in
theorem w_c5 : (Jvm.Cond.code ({ cls := "com/example/hermod/hermod/osp/SequenceWindowAcceptPinLaw", name := "expected", desc := "(II[I)Z" } : Jvm.MethodName) method_3_code (3 : Nat) (Option.some Jvm.ClassFile.FieldType.boolean)).before args0 about1 = true := code_word (m := ⟨1, 2⟩) (meth := k1m2) (c := k1c2) (by decide +kernel) rfl rfl rfl (by decide +kernel)
set_option maxRecDepth 65536 in
theorem w_c6 : (Jvm.Cond.code ({ cls := "com/example/hermod/hermod/osp/SequenceWindow", name := "accept", desc := "(I)Z" } : Jvm.MethodName) prog_19_method_2_code (4 : Nat) (Option.some Jvm.ClassFile.FieldType.boolean)).before args0 about1 = true := code_word (m := ⟨2, 1⟩) (meth := k2m1) (c := k2c1) (by decide +kernel) rfl rfl rfl (by decide +kernel)
set_option maxRecDepth 65536 in
theorem w_c7 : (Jvm.Cond.code ({ cls := "com/example/hermod/hermod/osp/SequenceWindowAcceptPinLaw", name := "in", desc := "(I[I)Z" } : Jvm.MethodName) method_2_code (2 : Nat) (Option.some Jvm.ClassFile.FieldType.boolean)).before args0 about1 = true := code_word (m := ⟨1, 1⟩) (meth := k1m1) (c := k1c1) (by decide +kernel) rfl rfl rfl (by decide +kernel)
set_option maxRecDepth 65536 in
theorem w_c8 : (Jvm.Cond.code ({ cls := "com/example/hermod/hermod/osp/SequenceWindow", name := "isSpent", desc := "()Z" } : Jvm.MethodName) prog_19_method_3_code (1 : Nat) (Option.some Jvm.ClassFile.FieldType.boolean)).before args0 about1 = true := code_word (m := ⟨2, 2⟩) (meth := k2m2) (c := k2c2) (by decide +kernel) rfl rfl rfl (by decide +kernel)
def codes1 : List Jvm.Cond := [Jvm.Cond.code x code maxLocals ret, Jvm.Cond.code ({ cls := "com/example/hermod/hermod/osp/SequenceWindowAcceptPinLaw", name := "next", desc := "(II)I" } : Jvm.MethodName) method_4_code (2 : Nat) (Option.some Jvm.ClassFile.FieldType.int), Jvm.Cond.code ({ cls := "com/example/hermod/hermod/osp/SequenceWindow", name := "<init>", desc := "()V" } : Jvm.MethodName) prog_19_method_1_code (1 : Nat) (Option.none : Option Jvm.ClassFile.FieldType), Jvm.Cond.code ({ cls := "java/lang/Object", name := "<init>", desc := "()V" } : Jvm.MethodName) object_method_1_code (1 : Nat) (Option.none : Option Jvm.ClassFile.FieldType), Jvm.Cond.code ({ cls := "com/example/hermod/hermod/osp/SequenceWindowAcceptPinLaw", name := "step", desc := "(Lcom/example/hermod/hermod/osp/SequenceWindow;II[I[I)Z" } : Jvm.MethodName) method_5_code (7 : Nat) (Option.some Jvm.ClassFile.FieldType.boolean), Jvm.Cond.code ({ cls := "com/example/hermod/hermod/osp/SequenceWindowAcceptPinLaw", name := "expected", desc := "(II[I)Z" } : Jvm.MethodName) method_3_code (3 : Nat) (Option.some Jvm.ClassFile.FieldType.boolean), Jvm.Cond.code ({ cls := "com/example/hermod/hermod/osp/SequenceWindow", name := "accept", desc := "(I)Z" } : Jvm.MethodName) prog_19_method_2_code (4 : Nat) (Option.some Jvm.ClassFile.FieldType.boolean), Jvm.Cond.code ({ cls := "com/example/hermod/hermod/osp/SequenceWindowAcceptPinLaw", name := "in", desc := "(I[I)Z" } : Jvm.MethodName) method_2_code (2 : Nat) (Option.some Jvm.ClassFile.FieldType.boolean), Jvm.Cond.code ({ cls := "com/example/hermod/hermod/osp/SequenceWindow", name := "isSpent", desc := "()Z" } : Jvm.MethodName) prog_19_method_3_code (1 : Nat) (Option.some Jvm.ClassFile.FieldType.boolean)]
set_option maxRecDepth 65536 in
theorem codes_eq : words1.filter isCode = codes1 := rfl
theorem w_codes : ∀ c ∈ words1.filter isCode, c.before args0 about1 = true := by
  rw [codes_eq]
  intro c hc
  simp only [codes1, List.mem_cons, List.not_mem_nil, or_false] at hc
  rcases hc with rfl | rfl | rfl | rfl | rfl | rfl | rfl | rfl | rfl
  · exact w_c0
  · exact w_c1
  · exact w_c2
  · exact w_c3
  · exact w_c4
  · exact w_c5
  · exact w_c6
  · exact w_c7
  · exact w_c8
set_option maxRecDepth 65536 in
theorem w_t1 : (words1.take 24).all (fun c => isCode c || c.before args0 about1) = true := by decide +kernel
set_option maxRecDepth 65536 in
theorem w_t2 : (words1.drop 24).all (fun c => isCode c || c.before args0 about1) = true := by decide +kernel
theorem w_tables : (allAtoms (Jvm.Cond.code x code maxLocals ret :: tables_1)).before args0 about1 = true := by
  rw [allAtoms_all]
  show words1.all (fun c => c.before args0 about1) = true
  refine all_split ?_ w_codes
  rw [← List.take_append_drop 24 words1, List.all_append, w_t1, w_t2]
  rfl
set_option maxRecDepth 65536 in
theorem w_case : (Jvm.Cond.and given_1 narrow_1).before args0 about1 = true := by decide +kernel
theorem w_applies : (headSpec (Jvm.Cond.code x code maxLocals ret :: tables_1) room_1).applies x e0.platform about1 = true :=
  (Spec.applies_iff w_frames).mpr ⟨w_running, w_runnable, w_alone, w_named, w_hears, w_ripe, w_room, w_tables⟩
theorem atStart : AtStart classFile x code maxLocals ret World_1 tables_1 room_1 Calls_1 rest_1 Pre_1 launch0 p0 e0 about1 theMethod args0 below0 :=
  ⟨lists_1, trivial, launch0.admits_env _ _ _, launch0.least_env, fairChoices_fair.cas, fairChoices_fair.clock, w_frames, w_args, w_heap, w_applies, trivial, trivial, w_case⟩
end start1
theorem witness_1 : WitnessClaimed_1 := ⟨start1.p0, start1.e0, start1.about1, start1.theMethod, start1.args0, start1.below0, start1.atStart⟩
end Jvm.Pilot.@@N@@

import JvmDerived
import JvmDerived.Pilot.@@N@@Statement
import JvmDerived.Pilot.@@N@@Code
set_option linter.unusedVariables false
set_option linter.unusedSimpArgs false
namespace Jvm.RoadKit
open Sem ClassFile Op Lib Jvm.Stand Jvm.Free Jvm.LawKit
section Own
variable {p : Program} {l : Launch} {e : Env} {R : Room} {s : State} {m : MethodId} {args : Array Value} {below : List Frame} {meth : Method} {c : Code} {T : State} {locs : List Loc} {cells slots : Nat} {Q : Option Value → Heap → List Loc → Prop} {Φ : Outcome → State → List Loc → Prop} {k n : Nat} {pc pc' : Nat} {L L' : Array Slot} {S : List Value}
def OG (p : Program) (e : Env) (below : List Frame) (Φ : Outcome → State → List Loc → Prop) (Q : Option Value → Heap → List Loc → Prop) (t : State) : Prop :=
  ∃ s₂ o, Steps p.tables e below t s₂ ∧ s₂.status = .running ∧ Ended s₂ below o ∧ ∃ v L, o = .returned v ∧ Q v s₂.heap L ∧ Φ o s₂ L
abbrev FE (s : State) (k n : Nat) : Outcome → State → List Loc → Prop := fun o t L => FrameEnd s o t L k n
abbrev FEW (s : State) (k n : Nat) : Outcome → State → List Loc → Prop := fun o t L => ReturnedEndW s o t L k n
theorem og_of {t t' : State} (st : ∀ g, Steps p.tables e below t' g → Steps p.tables e below t g) (G : OG p e below Φ Q t') : OG p e below Φ Q t := by
  obtain ⟨s₂, o, h, r⟩ := G; exact ⟨s₂, o, st _ h, r⟩
theorem og_tr {t t' : State} (st : Steps p.tables e below t t') (G : OG p e below Φ Q t') : OG p e below Φ Q t := og_of (fun _ k => st.trans k) G
def Lv (e : Env) (below : List Frame) (Φ : Outcome → State → List Loc → Prop) (m : MethodId) (meth : Method) (T : State) (locs : List Loc) : Prop :=
  ∀ v : Option Value, (meth.sig.returnType = none → v = none) → ∃ fs, (∀ (f : JFrame) (acts : List Action), f.method = m → f.locked = none → f.entered = [] → (doReturn e (T.setTop f) acts v).1 = T.setFrames fs) ∧ (T.setFrames fs).status = .running ∧ Ended (T.setFrames fs) below (.returned v) ∧ Φ (.returned v) (T.setFrames fs) locs
theorem own_lv (X : Stand p l e R s m args below meth c T locs cells slots) (hlk : meth.locks = false) (hk : cells ≤ k) (hn : slots ≤ n) : Lv e below (FE s k n) m meth T locs := fun v hv => by
  obtain ⟨fs, hr, hrun, hended, hW, hsame⟩ := X.leave (v := v) hv hlk
  exact ⟨fs, hr, hrun, hended, ⟨_, rfl⟩, hW, hsame.mono hk hn⟩
theorem own_lvW {vm₁ : Vm} {q : Nat} (X : Stand p l e R (s.setVm vm₁) m args below meth c T locs cells slots) (hlk : meth.locks = false) (hS : s.Since vm₁ q) (hq : q ≤ T.heap.size) (hk : cells ≤ k) (hn : slots ≤ n) : Lv e below (FEW s k n) m meth T locs := fun v hv => by
  obtain ⟨fs, hr, hrun, hended, h1, h2, h3, h4⟩ := X.leaveW hS hq (v := v) hv hlk
  exact ⟨fs, hr, hrun, hended, h1, h2, h3, h4.mono hk hn⟩
theorem og_end (hE : Lv e below Φ m meth T locs) {v : Option Value} (hv : meth.sig.returnType = none → v = none) {g : JFrame}
    (st : ∀ fs, (∀ (f : JFrame) (acts : List Action), f.method = m → f.locked = none → f.entered = [] → (doReturn e (T.setTop f) acts v).1 = T.setFrames fs) → Steps p.tables e below (T.setTop g) (T.setFrames fs))
    (hQ : Q v T.heap locs) : OG p e below Φ Q (T.setTop g) := by
  obtain ⟨fs, hr, hrun, hended, hF⟩ := hE v hv
  exact ⟨_, _, st fs hr, hrun, hended, _, _, rfl, hQ, hF⟩
theorem own_mono (X : Stand p l e R s m args below meth c T locs cells slots) {cells' slots' : Nat} (hc : cells ≤ cells') (hs : slots ≤ slots') : Stand p l e R s m args below meth c T locs cells' slots' :=
  ⟨X.admits, X.cas, X.clock, X.frames, X.room, X.hears, X.method, X.code, X.here, X.tail, X.warmed, X.limits, X.bytes, X.same.mono hc hs⟩
theorem retI (X : Stand p l e R s m args below meth c T locs cells slots) (hx : p.tables.exec = Jvm.exec) {pc : Nat} {Ls : Array Slot} {z : Int32} {rest : List Value} (hret : meth.sig.returnType = some .int) (hd : decode c.code pc = .ok (.ireturn, 1)) {fs : List Frame}
    (hl : ∀ (f : JFrame) (acts : List Action), f.method = m → f.locked = none → f.entered = [] → (doReturn e (T.setTop f) acts (some (.int z))).1 = T.setFrames fs) : Steps p.tables e below (T.setTop (mkF m pc Ls (.int z :: rest))) (T.setFrames fs) := by
  have hm' : T.vm.method? m = some meth := X.method'
  have hn : narrow .int (.int z) = .int z := rfl
  show Steps p.tables e below (T.setTop { method := m, pc := pc, locals := Ls, stack := _ :: rest, locked := none }) _
  jvm_step X.here [X.here.top, hx, hd, hm', hret, hn]
  first | (intro acts; rw [hl _ acts rfl rfl rfl]) | rw [hl _ _ rfl rfl rfl]
  exact Steps.refl _
theorem o_retI (X : Stand p l e R s m args below meth c T locs cells slots) (hx : p.tables.exec = Jvm.exec) (hret : meth.sig.returnType = some .int) (hE : Lv e below Φ m meth T locs) (hd : decode c.code pc = .ok (.ireturn, 1)) {z : Int32} (hQ : Q (some (.int z)) T.heap locs) : OG p e below Φ Q (T.setTop (mkF m pc L (.int z :: S))) :=
  og_end hE (fun h => by rw [hret] at h; cases h) (fun fs hr => retI X hx hret hd hr) hQ
theorem o_retN (X : Stand p l e R s m args below meth c T locs cells slots) (hx : p.tables.exec = Jvm.exec) {t : FieldType} (hret : meth.sig.returnType = some t) (ht : t = .boolean ∨ t = .byte ∨ t = .char ∨ t = .short) (hE : Lv e below Φ m meth T locs) (hd : decode c.code pc = .ok (.ireturn, 1)) {z : Int32} (hQ : Q (some (.int (nar t z))) T.heap locs) : OG p e below Φ Q (T.setTop (mkF m pc L (.int z :: S))) :=
  og_end hE (fun h => by rw [hret] at h; cases h) (fun fs hr => retN X hx hret ht hd hr) hQ
theorem o_retB (X : Stand p l e R s m args below meth c T locs cells slots) (hx : p.tables.exec = Jvm.exec) (hret : meth.sig.returnType = some .boolean) (hE : Lv e below Φ m meth T locs) (hd : decode c.code pc = .ok (.ireturn, 1)) {z : Int32} (hz : z = 0 ∨ z = 1) (hQ : Q (some (.int z)) T.heap locs) : OG p e below Φ Q (T.setTop (mkF m pc L (.int z :: S))) :=
  o_retN X hx hret (Or.inl rfl) hE hd (by have q : nar .boolean z = z := by { rcases hz with rfl | rfl <;> rfl }; rw [q]; exact hQ)
theorem o_retL (X : Stand p l e R s m args below meth c T locs cells slots) (hx : p.tables.exec = Jvm.exec) (hret : meth.sig.returnType = some .long) (hE : Lv e below Φ m meth T locs) (hd : decode c.code pc = .ok (.lreturn, 1)) {z : Int64} (hQ : Q (some (.long z)) T.heap locs) : OG p e below Φ Q (T.setTop (mkF m pc L (.long z :: S))) :=
  og_end hE (fun h => by rw [hret] at h; cases h) (fun fs hr => retOut X hx hret rfl (Or.inr (Or.inl ⟨rfl, rfl, z, rfl⟩)) hd hr) hQ
theorem o_retA (X : Stand p l e R s m args below meth c T locs cells slots) (hx : p.tables.exec = Jvm.exec) {t : FieldType} (hret : meth.sig.returnType = some t) (ht : t.isReference = true) (hE : Lv e below Φ m meth T locs) (hd : decode c.code pc = .ok (.areturn, 1)) {w : Value} (hw : w.isRef = true) (hnw : narrow t w = w) (hQ : Q (some w) T.heap locs) : OG p e below Φ Q (T.setTop (mkF m pc L (w :: S))) :=
  og_end hE (fun h => by rw [hret] at h; cases h) (fun fs hr => retOut X hx hret hnw (Or.inr (Or.inr (Or.inr (Or.inr ⟨rfl, ht, hw⟩)))) hd hr) hQ
theorem o_ret0 (X : Stand p l e R s m args below meth c T locs cells slots) (hx : p.tables.exec = Jvm.exec) (hret : meth.sig.returnType = none) (hE : Lv e below Φ m meth T locs) (hd : decode c.code pc = .ok (.return_, 1)) (hQ : Q none T.heap locs) : OG p e below Φ Q (T.setTop (mkF m pc L [])) :=
  og_end hE (fun _ => rfl) (fun fs hr => X.returnOut hx hret hd hr) hQ
theorem lcY_eq {x y : Int64} (h : x = y) : ifCond.holds .eq (lcmpW x y) = true ∧ ifCond.holds .ne (lcmpW x y) = false := ⟨(if0 _ _).trans (teq ((lw_eq x y).mpr h)).1, (if0 _ _).trans (teq ((lw_eq x y).mpr h)).2⟩
theorem lcN_eq {x y : Int64} (h : ¬ x = y) : ifCond.holds .eq (lcmpW x y) = false ∧ ifCond.holds .ne (lcmpW x y) = true := ⟨(if0 _ _).trans (feq (mt (lw_eq x y).mp h)).1, (if0 _ _).trans (feq (mt (lw_eq x y).mp h)).2⟩
theorem lcY_lt {x y : Int64} (h : x < y) : ifCond.holds .lt (lcmpW x y) = true ∧ ifCond.holds .ge (lcmpW x y) = false := ⟨(if0 _ _).trans (tlt ((lw_lt x y).mpr h)).1, (if0 _ _).trans (tlt ((lw_lt x y).mpr h)).2.1⟩
theorem lcN_lt {x y : Int64} (h : ¬ x < y) : ifCond.holds .lt (lcmpW x y) = false ∧ ifCond.holds .ge (lcmpW x y) = true := ⟨(if0 _ _).trans (flt (mt (lw_lt x y).mp h)).1, (if0 _ _).trans (flt (mt (lw_lt x y).mp h)).2.1⟩
theorem lcY_gt {x y : Int64} (h : y < x) : ifCond.holds .gt (lcmpW x y) = true ∧ ifCond.holds .le (lcmpW x y) = false := ⟨(if0 _ _).trans (tlt ((lw_gt x y).mpr h)).2.2.1, (if0 _ _).trans (tlt ((lw_gt x y).mpr h)).2.2.2⟩
theorem lcN_gt {x y : Int64} (h : ¬ y < x) : ifCond.holds .gt (lcmpW x y) = false ∧ ifCond.holds .le (lcmpW x y) = true := ⟨(if0 _ _).trans (flt (mt (lw_gt x y).mp h)).2.2.1, (if0 _ _).trans (flt (mt (lw_gt x y).mp h)).2.2.2⟩
theorem o_iloadN (X : Stand p l e R s m args below meth c T locs cells slots) (hx : p.tables.exec = Jvm.exec) {i : Fin 4} {v : Int32} (hp : pc + 1 = pc') (hd : decode c.code pc = .ok (.iload_n i, 1)) (hl : L[i.val]? = some (.val (.int v))) (G : OG p e below Φ Q (T.setTop (mkF m pc' L (.int v :: S)))) : OG p e below Φ Q (T.setTop (mkF m pc L S)) := by
  subst hp; exact og_of (fun _ st => XS.iloadN X.here hx rfl hd hl st) G
theorem o_iload (X : Stand p l e R s m args below meth c T locs cells slots) (hx : p.tables.exec = Jvm.exec) {i : Nat} {v : Int32} (hp : pc + 2 = pc') (hd : decode c.code pc = .ok (.iload i, 2)) (hl : L[i]? = some (.val (.int v))) (G : OG p e below Φ Q (T.setTop (mkF m pc' L (.int v :: S)))) : OG p e below Φ Q (T.setTop (mkF m pc L S)) := by
  subst hp; exact og_of (fun _ st => XS.iload X.here hx rfl hd hl st) G
theorem o_istoreN (X : Stand p l e R s m args below meth c T locs cells slots) (hx : p.tables.exec = Jvm.exec) {i : Fin 4} {v : Int32} (hp : pc + 1 = pc') (hd : decode c.code pc = .ok (.istore_n i, 1)) (hl : storeLocals L i.val (.int v) = some L') (G : OG p e below Φ Q (T.setTop (mkF m pc' L' S))) : OG p e below Φ Q (T.setTop (mkF m pc L (.int v :: S))) := by
  subst hp; exact og_of (fun _ st => XS.istoreN X.here hx rfl hd rfl hl st) G
theorem o_istore (X : Stand p l e R s m args below meth c T locs cells slots) (hx : p.tables.exec = Jvm.exec) {i : Nat} {v : Int32} (hp : pc + 2 = pc') (hd : decode c.code pc = .ok (.istore i, 2)) (hl : storeLocals L i (.int v) = some L') (G : OG p e below Φ Q (T.setTop (mkF m pc' L' S))) : OG p e below Φ Q (T.setTop (mkF m pc L (.int v :: S))) := by
  subst hp; exact og_of (fun _ st => XS.istore X.here hx rfl hd rfl hl st) G
theorem o_lloadN (X : Stand p l e R s m args below meth c T locs cells slots) (hx : p.tables.exec = Jvm.exec) {i : Fin 4} {v : Int64} (hp : pc + 1 = pc') (hd : decode c.code pc = .ok (.lload_n i, 1)) (hl : L[i.val]? = some (.val (.long v))) (G : OG p e below Φ Q (T.setTop (mkF m pc' L (.long v :: S)))) : OG p e below Φ Q (T.setTop (mkF m pc L S)) := by
  subst hp; exact og_of (fun _ st => XS.lloadN X.here hx rfl hd hl st) G
theorem o_lload (X : Stand p l e R s m args below meth c T locs cells slots) (hx : p.tables.exec = Jvm.exec) {i : Nat} {v : Int64} (hp : pc + 2 = pc') (hd : decode c.code pc = .ok (.lload i, 2)) (hl : L[i]? = some (.val (.long v))) (G : OG p e below Φ Q (T.setTop (mkF m pc' L (.long v :: S)))) : OG p e below Φ Q (T.setTop (mkF m pc L S)) := by
  subst hp; exact og_of (fun _ st => XS.lload X.here hx rfl hd hl st) G
theorem o_lstoreN (X : Stand p l e R s m args below meth c T locs cells slots) (hx : p.tables.exec = Jvm.exec) {i : Fin 4} {v : Int64} (hp : pc + 1 = pc') (hd : decode c.code pc = .ok (.lstore_n i, 1)) (hl : storeLocals L i.val (.long v) = some L') (G : OG p e below Φ Q (T.setTop (mkF m pc' L' S))) : OG p e below Φ Q (T.setTop (mkF m pc L (.long v :: S))) := by
  subst hp; exact og_of (fun _ st => XS.lstoreN X.here hx rfl hd rfl hl st) G
theorem o_lstore (X : Stand p l e R s m args below meth c T locs cells slots) (hx : p.tables.exec = Jvm.exec) {i : Nat} {v : Int64} (hp : pc + 2 = pc') (hd : decode c.code pc = .ok (.lstore i, 2)) (hl : storeLocals L i (.long v) = some L') (G : OG p e below Φ Q (T.setTop (mkF m pc' L' S))) : OG p e below Φ Q (T.setTop (mkF m pc L (.long v :: S))) := by
  subst hp; exact og_of (fun _ st => XS.lstore X.here hx rfl hd rfl hl st) G
theorem o_aloadN (X : Stand p l e R s m args below meth c T locs cells slots) (hx : p.tables.exec = Jvm.exec) {i : Fin 4} {v : Value} (hp : pc + 1 = pc') (hd : decode c.code pc = .ok (.aload_n i, 1)) (hl : L[i.val]? = some (.val v)) (hv : v.isRef = true) (G : OG p e below Φ Q (T.setTop (mkF m pc' L (v :: S)))) : OG p e below Φ Q (T.setTop (mkF m pc L S)) := by
  subst hp; exact og_of (fun _ st => XS.aloadN X.here hx rfl hd hl hv st) G
theorem o_aload (X : Stand p l e R s m args below meth c T locs cells slots) (hx : p.tables.exec = Jvm.exec) {i : Nat} {v : Value} (hp : pc + 2 = pc') (hd : decode c.code pc = .ok (.aload i, 2)) (hl : L[i]? = some (.val v)) (hv : v.isRef = true) (G : OG p e below Φ Q (T.setTop (mkF m pc' L (v :: S)))) : OG p e below Φ Q (T.setTop (mkF m pc L S)) := by
  subst hp; exact og_of (fun _ st => XS.aload X.here hx rfl hd hl hv st) G
theorem o_astoreN (X : Stand p l e R s m args below meth c T locs cells slots) (hx : p.tables.exec = Jvm.exec) {i : Fin 4} {v : Value} (hp : pc + 1 = pc') (hd : decode c.code pc = .ok (.astore_n i, 1)) (hv : v.isRef = true) (hl : storeLocals L i.val v = some L') (G : OG p e below Φ Q (T.setTop (mkF m pc' L' S))) : OG p e below Φ Q (T.setTop (mkF m pc L (v :: S))) := by
  subst hp; exact og_of (fun _ st => XS.astoreN X.here hx rfl hd rfl hv hl st) G
theorem o_astore (X : Stand p l e R s m args below meth c T locs cells slots) (hx : p.tables.exec = Jvm.exec) {i : Nat} {v : Value} (hp : pc + 2 = pc') (hd : decode c.code pc = .ok (.astore i, 2)) (hv : v.isRef = true) (hl : storeLocals L i v = some L') (G : OG p e below Φ Q (T.setTop (mkF m pc' L' S))) : OG p e below Φ Q (T.setTop (mkF m pc L (v :: S))) := by
  subst hp; exact og_of (fun _ st => XS.astore X.here hx rfl hd rfl hv hl st) G
theorem o_iconst (X : Stand p l e R s m args below meth c T locs cells slots) (hx : p.tables.exec = Jvm.exec) {i : Int} {z : Int32} (hp : pc + 1 = pc') (hd : decode c.code pc = .ok (.iconst i, 1)) (hz : Int32.ofInt i = z) (G : OG p e below Φ Q (T.setTop (mkF m pc' L (.int z :: S)))) : OG p e below Φ Q (T.setTop (mkF m pc L S)) := by
  subst hp hz; exact og_of (fun _ st => XS.iconst X.here hx rfl hd st) G
theorem o_bipush (X : Stand p l e R s m args below meth c T locs cells slots) (hx : p.tables.exec = Jvm.exec) {i : Int} {z : Int32} (hp : pc + 2 = pc') (hd : decode c.code pc = .ok (.bipush i, 2)) (hz : (Int8.ofInt i).toInt32 = z) (G : OG p e below Φ Q (T.setTop (mkF m pc' L (.int z :: S)))) : OG p e below Φ Q (T.setTop (mkF m pc L S)) := by
  subst hp hz; exact og_of (fun _ st => XS.bipush X.here hx rfl hd st) G
theorem o_sipush (X : Stand p l e R s m args below meth c T locs cells slots) (hx : p.tables.exec = Jvm.exec) {i : Int} {z : Int32} (hp : pc + 3 = pc') (hd : decode c.code pc = .ok (.sipush i, 3)) (hz : (Int16.ofInt i).toInt32 = z) (G : OG p e below Φ Q (T.setTop (mkF m pc' L (.int z :: S)))) : OG p e below Φ Q (T.setTop (mkF m pc L S)) := by
  subst hp hz; exact og_of (fun _ st => XS.sipush X.here hx rfl hd st) G
theorem o_lconst (X : Stand p l e R s m args below meth c T locs cells slots) (hx : p.tables.exec = Jvm.exec) {i : Fin 2} {z : Int64} (hp : pc + 1 = pc') (hd : decode c.code pc = .ok (.lconst i, 1)) (hz : Int64.ofNat i = z) (G : OG p e below Φ Q (T.setTop (mkF m pc' L (.long z :: S)))) : OG p e below Φ Q (T.setTop (mkF m pc L S)) := by
  subst hp hz; exact og_of (fun _ st => XS.lconst X.here hx rfl hd st) G
theorem o_aconst_null (X : Stand p l e R s m args below meth c T locs cells slots) (hx : p.tables.exec = Jvm.exec) (hp : pc + 1 = pc') (hd : decode c.code pc = .ok (.aconst_null, 1))  (G : OG p e below Φ Q (T.setTop (mkF m pc' L (.null :: S)))) : OG p e below Φ Q (T.setTop (mkF m pc L S)) := by
  subst hp; exact og_of (fun _ st => XS.aconstNull X.here hx rfl hd st) G
theorem o_iadd (X : Stand p l e R s m args below meth c T locs cells slots) (hx : p.tables.exec = Jvm.exec) {x : Int32} {y : Int32} {z : Int32} (hp : pc + 1 = pc') (hd : decode c.code pc = .ok (.iadd, 1)) (hz : x + y = z) (G : OG p e below Φ Q (T.setTop (mkF m pc' L (.int z :: S)))) : OG p e below Φ Q (T.setTop (mkF m pc L (.int y :: .int x :: S))) := by
  subst hp hz; exact og_of (fun _ st => XS.iadd X.here hx rfl hd rfl st) G
theorem o_ladd (X : Stand p l e R s m args below meth c T locs cells slots) (hx : p.tables.exec = Jvm.exec) {x : Int64} {y : Int64} {z : Int64} (hp : pc + 1 = pc') (hd : decode c.code pc = .ok (.ladd, 1)) (hz : x + y = z) (G : OG p e below Φ Q (T.setTop (mkF m pc' L (.long z :: S)))) : OG p e below Φ Q (T.setTop (mkF m pc L (.long y :: .long x :: S))) := by
  subst hp hz; exact og_of (fun _ st => XS.ladd X.here hx rfl hd rfl st) G
theorem o_isub (X : Stand p l e R s m args below meth c T locs cells slots) (hx : p.tables.exec = Jvm.exec) {x : Int32} {y : Int32} {z : Int32} (hp : pc + 1 = pc') (hd : decode c.code pc = .ok (.isub, 1)) (hz : x - y = z) (G : OG p e below Φ Q (T.setTop (mkF m pc' L (.int z :: S)))) : OG p e below Φ Q (T.setTop (mkF m pc L (.int y :: .int x :: S))) := by
  subst hp hz; exact og_of (fun _ st => XS.isub X.here hx rfl hd rfl st) G
theorem o_lsub (X : Stand p l e R s m args below meth c T locs cells slots) (hx : p.tables.exec = Jvm.exec) {x : Int64} {y : Int64} {z : Int64} (hp : pc + 1 = pc') (hd : decode c.code pc = .ok (.lsub, 1)) (hz : x - y = z) (G : OG p e below Φ Q (T.setTop (mkF m pc' L (.long z :: S)))) : OG p e below Φ Q (T.setTop (mkF m pc L (.long y :: .long x :: S))) := by
  subst hp hz; exact og_of (fun _ st => XS.lsub X.here hx rfl hd rfl st) G
theorem o_imul (X : Stand p l e R s m args below meth c T locs cells slots) (hx : p.tables.exec = Jvm.exec) {x : Int32} {y : Int32} {z : Int32} (hp : pc + 1 = pc') (hd : decode c.code pc = .ok (.imul, 1)) (hz : x * y = z) (G : OG p e below Φ Q (T.setTop (mkF m pc' L (.int z :: S)))) : OG p e below Φ Q (T.setTop (mkF m pc L (.int y :: .int x :: S))) := by
  subst hp hz; exact og_of (fun _ st => XS.imul X.here hx rfl hd rfl st) G
theorem o_lmul (X : Stand p l e R s m args below meth c T locs cells slots) (hx : p.tables.exec = Jvm.exec) {x : Int64} {y : Int64} {z : Int64} (hp : pc + 1 = pc') (hd : decode c.code pc = .ok (.lmul, 1)) (hz : x * y = z) (G : OG p e below Φ Q (T.setTop (mkF m pc' L (.long z :: S)))) : OG p e below Φ Q (T.setTop (mkF m pc L (.long y :: .long x :: S))) := by
  subst hp hz; exact og_of (fun _ st => XS.lmul X.here hx rfl hd rfl st) G
theorem o_iand (X : Stand p l e R s m args below meth c T locs cells slots) (hx : p.tables.exec = Jvm.exec) {x : Int32} {y : Int32} {z : Int32} (hp : pc + 1 = pc') (hd : decode c.code pc = .ok (.iand, 1)) (hz : x &&& y = z) (G : OG p e below Φ Q (T.setTop (mkF m pc' L (.int z :: S)))) : OG p e below Φ Q (T.setTop (mkF m pc L (.int y :: .int x :: S))) := by
  subst hp hz; exact og_of (fun _ st => XS.iand X.here hx rfl hd rfl st) G
theorem o_land (X : Stand p l e R s m args below meth c T locs cells slots) (hx : p.tables.exec = Jvm.exec) {x : Int64} {y : Int64} {z : Int64} (hp : pc + 1 = pc') (hd : decode c.code pc = .ok (.land, 1)) (hz : x &&& y = z) (G : OG p e below Φ Q (T.setTop (mkF m pc' L (.long z :: S)))) : OG p e below Φ Q (T.setTop (mkF m pc L (.long y :: .long x :: S))) := by
  subst hp hz; exact og_of (fun _ st => XS.land X.here hx rfl hd rfl st) G
theorem o_ior (X : Stand p l e R s m args below meth c T locs cells slots) (hx : p.tables.exec = Jvm.exec) {x : Int32} {y : Int32} {z : Int32} (hp : pc + 1 = pc') (hd : decode c.code pc = .ok (.ior, 1)) (hz : x ||| y = z) (G : OG p e below Φ Q (T.setTop (mkF m pc' L (.int z :: S)))) : OG p e below Φ Q (T.setTop (mkF m pc L (.int y :: .int x :: S))) := by
  subst hp hz; exact og_of (fun _ st => XS.ior X.here hx rfl hd rfl st) G
theorem o_lor (X : Stand p l e R s m args below meth c T locs cells slots) (hx : p.tables.exec = Jvm.exec) {x : Int64} {y : Int64} {z : Int64} (hp : pc + 1 = pc') (hd : decode c.code pc = .ok (.lor, 1)) (hz : x ||| y = z) (G : OG p e below Φ Q (T.setTop (mkF m pc' L (.long z :: S)))) : OG p e below Φ Q (T.setTop (mkF m pc L (.long y :: .long x :: S))) := by
  subst hp hz; exact og_of (fun _ st => XS.lor X.here hx rfl hd rfl st) G
theorem o_ixor (X : Stand p l e R s m args below meth c T locs cells slots) (hx : p.tables.exec = Jvm.exec) {x : Int32} {y : Int32} {z : Int32} (hp : pc + 1 = pc') (hd : decode c.code pc = .ok (.ixor, 1)) (hz : x ^^^ y = z) (G : OG p e below Φ Q (T.setTop (mkF m pc' L (.int z :: S)))) : OG p e below Φ Q (T.setTop (mkF m pc L (.int y :: .int x :: S))) := by
  subst hp hz; exact og_of (fun _ st => XS.ixor X.here hx rfl hd rfl st) G
theorem o_lxor (X : Stand p l e R s m args below meth c T locs cells slots) (hx : p.tables.exec = Jvm.exec) {x : Int64} {y : Int64} {z : Int64} (hp : pc + 1 = pc') (hd : decode c.code pc = .ok (.lxor, 1)) (hz : x ^^^ y = z) (G : OG p e below Φ Q (T.setTop (mkF m pc' L (.long z :: S)))) : OG p e below Φ Q (T.setTop (mkF m pc L (.long y :: .long x :: S))) := by
  subst hp hz; exact og_of (fun _ st => XS.lxor X.here hx rfl hd rfl st) G
theorem o_ishl (X : Stand p l e R s m args below meth c T locs cells slots) (hx : p.tables.exec = Jvm.exec) {x : Int32} {y : Int32} {z : Int32} (hp : pc + 1 = pc') (hd : decode c.code pc = .ok (.ishl, 1)) (hz : x <<< (y &&& 31) = z) (G : OG p e below Φ Q (T.setTop (mkF m pc' L (.int z :: S)))) : OG p e below Φ Q (T.setTop (mkF m pc L (.int y :: .int x :: S))) := by
  subst hp hz; exact og_of (fun _ st => XS.ishl X.here hx rfl hd rfl st) G
theorem o_ishr (X : Stand p l e R s m args below meth c T locs cells slots) (hx : p.tables.exec = Jvm.exec) {x : Int32} {y : Int32} {z : Int32} (hp : pc + 1 = pc') (hd : decode c.code pc = .ok (.ishr, 1)) (hz : x >>> (y &&& 31) = z) (G : OG p e below Φ Q (T.setTop (mkF m pc' L (.int z :: S)))) : OG p e below Φ Q (T.setTop (mkF m pc L (.int y :: .int x :: S))) := by
  subst hp hz; exact og_of (fun _ st => XS.ishr X.here hx rfl hd rfl st) G
theorem o_iushr (X : Stand p l e R s m args below meth c T locs cells slots) (hx : p.tables.exec = Jvm.exec) {x : Int32} {y : Int32} {z : Int32} (hp : pc + 1 = pc') (hd : decode c.code pc = .ok (.iushr, 1)) (hz : (x.toUInt32 >>> (y &&& 31).toUInt32).toInt32 = z) (G : OG p e below Φ Q (T.setTop (mkF m pc' L (.int z :: S)))) : OG p e below Φ Q (T.setTop (mkF m pc L (.int y :: .int x :: S))) := by
  subst hp hz; exact og_of (fun _ st => XS.iushr X.here hx rfl hd rfl st) G
theorem o_lshl (X : Stand p l e R s m args below meth c T locs cells slots) (hx : p.tables.exec = Jvm.exec) {x : Int64} {y : Int32} {z : Int64} (hp : pc + 1 = pc') (hd : decode c.code pc = .ok (.lshl, 1)) (hz : x <<< (y &&& 0x3f).toInt64 = z) (G : OG p e below Φ Q (T.setTop (mkF m pc' L (.long z :: S)))) : OG p e below Φ Q (T.setTop (mkF m pc L (.int y :: .long x :: S))) := by
  subst hp hz; exact og_of (fun _ st => XS.lshl X.here hx rfl hd rfl st) G
theorem o_lshr (X : Stand p l e R s m args below meth c T locs cells slots) (hx : p.tables.exec = Jvm.exec) {x : Int64} {y : Int32} {z : Int64} (hp : pc + 1 = pc') (hd : decode c.code pc = .ok (.lshr, 1)) (hz : x >>> (y &&& 0x3f).toInt64 = z) (G : OG p e below Φ Q (T.setTop (mkF m pc' L (.long z :: S)))) : OG p e below Φ Q (T.setTop (mkF m pc L (.int y :: .long x :: S))) := by
  subst hp hz; exact og_of (fun _ st => XS.lshr X.here hx rfl hd rfl st) G
theorem o_lushr (X : Stand p l e R s m args below meth c T locs cells slots) (hx : p.tables.exec = Jvm.exec) {x : Int64} {y : Int32} {z : Int64} (hp : pc + 1 = pc') (hd : decode c.code pc = .ok (.lushr, 1)) (hz : (x.toUInt64 >>> (y &&& 0x3f).toInt64.toUInt64).toInt64 = z) (G : OG p e below Φ Q (T.setTop (mkF m pc' L (.long z :: S)))) : OG p e below Φ Q (T.setTop (mkF m pc L (.int y :: .long x :: S))) := by
  subst hp hz; exact og_of (fun _ st => XS.lushr X.here hx rfl hd rfl st) G
theorem o_idiv (X : Stand p l e R s m args below meth c T locs cells slots) (hx : p.tables.exec = Jvm.exec) {x : Int32} {y : Int32} {z : Int32} (hp : pc + 1 = pc') (hd : decode c.code pc = .ok (.idiv, 1)) (hz : x / y = z) (hy : y ≠ 0) (G : OG p e below Φ Q (T.setTop (mkF m pc' L (.int z :: S)))) : OG p e below Φ Q (T.setTop (mkF m pc L (.int y :: .int x :: S))) := by
  subst hp hz; exact og_of (fun _ st => XS.idiv X.here hx rfl hd rfl hy st) G
theorem o_ldiv (X : Stand p l e R s m args below meth c T locs cells slots) (hx : p.tables.exec = Jvm.exec) {x : Int64} {y : Int64} {z : Int64} (hp : pc + 1 = pc') (hd : decode c.code pc = .ok (.ldiv, 1)) (hz : x / y = z) (hy : y ≠ 0) (G : OG p e below Φ Q (T.setTop (mkF m pc' L (.long z :: S)))) : OG p e below Φ Q (T.setTop (mkF m pc L (.long y :: .long x :: S))) := by
  subst hp hz; exact og_of (fun _ st => XS.ldiv X.here hx rfl hd rfl hy st) G
theorem o_irem (X : Stand p l e R s m args below meth c T locs cells slots) (hx : p.tables.exec = Jvm.exec) {x y z : Int32} (hp : pc + 1 = pc') (hd : decode c.code pc = .ok (.irem, 1)) (hz : x % y = z) (hy : y ≠ 0) (G : OG p e below Φ Q (T.setTop (mkF m pc' L (.int z :: S)))) : OG p e below Φ Q (T.setTop (mkF m pc L (.int y :: .int x :: S))) := by
  subst hp hz; exact og_of (fun _ st => XS.irem X.here hx rfl hd rfl hy (by rw [irem_eq_mod x y]; exact st)) G
theorem o_lrem (X : Stand p l e R s m args below meth c T locs cells slots) (hx : p.tables.exec = Jvm.exec) {x y z : Int64} (hp : pc + 1 = pc') (hd : decode c.code pc = .ok (.lrem, 1)) (hz : x % y = z) (hy : y ≠ 0) (G : OG p e below Φ Q (T.setTop (mkF m pc' L (.long z :: S)))) : OG p e below Φ Q (T.setTop (mkF m pc L (.long y :: .long x :: S))) := by
  subst hp hz; exact og_of (fun _ st => XS.lrem X.here hx rfl hd rfl hy (by rw [lrem_mod x y]; exact st)) G
theorem o_ineg (X : Stand p l e R s m args below meth c T locs cells slots) (hx : p.tables.exec = Jvm.exec) {x : Int32} {z : Int32} (hp : pc + 1 = pc') (hd : decode c.code pc = .ok (.ineg, 1)) (hz : -x = z) (G : OG p e below Φ Q (T.setTop (mkF m pc' L (.int z :: S)))) : OG p e below Φ Q (T.setTop (mkF m pc L (.int x :: S))) := by
  subst hp hz; exact og_of (fun _ st => XS.ineg X.here hx rfl hd rfl st) G
theorem o_lneg (X : Stand p l e R s m args below meth c T locs cells slots) (hx : p.tables.exec = Jvm.exec) {x : Int64} {z : Int64} (hp : pc + 1 = pc') (hd : decode c.code pc = .ok (.lneg, 1)) (hz : -x = z) (G : OG p e below Φ Q (T.setTop (mkF m pc' L (.long z :: S)))) : OG p e below Φ Q (T.setTop (mkF m pc L (.long x :: S))) := by
  subst hp hz; exact og_of (fun _ st => XS.lneg X.here hx rfl hd rfl st) G
theorem o_i2l (X : Stand p l e R s m args below meth c T locs cells slots) (hx : p.tables.exec = Jvm.exec) {x : Int32} {z : Int64} (hp : pc + 1 = pc') (hd : decode c.code pc = .ok (.i2l, 1)) (hz : x.toInt64 = z) (G : OG p e below Φ Q (T.setTop (mkF m pc' L (.long z :: S)))) : OG p e below Φ Q (T.setTop (mkF m pc L (.int x :: S))) := by
  subst hp hz; exact og_of (fun _ st => XS.i2l X.here hx rfl hd rfl st) G
theorem o_l2i (X : Stand p l e R s m args below meth c T locs cells slots) (hx : p.tables.exec = Jvm.exec) {x : Int64} {z : Int32} (hp : pc + 1 = pc') (hd : decode c.code pc = .ok (.l2i, 1)) (hz : x.toInt32 = z) (G : OG p e below Φ Q (T.setTop (mkF m pc' L (.int z :: S)))) : OG p e below Φ Q (T.setTop (mkF m pc L (.long x :: S))) := by
  subst hp hz; exact og_of (fun _ st => XS.l2i X.here hx rfl hd rfl st) G
theorem o_i2b (X : Stand p l e R s m args below meth c T locs cells slots) (hx : p.tables.exec = Jvm.exec) {x : Int32} {z : Int32} (hp : pc + 1 = pc') (hd : decode c.code pc = .ok (.i2b, 1)) (hz : x.toInt8.toInt32 = z) (G : OG p e below Φ Q (T.setTop (mkF m pc' L (.int z :: S)))) : OG p e below Φ Q (T.setTop (mkF m pc L (.int x :: S))) := by
  subst hp hz; exact og_of (fun _ st => XS.i2b X.here hx rfl hd rfl st) G
theorem o_i2s (X : Stand p l e R s m args below meth c T locs cells slots) (hx : p.tables.exec = Jvm.exec) {x : Int32} {z : Int32} (hp : pc + 1 = pc') (hd : decode c.code pc = .ok (.i2s, 1)) (hz : x.toInt16.toInt32 = z) (G : OG p e below Φ Q (T.setTop (mkF m pc' L (.int z :: S)))) : OG p e below Φ Q (T.setTop (mkF m pc L (.int x :: S))) := by
  subst hp hz; exact og_of (fun _ st => XS.i2s X.here hx rfl hd rfl st) G
theorem o_i2c (X : Stand p l e R s m args below meth c T locs cells slots) (hx : p.tables.exec = Jvm.exec) {x : Int32} {z : Int32} (hp : pc + 1 = pc') (hd : decode c.code pc = .ok (.i2c, 1)) (hz : x.toUInt32.toUInt16.toUInt32.toInt32 = z) (G : OG p e below Φ Q (T.setTop (mkF m pc' L (.int z :: S)))) : OG p e below Φ Q (T.setTop (mkF m pc L (.int x :: S))) := by
  subst hp hz; exact og_of (fun _ st => XS.i2c X.here hx rfl hd rfl st) G
theorem o_lcmp (X : Stand p l e R s m args below meth c T locs cells slots) (hx : p.tables.exec = Jvm.exec) {x y : Int64} (hp : pc + 1 = pc') (hd : decode c.code pc = .ok (.lcmp, 1))  (G : OG p e below Φ Q (T.setTop (mkF m pc' L (.int (lcmpW x y) :: S)))) : OG p e below Φ Q (T.setTop (mkF m pc L (.long y :: .long x :: S))) := by
  subst hp; exact og_of (fun _ st => XS.lcmp X.here hx rfl hd rfl st) G
theorem o_dup (X : Stand p l e R s m args below meth c T locs cells slots) (hx : p.tables.exec = Jvm.exec) {v : Value} (hp : pc + 1 = pc') (hd : decode c.code pc = .ok (.dup, 1)) (hc : v.category = 1) (G : OG p e below Φ Q (T.setTop (mkF m pc' L (v :: v :: S)))) : OG p e below Φ Q (T.setTop (mkF m pc L (v :: S))) := by
  subst hp; exact og_of (fun _ st => XS.dup X.here hx rfl hd rfl hc st) G
theorem o_pop (X : Stand p l e R s m args below meth c T locs cells slots) (hx : p.tables.exec = Jvm.exec) {v : Value} (hp : pc + 1 = pc') (hd : decode c.code pc = .ok (.pop, 1)) (hc : v.category = 1) (G : OG p e below Φ Q (T.setTop (mkF m pc' L S))) : OG p e below Φ Q (T.setTop (mkF m pc L (v :: S))) := by
  subst hp; exact og_of (fun _ st => XS.pop X.here hx rfl hd rfl hc st) G
theorem o_dup_x1 (X : Stand p l e R s m args below meth c T locs cells slots) (hx : p.tables.exec = Jvm.exec) {v w : Value} (hp : pc + 1 = pc') (hd : decode c.code pc = .ok (.dup_x1, 1)) (hc : v.category = 1) (hc2 : w.category = 1) (G : OG p e below Φ Q (T.setTop (mkF m pc' L (v :: w :: v :: S)))) : OG p e below Φ Q (T.setTop (mkF m pc L (v :: w :: S))) := by
  subst hp; exact og_of (fun _ st => XS.dupX1 X.here hx rfl hd rfl hc hc2 st) G
theorem o_dup2 (X : Stand p l e R s m args below meth c T locs cells slots) (hx : p.tables.exec = Jvm.exec) {v w : Value} (hp : pc + 1 = pc') (hd : decode c.code pc = .ok (.dup2, 1)) (hc : v.category = 1) (hc2 : w.category = 1) (G : OG p e below Φ Q (T.setTop (mkF m pc' L (v :: w :: v :: w :: S)))) : OG p e below Φ Q (T.setTop (mkF m pc L (v :: w :: S))) := by
  subst hp; exact og_of (fun _ st => XT.dup2 X.here hx rfl hd rfl hc hc2 st) G
theorem o_dup2L (X : Stand p l e R s m args below meth c T locs cells slots) (hx : p.tables.exec = Jvm.exec) {v : Int64} (hp : pc + 1 = pc') (hd : decode c.code pc = .ok (.dup2, 1))  (G : OG p e below Φ Q (T.setTop (mkF m pc' L (.long v :: .long v :: S)))) : OG p e below Φ Q (T.setTop (mkF m pc L (.long v :: S))) := by
  subst hp; exact og_of (fun _ st => XT.dup2L X.here hx rfl hd rfl st) G
theorem o_dup_x2 (X : Stand p l e R s m args below meth c T locs cells slots) (hx : p.tables.exec = Jvm.exec) {u v w : Value} (hp : pc + 1 = pc') (hd : decode c.code pc = .ok (.dup_x2, 1)) (hu : u.category = 1) (hv : v.category = 1) (hw : w.category = 1) (G : OG p e below Φ Q (T.setTop (mkF m pc' L (u :: v :: w :: u :: S)))) : OG p e below Φ Q (T.setTop (mkF m pc L (u :: v :: w :: S))) := by
  subst hp; refine og_of (fun _ st => ?_) G
  jvm_step X.here [X.here.top, hx, hd, hu, hv, hw]
  exact st
theorem o_iinc (X : Stand p l e R s m args below meth c T locs cells slots) (hx : p.tables.exec = Jvm.exec) {i : Nat} {cst : Int} {x z : Int32} (hp : pc + 3 = pc') (hd : decode c.code pc = .ok (.iinc i cst, 3)) (hl : L[i]? = some (.val (.int x))) (hz : x + Int32.ofInt cst = z) (hl' : storeLocals L i (.int z) = some L') (G : OG p e below Φ Q (T.setTop (mkF m pc' L' S))) : OG p e below Φ Q (T.setTop (mkF m pc L S)) := by
  subst hp hz; exact og_of (fun _ st => XS.iinc X.here hx rfl hd hl hl' st) G
theorem o_goto (X : Stand p l e R s m args below meth c T locs cells slots) (hx : p.tables.exec = Jvm.exec) {o : Int} (hd : decode c.code pc = .ok (.goto o, 3)) (ho : 0 ≤ (pc : Int) + o) (hp : ((pc : Int) + o).toNat = pc') (G : OG p e below Φ Q (T.setTop (mkF m pc' L S))) : OG p e below Φ Q (T.setTop (mkF m pc L S)) := og_of (fun _ st => XS.goto X.here hx rfl rfl hd ho hp st) G
theorem o_ifY (X : Stand p l e R s m args below meth c T locs cells slots) (hx : p.tables.exec = Jvm.exec) {cd : ClassFile.Cond} {x : Int32} {o : Int} (hd : decode c.code pc = .ok (.ifCond cd o, 3)) (hc : ifCond.holds cd x = true) (ho : 0 ≤ (pc : Int) + o) (hp : ((pc : Int) + o).toNat = pc') (G : OG p e below Φ Q (T.setTop (mkF m pc' L S))) : OG p e below Φ Q (T.setTop (mkF m pc L (.int x :: S))) := og_of (fun _ st => XS.ifYes X.here hx rfl rfl hd rfl hc ho hp st) G
theorem o_ifN (X : Stand p l e R s m args below meth c T locs cells slots) (hx : p.tables.exec = Jvm.exec) {cd : ClassFile.Cond} {x : Int32} {o : Int} (hp : pc + 3 = pc') (hd : decode c.code pc = .ok (.ifCond cd o, 3)) (hc : ifCond.holds cd x = false) (G : OG p e below Φ Q (T.setTop (mkF m pc' L S))) : OG p e below Φ Q (T.setTop (mkF m pc L (.int x :: S))) := by
  subst hp; exact og_of (fun _ st => XS.ifNo X.here hx rfl hd rfl hc st) G
theorem o_icmpY (X : Stand p l e R s m args below meth c T locs cells slots) (hx : p.tables.exec = Jvm.exec) {cd : ClassFile.Cond} {x y : Int32} {o : Int} (hd : decode c.code pc = .ok (.if_icmp cd o, 3)) (hc : if_icmp.holds cd x y = true) (ho : 0 ≤ (pc : Int) + o) (hp : ((pc : Int) + o).toNat = pc') (G : OG p e below Φ Q (T.setTop (mkF m pc' L S))) : OG p e below Φ Q (T.setTop (mkF m pc L (.int y :: .int x :: S))) := og_of (fun _ st => XS.icmpYes X.here hx rfl rfl hd rfl hc ho hp st) G
theorem o_icmpN (X : Stand p l e R s m args below meth c T locs cells slots) (hx : p.tables.exec = Jvm.exec) {cd : ClassFile.Cond} {x y : Int32} {o : Int} (hp : pc + 3 = pc') (hd : decode c.code pc = .ok (.if_icmp cd o, 3)) (hc : if_icmp.holds cd x y = false) (G : OG p e below Φ Q (T.setTop (mkF m pc' L S))) : OG p e below Φ Q (T.setTop (mkF m pc L (.int y :: .int x :: S))) := by
  subst hp; exact og_of (fun _ st => XS.icmpNo X.here hx rfl hd rfl hc st) G
theorem o_ifnullY (X : Stand p l e R s m args below meth c T locs cells slots) (hx : p.tables.exec = Jvm.exec) {o : Int} (hd : decode c.code pc = .ok (.ifnull o, 3)) (ho : 0 ≤ (pc : Int) + o) (hp : ((pc : Int) + o).toNat = pc') (G : OG p e below Φ Q (T.setTop (mkF m pc' L S))) : OG p e below Φ Q (T.setTop (mkF m pc L (.null :: S))) := og_of (fun _ st => XS.ifnullYes X.here hx rfl rfl hd rfl ho hp st) G
theorem o_ifnullN (X : Stand p l e R s m args below meth c T locs cells slots) (hx : p.tables.exec = Jvm.exec) {o : Int} {a : Addr} (hp : pc + 3 = pc') (hd : decode c.code pc = .ok (.ifnull o, 3)) (G : OG p e below Φ Q (T.setTop (mkF m pc' L S))) : OG p e below Φ Q (T.setTop (mkF m pc L (.ref a :: S))) := by
  subst hp; exact og_of (fun _ st => XS.ifnullNo X.here hx rfl hd rfl st) G
theorem o_ifnonnullY (X : Stand p l e R s m args below meth c T locs cells slots) (hx : p.tables.exec = Jvm.exec) {o : Int} {a : Addr} (hd : decode c.code pc = .ok (.ifnonnull o, 3)) (ho : 0 ≤ (pc : Int) + o) (hp : ((pc : Int) + o).toNat = pc') (G : OG p e below Φ Q (T.setTop (mkF m pc' L S))) : OG p e below Φ Q (T.setTop (mkF m pc L (.ref a :: S))) := og_of (fun _ st => XS.ifnonnullYes X.here hx rfl rfl hd rfl ho hp st) G
theorem o_ifnonnullN (X : Stand p l e R s m args below meth c T locs cells slots) (hx : p.tables.exec = Jvm.exec) {o : Int} (hp : pc + 3 = pc') (hd : decode c.code pc = .ok (.ifnonnull o, 3)) (G : OG p e below Φ Q (T.setTop (mkF m pc' L S))) : OG p e below Φ Q (T.setTop (mkF m pc L (.null :: S))) := by
  subst hp; exact og_of (fun _ st => XS.ifnonnullNo X.here hx rfl hd rfl st) G
theorem o_acmpY (X : Stand p l e R s m args below meth c T locs cells slots) (hx : p.tables.exec = Jvm.exec) {cd : ClassFile.ACond} {a b : Addr} {o : Int} (hd : decode c.code pc = .ok (.if_acmp cd o, 3)) (hc : if_acmp.holds cd (some a) (some b) = true) (ho : 0 ≤ (pc : Int) + o) (hp : ((pc : Int) + o).toNat = pc') (G : OG p e below Φ Q (T.setTop (mkF m pc' L S))) : OG p e below Φ Q (T.setTop (mkF m pc L (.ref b :: .ref a :: S))) := og_of (fun _ st => XS.acmpYes X.here hx rfl rfl hd rfl hc ho hp st) G
theorem o_acmpN (X : Stand p l e R s m args below meth c T locs cells slots) (hx : p.tables.exec = Jvm.exec) {cd : ClassFile.ACond} {a b : Addr} {o : Int} (hp : pc + 3 = pc') (hd : decode c.code pc = .ok (.if_acmp cd o, 3)) (hc : if_acmp.holds cd (some a) (some b) = false) (G : OG p e below Φ Q (T.setTop (mkF m pc' L S))) : OG p e below Φ Q (T.setTop (mkF m pc L (.ref b :: .ref a :: S))) := by
  subst hp; exact og_of (fun _ st => XS.acmpNo X.here hx rfl hd rfl hc st) G
theorem o_ldcI (X : Stand p l e R s m args below meth c T locs cells slots) (hx : p.tables.exec = Jvm.exec) {Z : State} {a0 : Array Value} {own : String} {i : Nat} {v : Int32} (hp : pc + 2 = pc') (hd : decode c.code pc = .ok (.ldc i, 2)) (hZ : Z.Warmed39 s.vm) (hown : s.vm.findClass own = some m.cls) (w : (Cond.constant own i v).before a0 Z = true) (G : OG p e below Φ Q (T.setTop (mkF m pc' L (.int v :: S)))) : OG p e below Φ Q (T.setTop (mkF m pc L S)) := by
  subst hp; exact og_of (X.ldcInt hx hown (mvT hZ w) (g := mkF m pc L S) rfl hd) G
theorem o_ldcwI (X : Stand p l e R s m args below meth c T locs cells slots) (hx : p.tables.exec = Jvm.exec) {Z : State} {a0 : Array Value} {own : String} {i : Nat} {v : Int32} (hp : pc + 3 = pc') (hd : decode c.code pc = .ok (.ldc_w i, 3)) (hZ : Z.Warmed39 s.vm) (hown : s.vm.findClass own = some m.cls) (w : (Cond.constant own i v).before a0 Z = true) (G : OG p e below Φ Q (T.setTop (mkF m pc' L (.int v :: S)))) : OG p e below Φ Q (T.setTop (mkF m pc L S)) := by
  subst hp; exact og_of (X.ldcwInt hx hown (mvT hZ w) (g := mkF m pc L S) rfl hd) G
theorem o_ldc2L (X : Stand p l e R s m args below meth c T locs cells slots) (hx : p.tables.exec = Jvm.exec) {Z : State} {a0 : Array Value} {own : String} {i : Nat} {v : Int64} (hp : pc + 3 = pc') (hd : decode c.code pc = .ok (.ldc2_w i, 3)) (hZ : Z.Warmed39 s.vm) (hown : s.vm.findClass own = some m.cls) (w : (Cond.constantLong own i v).before a0 Z = true) (G : OG p e below Φ Q (T.setTop (mkF m pc' L (.long v :: S)))) : OG p e below Φ Q (T.setTop (mkF m pc L S)) := by
  subst hp; exact og_of (X.ldc2Long hx hown (mvT hZ w) (g := mkF m pc L S) rfl hd) G
theorem own_cat {x : Value} (h : x.isRef = true) : x.category = 1 := by cases x <;> simp_all [Value.isRef, Value.category]
theorem own_narR {x : Value} (h : x.isRef = true) (t : FieldType) : narrow t x = x := by rcases ref_cases h with rfl | ⟨a, rfl⟩ <;> cases t <;> rfl
theorem own_fitR {x : Value} {C : String} (h : x.isRef = true) : fits (.object C) x = true := by rcases ref_cases h with rfl | ⟨a, rfl⟩ <;> rfl
theorem own_selp {Z : State} {a0 : Array Value} {y : MethodName} {q : Nat} (hZ : Z.Warmed39 s.vm) (wi : (Cond.instantiable y.cls q).before a0 Z = true) (hp : (Cond.privateMethod y).before a0 Z = true) (hi : (Cond.instanceMethod y).before a0 Z = true) (hy : y.cls ≠ "java/lang/invoke/MethodHandle" ∧ y.cls ≠ "java/lang/invoke/VarHandle") : (Cond.selects y.cls y y).before args s = true := by
  have wi' : (Cond.instantiable y.cls q).before args s = true := mv hZ wi
  obtain ⟨cc, kk, h1, h2, -, h4, -⟩ := Cond.instantiable_spec wi'
  have hni : kk.isInterface = false := by simp only [Bool.or_eq_false_iff] at h4; exact h4.1
  exact selects_self_of_private h1 h2 hni (Cond.privateMethod_at (mvP hZ hp (args := args))) (mv hZ hi) hy
theorem own_staK {Z : State} {h h' : Heap} {C nn d : String} {v : Value} (F : Sta Z h C nn d v) (K : Keep h h' []) : Sta Z h' C nn d v := by
  obtain ⟨cf, i, k, f, st, cell, h1, h2, h3, h4, h5, r⟩ := F
  exact ⟨cf, i, k, f, st, cell, h1, h2, h3, h4, K.2.1 _ _ h5 (fun q => nomatch q), r⟩
end Own
end Jvm.RoadKit
namespace Jvm.Pilot.@@N@@
open Jvm Jvm.ClassFile Sem Op Lib Jvm.Free Jvm.Stand Jvm.LawKit Jvm.RoadKit Bundle Jvm.Pilot.@@N@@.Jvm.D
theorem own_d3_0 : decode jdk_2799_method_7_code 0 = .ok (.aload_n 0, 1) := by decide +kernel
theorem own_d3_1 : decode jdk_2799_method_7_code 1 = .ok (.getfield 44, 3) := by decide +kernel
theorem own_d3_4 : decode jdk_2799_method_7_code 4 = .ok (.dup2, 1) := by decide +kernel
theorem own_d3_5 : decode jdk_2799_method_7_code 5 = .ok (.lstore_n 3, 1) := by decide +kernel
theorem own_d3_6 : decode jdk_2799_method_7_code 6 = .ok (.lconst 1, 1) := by decide +kernel
theorem own_d3_7 : decode jdk_2799_method_7_code 7 = .ok (.lcmp, 1) := by decide +kernel
theorem own_d3_8 : decode jdk_2799_method_7_code 8 = .ok (.ifCond .ne 5, 3) := by decide +kernel
theorem own_d3_13 : decode jdk_2799_method_7_code 13 = .ok (.lload_n 1, 1) := by decide +kernel
theorem own_d3_14 : decode jdk_2799_method_7_code 14 = .ok (.aload_n 0, 1) := by decide +kernel
theorem own_d3_15 : decode jdk_2799_method_7_code 15 = .ok (.getfield 52, 3) := by decide +kernel
theorem own_d3_18 : decode jdk_2799_method_7_code 18 = .ok (.dup2, 1) := by decide +kernel
theorem own_d3_19 : decode jdk_2799_method_7_code 19 = .ok (.lstore 5, 2) := by decide +kernel
theorem own_d3_21 : decode jdk_2799_method_7_code 21 = .ok (.lcmp, 1) := by decide +kernel
theorem own_d3_22 : decode jdk_2799_method_7_code 22 = .ok (.ifCond .le 7, 3) := by decide +kernel
theorem own_d3_29 : decode jdk_2799_method_7_code 29 = .ok (.lload_n 1, 1) := by decide +kernel
theorem own_d3_30 : decode jdk_2799_method_7_code 30 = .ok (.lload 5, 2) := by decide +kernel
theorem own_d3_32 : decode jdk_2799_method_7_code 32 = .ok (.lneg, 1) := by decide +kernel
theorem own_d3_33 : decode jdk_2799_method_7_code 33 = .ok (.lcmp, 1) := by decide +kernel
theorem own_d3_34 : decode jdk_2799_method_7_code 34 = .ok (.ifCond .ge 7, 3) := by decide +kernel
theorem own_d3_41 : decode jdk_2799_method_7_code 41 = .ok (.lload_n 1, 1) := by decide +kernel
theorem own_d3_42 : decode jdk_2799_method_7_code 42 = .ok (.lload_n 3, 1) := by decide +kernel
theorem own_d3_43 : decode jdk_2799_method_7_code 43 = .ok (.lmul, 1) := by decide +kernel
theorem own_d3_44 : decode jdk_2799_method_7_code 44 = .ok (.lreturn, 1) := by decide +kernel
theorem own_ef3 (m : MethodId) (a0 : Addr) (q1 : Int64) : entryFrame m #[(.ref a0), (.long q1)] 7 = mkF m 0 #[.val (.ref a0), .val (.long q1), .second, .unset, .unset, .unset, .unset] [] := by first | (simp [entryFrame, mkF, argsToLocals, Value.category]; done) | rfl
def own_Q3 (Z : State) (a0 : Addr) (q1 : Int64) (h0 : Heap) (n0 : Nat) (v : Option Value) (h : Heap) (L : List Loc) : Prop := v = some (.long (q1 * (1000000000 : Int64))) ∧ Fr n0 L ∧ h = h0
theorem own_pn23 : plainName "java/util/concurrent/TimeUnit" = true := by first | (simp [plainName, overriddenIn]; done) | decide +kernel
set_option maxRecDepth 65536 in
set_option maxHeartbeats 40000000 in
theorem own_rm3 (l : Launch) (Z : State) (aA : Array Value) (hw : ∀ d ∈ tables_1, d.before aA Z = true) (ws : List Jvm.Cond) (a0 : Addr) (q1 : Int64) (h0 : Heap) (n0 : Nat) (Z0 : n0 ≤ h0.size) (pre0 : Fld Z h0 a0 "java/util/concurrent/TimeUnit" "scale" "J" (.long (1000000000 : Int64))) (pre1 : Fld Z h0 a0 "java/util/concurrent/TimeUnit" "maxNanos" "J" (.long (9223372036 : Int64))) (h1 : ¬ ((9223372036 : Int64) < q1)) (h2 : ¬ (q1 < (-9223372036 : Int64))) :
    MetFree l (⟨"java/util/concurrent/TimeUnit", "toNanos", "(J)J"⟩ : MethodName) (head1 (Jvm.Cond.code (⟨"java/util/concurrent/TimeUnit", "toNanos", "(J)J"⟩ : MethodName) jdk_2799_method_7_code 7 (some .long) :: ws) ({ frames := 0, cells := 0, slots := 0, locals := 0 } : Room)) (fun a U => a = #[(.ref a0), (.long q1)] ∧ Z.Warmed39 U.vm ∧ U.heap = h0) (fun _ _ _ _ _ => True) (fun _ U o U' => ∃ v L, o = .returned v ∧ own_Q3 Z a0 q1 h0 n0 v U'.heap L ∧ FrameEnd U o U' L ({ frames := 0, cells := 0, slots := 0, locals := 0 } : Room).cells ({ frames := 0, cells := 0, slots := 0, locals := 0 } : Room).slots) := by
  refine MetFree.of_bodySF (plainFor_of_name own_pn23) hisR ?_
  intro p e s m args below meth c s₁ Bd hml0 hP hK
  obtain ⟨rfl, hZ, hh⟩ := hP
  have hx := Bd.exec
  have hby := Bd.bytes
  have hlk : meth.locks = false := Bd.notSynchronized
  have hml : c.maxLocals = 7 := hml0
  have hown : s.vm.findClass "java/util/concurrent/TimeUnit" = some m.cls := findClass_of_methodNamed Bd.named
  have hnm := (name_of_methodNamed Bd.named Bd.method).1
  have X0 : Stand p l e ({ frames := 0, cells := 0, slots := 0, locals := 0 } : Room) s m #[(.ref a0), (.long q1)] below meth c s₁ [] 0 0 := Stand.of_body Bd
  have e0 : s₁.heap = h0 := by rw [← hh, Bd.state]; rfl
  have N0 := Fr.nil n0
  show OG p e below (FE s ({ frames := 0, cells := 0, slots := 0, locals := 0 } : Room).cells ({ frames := 0, cells := 0, slots := 0, locals := 0 } : Room).slots) (own_Q3 Z a0 q1 h0 n0) (s₁.setTop (entryFrame m #[(.ref a0), (.long q1)] 7))
  refine og_of (fun _ k => castTop (own_ef3 m a0 q1) k) ?_
  refine o_aloadN X0 hx rfl (hb hby own_d3_0) rfl rfl ?_
  obtain ⟨T1, X1, e1, st1⟩ := getF X0 hx hZ hown (host := "") (Or.inl (hw _ (List.mem_of_getElem? (i := 22) rfl))) Via.refl e0 pre0 (g := (mkF m 1 #[.val (.ref a0), .val (.long q1), .second, .unset, .unset, .unset, .unset] [(.ref a0)])) rfl rfl (hb hby own_d3_1)
  refine og_of st1 ?_
  show OG p e below _ _ (T1.setTop (mkF m 4 #[.val (.ref a0), .val (.long q1), .second, .unset, .unset, .unset, .unset] [(.long (1000000000 : Int64))]))
  refine o_dup2L X1 hx rfl (hb hby own_d3_4) ?_
  refine o_lstoreN X1 hx rfl (hb hby own_d3_5) (L' := #[.val (.ref a0), .val (.long q1), .second, .val (.long (1000000000 : Int64)), .second, .unset, .unset]) rfl ?_
  refine o_lconst (z := (1 : Int64)) X1 hx rfl (hb hby own_d3_6) (by decide) ?_
  refine o_lcmp X1 hx rfl (hb hby own_d3_7) ?_
  refine o_ifY (pc' := 13) X1 hx (hb hby own_d3_8) (lcN_eq (by decide : ¬ ((1000000000 : Int64) = (1 : Int64)))).2 (by decide) (by decide) ?_
  refine o_lloadN X1 hx rfl (hb hby own_d3_13) rfl ?_
  refine o_aloadN X1 hx rfl (hb hby own_d3_14) rfl rfl ?_
  obtain ⟨T2, X2, e2, st2⟩ := getF X1 hx hZ hown (host := "") (Or.inl (hw _ (List.mem_of_getElem? (i := 24) rfl))) Via.refl e1 pre1 (g := (mkF m 15 #[.val (.ref a0), .val (.long q1), .second, .val (.long (1000000000 : Int64)), .second, .unset, .unset] [(.ref a0), (.long q1)])) rfl rfl (hb hby own_d3_15)
  refine og_of st2 ?_
  show OG p e below _ _ (T2.setTop (mkF m 18 #[.val (.ref a0), .val (.long q1), .second, .val (.long (1000000000 : Int64)), .second, .unset, .unset] [(.long (9223372036 : Int64)), (.long q1)]))
  refine o_dup2L X2 hx rfl (hb hby own_d3_18) ?_
  refine o_lstore X2 hx rfl (hb hby own_d3_19) (L' := #[.val (.ref a0), .val (.long q1), .second, .val (.long (1000000000 : Int64)), .second, .val (.long (9223372036 : Int64)), .second]) rfl ?_
  refine o_lcmp X2 hx rfl (hb hby own_d3_21) ?_
  have hk3 : ¬ ((9223372036 : Int64) < q1) := h1
  refine o_ifY (pc' := 29) X2 hx (hb hby own_d3_22) (lcN_gt hk3).2 (by decide) (by decide) ?_
  refine o_lloadN X2 hx rfl (hb hby own_d3_29) rfl ?_
  refine o_lload X2 hx rfl (hb hby own_d3_30) rfl ?_
  refine o_lneg (z := (-9223372036 : Int64)) X2 hx rfl (hb hby own_d3_32) (by decide) ?_
  refine o_lcmp X2 hx rfl (hb hby own_d3_33) ?_
  have hk4 : ¬ (q1 < (-9223372036 : Int64)) := h2
  refine o_ifY (pc' := 41) X2 hx (hb hby own_d3_34) (lcN_lt hk4).2 (by decide) (by decide) ?_
  refine o_lloadN X2 hx rfl (hb hby own_d3_41) rfl ?_
  refine o_lloadN X2 hx rfl (hb hby own_d3_42) rfl ?_
  obtain ⟨z5, hz5⟩ : ∃ z : Int64, q1 * (1000000000 : Int64) = z := ⟨_, rfl⟩
  refine o_lmul (z := z5) X2 hx rfl (hb hby own_d3_43) hz5 ?_
  subst hz5
  exact o_retL X2 hx Bd.returns (own_lv X2 hlk (by decide) (by decide)) (hb hby own_d3_44) ⟨rfl, N0, e2⟩
theorem own_pd0 : parseMethodDescriptor "(J)J" = some ⟨[.long], some .long⟩ := by decide +kernel
theorem own_d1_0 : decode prog_36_method_1_code 0 = .ok (.aload_n 0, 1) := by decide +kernel
theorem own_d1_1 : decode prog_36_method_1_code 1 = .ok (.invokespecial 1, 3) := by decide +kernel
theorem own_d1_4 : decode prog_36_method_1_code 4 = .ok (.aload_n 0, 1) := by decide +kernel
theorem own_d1_5 : decode prog_36_method_1_code 5 = .ok (.iload_n 1, 1) := by decide +kernel
theorem own_d1_6 : decode prog_36_method_1_code 6 = .ok (.i2l, 1) := by decide +kernel
theorem own_d1_7 : decode prog_36_method_1_code 7 = .ok (.putfield 7, 3) := by decide +kernel
theorem own_d1_10 : decode prog_36_method_1_code 10 = .ok (.aload_n 0, 1) := by decide +kernel
theorem own_d1_11 : decode prog_36_method_1_code 11 = .ok (.getstatic 13, 3) := by decide +kernel
theorem own_d1_14 : decode prog_36_method_1_code 14 = .ok (.lload_n 2, 1) := by decide +kernel
theorem own_d1_15 : decode prog_36_method_1_code 15 = .ok (.invokevirtual 19, 3) := by decide +kernel
theorem own_d1_18 : decode prog_36_method_1_code 18 = .ok (.putfield 23, 3) := by decide +kernel
theorem own_d1_21 : decode prog_36_method_1_code 21 = .ok (.return_, 1) := by decide +kernel
theorem own_ef1 (m : MethodId) (a0 : Addr) (p1 : Int32) (q2 : Int64) : entryFrame m #[(.ref a0), (.int p1), (.long q2)] 4 = mkF m 0 #[.val (.ref a0), .val (.int p1), .val (.long q2), .second] [] := by first | (simp [entryFrame, mkF, argsToLocals, Value.category]; done) | rfl
def own_Q1 (Z : State) (a0 : Addr) (p1 : Int32) (q2 : Int64) (u : Addr) (h0 : Heap) (n0 : Nat) (v : Option Value) (h : Heap) (L : List Loc) : Prop := v = none ∧ Fr n0 L ∧ Keep h0 h [a0] ∧ Fld Z h a0 "com/example/hermod/hermod/ts50136_9/SessionKeyLifetime" "m_nAnswers" "J" (.long p1.toInt64) ∧ Fld Z h a0 "com/example/hermod/hermod/ts50136_9/SessionKeyLifetime" "m_nNanos" "J" (.long (q2 * (1000000000 : Int64)))
theorem own_pn36 : plainName "com/example/hermod/hermod/ts50136_9/SessionKeyLifetime" = true := by first | (simp [plainName, overriddenIn]; done) | decide +kernel
set_option maxRecDepth 65536 in
set_option maxHeartbeats 40000000 in
theorem own_rm1 (l : Launch) (Z : State) (aA : Array Value) (hw : ∀ d ∈ tables_1, d.before aA Z = true) (ws : List Jvm.Cond) (a0 : Addr) (p1 : Int32) (q2 : Int64) (u : Addr) (h0 : Heap) (n0 : Nat) (Z0 : n0 ≤ h0.size) (pre0 : Exa Z h0 a0 "com/example/hermod/hermod/ts50136_9/SessionKeyLifetime") (pre1 : n0 ≤ a0) (pre2 : Fld Z h0 a0 "com/example/hermod/hermod/ts50136_9/SessionKeyLifetime" "m_nAnswers" "J" (.long (0 : Int64))) (pre3 : Fld Z h0 a0 "com/example/hermod/hermod/ts50136_9/SessionKeyLifetime" "m_nNanos" "J" (.long (0 : Int64))) (pre4 : Sta Z h0 "java/util/concurrent/TimeUnit" "SECONDS" "Ljava/util/concurrent/TimeUnit;" (.ref u)) (pre5 : Exa Z h0 u "java/util/concurrent/TimeUnit") (pre6 : Fld Z h0 u "java/util/concurrent/TimeUnit" "scale" "J" (.long (1000000000 : Int64))) (pre7 : Fld Z h0 u "java/util/concurrent/TimeUnit" "maxNanos" "J" (.long (9223372036 : Int64))) (pre8 : u ≠ a0) (h1 : ¬ ((9223372036 : Int64) < q2)) (h2 : ¬ (q2 < (-9223372036 : Int64))) :
    MetFree l (⟨"com/example/hermod/hermod/ts50136_9/SessionKeyLifetime", "<init>", "(IJ)V"⟩ : MethodName) (head1 (Jvm.Cond.code (⟨"com/example/hermod/hermod/ts50136_9/SessionKeyLifetime", "<init>", "(IJ)V"⟩ : MethodName) prog_36_method_1_code 4 none :: ws) ({ frames := 1, cells := 0, slots := 0, locals := 19 } : Room)) (fun a U => a = #[(.ref a0), (.int p1), (.long q2)] ∧ Z.Warmed39 U.vm ∧ U.heap = h0) (fun _ _ _ _ _ => True) (fun _ U o U' => ∃ v L, o = .returned v ∧ own_Q1 Z a0 p1 q2 u h0 n0 v U'.heap L ∧ FrameEnd U o U' L ({ frames := 1, cells := 0, slots := 0, locals := 19 } : Room).cells ({ frames := 1, cells := 0, slots := 0, locals := 19 } : Room).slots) := by
  refine MetFree.of_bodySF (plainFor_of_name own_pn36) hisR ?_
  intro p e s m args below meth c s₁ Bd hml0 hP hK
  obtain ⟨rfl, hZ, hh⟩ := hP
  have hx := Bd.exec
  have hby := Bd.bytes
  have hlk : meth.locks = false := Bd.notSynchronized
  have hml : c.maxLocals = 4 := hml0
  have hown : s.vm.findClass "com/example/hermod/hermod/ts50136_9/SessionKeyLifetime" = some m.cls := findClass_of_methodNamed Bd.named
  have hnm := (name_of_methodNamed Bd.named Bd.method).1
  have X0 : Stand p l e ({ frames := 1, cells := 0, slots := 0, locals := 19 } : Room) s m #[(.ref a0), (.int p1), (.long q2)] below meth c s₁ [] 0 0 := Stand.of_body Bd
  have e0 : s₁.heap = h0 := by rw [← hh, Bd.state]; rfl
  have N0 := Fr.nil n0
  show OG p e below (FE s ({ frames := 1, cells := 0, slots := 0, locals := 19 } : Room).cells ({ frames := 1, cells := 0, slots := 0, locals := 19 } : Room).slots) (own_Q1 Z a0 p1 q2 u h0 n0) (s₁.setTop (entryFrame m #[(.ref a0), (.int p1), (.long q2)] 4))
  refine og_of (fun _ k => castTop (own_ef1 m a0 p1 q2) k) ?_
  refine o_aloadN X0 hx rfl (hb hby own_d1_0) rfl rfl ?_
  obtain ⟨T1, X1, e1, st1⟩ := initO X0 hx hZ hown (hw _ (List.mem_of_getElem? (i := 10) rfl)) (hw _ (List.mem_of_getElem? (i := 11) rfl)) (hw _ (List.mem_of_getElem? (i := 12) rfl)) e0 (g := (mkF m 1 #[.val (.ref a0), .val (.int p1), .val (.long q2), .second] [(.ref a0)])) rfl (by rw [hml]; rfl) rfl (hb hby own_d1_1) (by decide) (W := 0) (by show 2 * 0 + _ ≤ _; exact Nat.le_of_eq rfl) (by decide)
  refine og_of st1 ?_
  show OG p e below _ _ (T1.setTop (mkF m 4 #[.val (.ref a0), .val (.int p1), .val (.long q2), .second] []))
  refine o_aloadN X1 hx rfl (hb hby own_d1_4) rfl rfl ?_
  refine o_iloadN X1 hx rfl (hb hby own_d1_5) rfl ?_
  obtain ⟨z2, hz2⟩ : ∃ z : Int64, p1.toInt64 = z := ⟨_, rfl⟩
  refine o_i2l (z := z2) X1 hx rfl (hb hby own_d1_6) hz2 ?_
  obtain ⟨T3, h3, X3, e3, W3, st3⟩ := putF X1 hx hZ hown (host := "") (Or.inl (hw _ (List.mem_of_getElem? (i := 13) rfl))) Via.refl e1 pre2 pre0 (Or.inr ⟨(hw _ (List.mem_of_getElem? (i := 14) rfl)), rfl, hnm⟩) (hw _ (List.mem_of_getElem? (i := 5) rfl)) (ty := .long) (by decide) rfl rfl (g := (mkF m 7 #[.val (.ref a0), .val (.int p1), .val (.long q2), .second] [(.long z2), (.ref a0)])) rfl rfl (hb hby own_d1_7)
  have Fw3 := pre2.same W3
  have N3 := Fr.snoc X3 N0 pre1
  have Kp4 : Keep h0 h3 [a0] := (Keep.refl h0 [a0]).wr W3 (Or.inl (List.mem_of_getElem? (i := 0) rfl))
  refine og_of st3 ?_
  show OG p e below _ _ (T3.setTop (mkF m 10 #[.val (.ref a0), .val (.int p1), .val (.long q2), .second] []))
  refine o_aloadN X3 hx rfl (hb hby own_d1_10) rfl rfl ?_
  have Fc5 : Sta Z h3 "java/util/concurrent/TimeUnit" "SECONDS" "Ljava/util/concurrent/TimeUnit;" (.ref u) := (Sta.wr W3 pre4)
  obtain ⟨T6, X6, e6, st6⟩ := getS2 X3 hx hZ hown (host := "") (Or.inl (hw _ (List.mem_of_getElem? (i := 15) rfl))) Via.refl e3 Fc5 (g := (mkF m 11 #[.val (.ref a0), .val (.int p1), .val (.long q2), .second] [(.ref a0)])) rfl (hb hby own_d1_11)
  refine og_of st6 ?_
  show OG p e below _ _ (T6.setTop (mkF m 14 #[.val (.ref a0), .val (.int p1), .val (.long q2), .second] [(.ref u), (.ref a0)]))
  refine o_lloadN X6 hx rfl (hb hby own_d1_14) rfl ?_
  have Fc8 : Fld Z h3 u "java/util/concurrent/TimeUnit" "scale" "J" (.long (1000000000 : Int64)) := (Fld.other W3 pre6 (Or.inl pre8))
  have Fc9 : Fld Z h3 u "java/util/concurrent/TimeUnit" "maxNanos" "J" (.long (9223372036 : Int64)) := (Fld.other W3 pre7 (Or.inl pre8))
  have hw_10 : ¬ ((9223372036 : Int64) < q2) := h1
  have hw_11 : ¬ (q2 < (-9223372036 : Int64)) := h2
  have Fc12 : Exa Z h3 u "java/util/concurrent/TimeUnit" := (Exa.wr W3 pre5)
  obtain ⟨cq7, kq7, q7a, q7b, q7c⟩ := isOf hZ e6 Fc12
  obtain ⟨_, _, ⟨T7, L7, k7, n7⟩, -, X7, ⟨Lc7, hQ7, l7, y7, z7⟩, st7⟩ := X6.virtualBack hx (y := (⟨"java/util/concurrent/TimeUnit", "toNanos", "(J)J"⟩ : MethodName)) (z := (⟨"java/util/concurrent/TimeUnit", "toNanos", "(J)J"⟩ : MethodName)) hown (mvT hZ (hw _ (List.mem_of_getElem? (i := 17) rfl))) (mvT hZ (hw _ (List.mem_of_getElem? (i := 18) rfl))) (notFace_of_selects (args := #[]) (mvT hZ (hw _ (List.mem_of_getElem? (i := 20) rfl)))) (mvT hZ (hw _ (List.mem_of_getElem? (i := 20) rfl))) (mvT hZ (hw _ (List.mem_of_getElem? (i := 19) rfl))) (by decide) (backOf (W := 1) (own_rm3 l Z aA hw [] u q2 h3 n0 (Nat.le_trans Z0 (Keep.of_wr W3).1) Fc8 Fc9 hw_10 hw_11) hZ (hw _ (List.mem_of_getElem? (i := 21) rfl)) (hw _ (List.mem_of_getElem? (i := 16) rfl)) (by decide) (by decide)) q7a q7c (g := (mkF m 15 #[.val (.ref a0), .val (.int p1), .val (.long q2), .second] [(.long q2), (.ref u), (.ref a0)])) rfl (by rw [hml]; rfl) (Steps.refl _) (argsL := [(.long q2)]) (rest := [(.ref a0)]) (lenOf own_pd0 rfl) rfl (by show 2 * 0 + _ ≤ _; exact Nat.le_of_eq rfl) (hb hby own_d1_15) (fun _ _ => ⟨rfl, e6, Nat.le_of_ble_eq_true rfl, Nat.le_of_ble_eq_true rfl⟩)
  dsimp only [Pt.U, Pt.locs, Pt.cells, Pt.slots] at X7 l7 y7 z7 st7 hQ7
  subst l7 y7 z7
  obtain ⟨rfl, N7q, ee7⟩ := hQ7
  have N13 := Fr.app N3 N7q
  refine og_tr st7 ?_
  show OG p e below _ _ (T7.setTop (mkF m 18 #[.val (.ref a0), .val (.int p1), .val (.long q2), .second] [(.long (q2 * (1000000000 : Int64))), (.ref a0)]))
  have Fc14 : Exa Z h3 a0 "com/example/hermod/hermod/ts50136_9/SessionKeyLifetime" := (Exa.wr W3 pre0)
  have Fc15 : Fld Z h3 a0 "com/example/hermod/hermod/ts50136_9/SessionKeyLifetime" "m_nNanos" "J" (.long (0 : Int64)) := (Fld.other W3 pre3 (Or.inr (slot_ne (Or.inr (hw _ (List.mem_of_getElem? (i := 27) rfl))) (Or.inr (hw _ (List.mem_of_getElem? (i := 14) rfl))) (by decide) (t := .long) (t' := .long) (by decide) (by decide))))
  obtain ⟨T16, h16, X16, e16, W16, st16⟩ := putF X7 hx hZ hown (host := "") (Or.inl (hw _ (List.mem_of_getElem? (i := 26) rfl))) Via.refl ee7 Fc15 Fc14 (Or.inr ⟨(hw _ (List.mem_of_getElem? (i := 27) rfl)), rfl, hnm⟩) (hw _ (List.mem_of_getElem? (i := 5) rfl)) (ty := .long) (by decide) rfl rfl (g := (mkF m 18 #[.val (.ref a0), .val (.int p1), .val (.long q2), .second] [(.long (q2 * (1000000000 : Int64))), (.ref a0)])) rfl rfl (hb hby own_d1_18)
  have Fw16 := Fc15.same W16
  have N16 := Fr.snoc X16 N13 pre1
  have Kp17 : Keep h0 h16 [a0] := Kp4.wr W16 (Or.inl (List.mem_of_getElem? (i := 0) rfl))
  refine og_of st16 ?_
  show OG p e below _ _ (T16.setTop (mkF m 21 #[.val (.ref a0), .val (.int p1), .val (.long q2), .second] []))
  have Fc18 : Fld Z h16 a0 "com/example/hermod/hermod/ts50136_9/SessionKeyLifetime" "m_nAnswers" "J" (.long z2) := (Fld.other W16 Fw3 (Or.inr (slot_ne (Or.inr (hw _ (List.mem_of_getElem? (i := 14) rfl))) (Or.inr (hw _ (List.mem_of_getElem? (i := 27) rfl))) (by decide) (t := .long) (t' := .long) (by decide) (by decide))))
  subst hz2
  exact o_ret0 X16 hx Bd.returns (own_lv X16 hlk (by decide) (by decide)) (hb hby own_d1_21) ⟨rfl, N16, (by rw [e16]; exact Kp17), (by rw [e16]; exact Fc18), (by rw [e16]; exact Fw16)⟩
theorem own_d4_0 : decode prog_36_method_2_code 0 = .ok (.lload_n 1, 1) := by decide +kernel
theorem own_d4_1 : decode prog_36_method_2_code 1 = .ok (.aload_n 0, 1) := by decide +kernel
theorem own_d4_2 : decode prog_36_method_2_code 2 = .ok (.getfield 7, 3) := by decide +kernel
theorem own_d4_5 : decode prog_36_method_2_code 5 = .ok (.lcmp, 1) := by decide +kernel
theorem own_d4_6 : decode prog_36_method_2_code 6 = .ok (.ifCond .ge 12, 3) := by decide +kernel
theorem own_d4_9 : decode prog_36_method_2_code 9 = .ok (.lload_n 3, 1) := by decide +kernel
theorem own_d4_10 : decode prog_36_method_2_code 10 = .ok (.aload_n 0, 1) := by decide +kernel
theorem own_d4_11 : decode prog_36_method_2_code 11 = .ok (.getfield 23, 3) := by decide +kernel
theorem own_d4_14 : decode prog_36_method_2_code 14 = .ok (.lcmp, 1) := by decide +kernel
theorem own_d4_15 : decode prog_36_method_2_code 15 = .ok (.ifCond .lt 7, 3) := by decide +kernel
theorem own_d4_18 : decode prog_36_method_2_code 18 = .ok (.iconst 1, 1) := by decide +kernel
theorem own_d4_19 : decode prog_36_method_2_code 19 = .ok (.goto 4, 3) := by decide +kernel
theorem own_d4_22 : decode prog_36_method_2_code 22 = .ok (.iconst 0, 1) := by decide +kernel
theorem own_d4_23 : decode prog_36_method_2_code 23 = .ok (.ireturn, 1) := by decide +kernel
def own_f4 (a0 : Addr) (q1 : Int64) (q2 : Int64) (w1 : Int64) (w2 : Int64) : Int32 := (if q1 < w1 then (if q2 < w2 then (0 : Int32) else (1 : Int32)) else (1 : Int32))
theorem own_ef4 (m : MethodId) (a0 : Addr) (q1 : Int64) (q2 : Int64) : entryFrame m #[(.ref a0), (.long q1), (.long q2)] 5 = mkF m 0 #[.val (.ref a0), .val (.long q1), .second, .val (.long q2), .second] [] := by first | (simp [entryFrame, mkF, argsToLocals, Value.category]; done) | rfl
def own_Q4 (Z : State) (a0 : Addr) (q1 : Int64) (q2 : Int64) (w1 : Int64) (w2 : Int64) (h0 : Heap) (n0 : Nat) (v : Option Value) (h : Heap) (L : List Loc) : Prop := v = some (.int (own_f4 a0 q1 q2 w1 w2)) ∧ Fr n0 L ∧ h = h0
set_option maxRecDepth 65536 in
set_option maxHeartbeats 40000000 in
theorem own_rm4 (l : Launch) (Z : State) (aA : Array Value) (hw : ∀ d ∈ tables_1, d.before aA Z = true) (ws : List Jvm.Cond) (a0 : Addr) (q1 : Int64) (q2 : Int64) (w1 : Int64) (w2 : Int64) (h0 : Heap) (n0 : Nat) (Z0 : n0 ≤ h0.size) (pre0 : Fld Z h0 a0 "com/example/hermod/hermod/ts50136_9/SessionKeyLifetime" "m_nAnswers" "J" (.long w1)) (pre1 : Fld Z h0 a0 "com/example/hermod/hermod/ts50136_9/SessionKeyLifetime" "m_nNanos" "J" (.long w2)) :
    MetFree l (⟨"com/example/hermod/hermod/ts50136_9/SessionKeyLifetime", "isOver", "(JJ)Z"⟩ : MethodName) (head1 (Jvm.Cond.code (⟨"com/example/hermod/hermod/ts50136_9/SessionKeyLifetime", "isOver", "(JJ)Z"⟩ : MethodName) prog_36_method_2_code 5 (some .boolean) :: ws) ({ frames := 0, cells := 0, slots := 0, locals := 0 } : Room)) (fun a U => a = #[(.ref a0), (.long q1), (.long q2)] ∧ Z.Warmed39 U.vm ∧ U.heap = h0) (fun _ _ _ _ _ => True) (fun _ U o U' => ∃ v L, o = .returned v ∧ own_Q4 Z a0 q1 q2 w1 w2 h0 n0 v U'.heap L ∧ FrameEnd U o U' L ({ frames := 0, cells := 0, slots := 0, locals := 0 } : Room).cells ({ frames := 0, cells := 0, slots := 0, locals := 0 } : Room).slots) := by
  refine MetFree.of_bodySF (plainFor_of_name own_pn36) hisR ?_
  intro p e s m args below meth c s₁ Bd hml0 hP hK
  obtain ⟨rfl, hZ, hh⟩ := hP
  have hx := Bd.exec
  have hby := Bd.bytes
  have hlk : meth.locks = false := Bd.notSynchronized
  have hml : c.maxLocals = 5 := hml0
  have hown : s.vm.findClass "com/example/hermod/hermod/ts50136_9/SessionKeyLifetime" = some m.cls := findClass_of_methodNamed Bd.named
  have hnm := (name_of_methodNamed Bd.named Bd.method).1
  have X0 : Stand p l e ({ frames := 0, cells := 0, slots := 0, locals := 0 } : Room) s m #[(.ref a0), (.long q1), (.long q2)] below meth c s₁ [] 0 0 := Stand.of_body Bd
  have e0 : s₁.heap = h0 := by rw [← hh, Bd.state]; rfl
  have N0 := Fr.nil n0
  show OG p e below (FE s ({ frames := 0, cells := 0, slots := 0, locals := 0 } : Room).cells ({ frames := 0, cells := 0, slots := 0, locals := 0 } : Room).slots) (own_Q4 Z a0 q1 q2 w1 w2 h0 n0) (s₁.setTop (entryFrame m #[(.ref a0), (.long q1), (.long q2)] 5))
  refine og_of (fun _ k => castTop (own_ef4 m a0 q1 q2) k) ?_
  refine o_lloadN X0 hx rfl (hb hby own_d4_0) rfl ?_
  refine o_aloadN X0 hx rfl (hb hby own_d4_1) rfl rfl ?_
  obtain ⟨T1, X1, e1, st1⟩ := getF X0 hx hZ hown (host := "") (Or.inl (hw _ (List.mem_of_getElem? (i := 13) rfl))) Via.refl e0 pre0 (g := (mkF m 2 #[.val (.ref a0), .val (.long q1), .second, .val (.long q2), .second] [(.ref a0), (.long q1)])) rfl rfl (hb hby own_d4_2)
  refine og_of st1 ?_
  show OG p e below _ _ (T1.setTop (mkF m 5 #[.val (.ref a0), .val (.long q1), .second, .val (.long q2), .second] [(.long w1), (.long q1)]))
  refine o_lcmp X1 hx rfl (hb hby own_d4_5) ?_
  by_cases hc2 : q1 < w1
  · skip
    refine o_ifN (pc' := 9) X1 hx rfl (hb hby own_d4_6) (lcY_lt hc2).2 ?_
    refine o_lloadN X1 hx rfl (hb hby own_d4_9) rfl ?_
    refine o_aloadN X1 hx rfl (hb hby own_d4_10) rfl rfl ?_
    obtain ⟨T3, X3, e3, st3⟩ := getF X1 hx hZ hown (host := "") (Or.inl (hw _ (List.mem_of_getElem? (i := 26) rfl))) Via.refl e1 pre1 (g := (mkF m 11 #[.val (.ref a0), .val (.long q1), .second, .val (.long q2), .second] [(.ref a0), (.long q2)])) rfl rfl (hb hby own_d4_11)
    refine og_of st3 ?_
    show OG p e below _ _ (T3.setTop (mkF m 14 #[.val (.ref a0), .val (.long q1), .second, .val (.long q2), .second] [(.long w2), (.long q2)]))
    refine o_lcmp X3 hx rfl (hb hby own_d4_14) ?_
    by_cases hc4 : q2 < w2
    · skip
      refine o_ifY (pc' := 22) X3 hx (hb hby own_d4_15) (lcY_lt hc4).1 (by decide) (by decide) ?_
      refine o_iconst (z := (0 : Int32)) X3 hx rfl (hb hby own_d4_22) (by decide) ?_
      exact o_retB X3 hx Bd.returns (own_lv X3 hlk (by decide) (by decide)) (hb hby own_d4_23) (by decide) ⟨(by rw [own_f4, if_pos hc2, if_pos hc4]), N0, e3⟩
    · skip
      refine o_ifN (pc' := 18) X3 hx rfl (hb hby own_d4_15) (lcN_lt hc4).1 ?_
      refine o_iconst (z := (1 : Int32)) X3 hx rfl (hb hby own_d4_18) (by decide) ?_
      refine o_goto (pc' := 23) X3 hx (hb hby own_d4_19) (by decide) (by decide) ?_
      exact o_retB X3 hx Bd.returns (own_lv X3 hlk (by decide) (by decide)) (hb hby own_d4_23) (by decide) ⟨(by rw [own_f4, if_pos hc2, if_neg hc4]), N0, e3⟩
  · skip
    refine o_ifY (pc' := 18) X1 hx (hb hby own_d4_6) (lcN_lt hc2).2 (by decide) (by decide) ?_
    refine o_iconst (z := (1 : Int32)) X1 hx rfl (hb hby own_d4_18) (by decide) ?_
    refine o_goto (pc' := 23) X1 hx (hb hby own_d4_19) (by decide) (by decide) ?_
    exact o_retB X1 hx Bd.returns (own_lv X1 hlk (by decide) (by decide)) (hb hby own_d4_23) (by decide) ⟨(by rw [own_f4, if_neg hc2]), N0, e1⟩
theorem own_ls (q : Int64) : ¬ ((9223372036 : Int64) < (((q &&& (2147483647 : Int64)) % (604800 : Int64)) + (1 : Int64))) ∧ ¬ ((((q &&& (2147483647 : Int64)) % (604800 : Int64)) + (1 : Int64)) < (-9223372036 : Int64)) := by
  have e1 := c_maskL q 2147483647 31 (by decide) (by decide)
  have o : (604800 : Int64).toInt = 604800 := rfl
  have e2 : ((q &&& 2147483647) % 604800).toInt = (q &&& 2147483647).toInt % 604800 := by rw [Int64.toInt_mod, Int.tmod_eq_emod_of_nonneg (by omega), o]
  have e3 := c_ladd ((q &&& 2147483647) % 604800) 1
  have r := rng64 (((q &&& 2147483647) % 604800) + 1)
  have o1 : (1 : Int64).toInt = 1 := rfl
  have o2 : (9223372036 : Int64).toInt = 9223372036 := rfl
  have o3 : (-9223372036 : Int64).toInt = -9223372036 := rfl
  rw [Int64.lt_iff_toInt_lt, Int64.lt_iff_toInt_lt]
  omega
theorem own_over (a : Addr) (x y u v : Int64) : own_f4 a x y u v = (if (if x < u then (0 : Int32) else (1 : Int32)) = (0 : Int32) then (if (if y < v then (0 : Int32) else (1 : Int32)) = (0 : Int32) then (0 : Int32) else (1 : Int32)) else (1 : Int32)) := by
  unfold own_f4
  by_cases h1 : x < u <;> by_cases h2 : y < v <;> simp [h1, h2]
theorem own_pd1 : parseMethodDescriptor "(IJ)V" = some ⟨[.int, .long], none⟩ := by decide +kernel
theorem own_pd2 : parseMethodDescriptor "(JJ)Z" = some ⟨[.long, .long], some .boolean⟩ := by decide +kernel
theorem own_ef0 (m : MethodId) (p0 : Int32) (q1 : Int64) (q2 : Int64) (q3 : Int64) (p4 : Int32) : entryFrame m #[(.int p0), (.long q1), (.long q2), (.long q3), (.int p4)] maxLocals = mkF m 0 #[.val (.int p0), .val (.long q1), .second, .val (.long q2), .second, .val (.long q3), .second, .val (.int p4), .unset, .unset, .unset, .unset, .unset, .unset, .unset, .unset, .unset, .unset, .unset, .unset, .unset, .unset] [] := by first | (simp [entryFrame, mkF, argsToLocals, Value.category, maxLocals]; done) | rfl
def own_Q0 (Z : State) (p0 : Int32) (q1 : Int64) (q2 : Int64) (q3 : Int64) (p4 : Int32) (u : Addr) (h0 : Heap) (n0 : Nat) (v : Option Value) (h : Heap) (L : List Loc) : Prop := v = some (.int (1 : Int32)) ∧ Fr n0 L
theorem own_pn51 : plainName "com/example/hermod/hermod/ts50136_9/SessionKeyLifetimeIsOverPinLaw" = true := by first | (simp [plainName, overriddenIn]; done) | decide +kernel
set_option maxRecDepth 65536 in
set_option maxHeartbeats 40000000 in
theorem own_rm0 (l : Launch) (Z : State) (aA : Array Value) (hw : ∀ d ∈ tables_1, d.before aA Z = true) (ws : List Jvm.Cond) (p0 : Int32) (q1 : Int64) (q2 : Int64) (q3 : Int64) (p4 : Int32) (u : Addr) (h0 : Heap) (n0 : Nat) (Z0 : n0 ≤ h0.size) (pre0 : Sta Z h0 "java/util/concurrent/TimeUnit" "SECONDS" "Ljava/util/concurrent/TimeUnit;" (.ref u)) (pre1 : Exa Z h0 u "java/util/concurrent/TimeUnit") (pre2 : Fld Z h0 u "java/util/concurrent/TimeUnit" "scale" "J" (.long (1000000000 : Int64))) (pre3 : Fld Z h0 u "java/util/concurrent/TimeUnit" "maxNanos" "J" (.long (9223372036 : Int64))) :
    MetFree l x (head1 (Jvm.Cond.code x code maxLocals ret :: ws) room_1) (fun a U => a = #[(.int p0), (.long q1), (.long q2), (.long q3), (.int p4)] ∧ Z.Warmed39 U.vm ∧ U.heap = h0) (fun _ _ _ _ _ => True) (fun _ U o U' => ∃ v L, o = .returned v ∧ own_Q0 Z p0 q1 q2 q3 p4 u h0 n0 v U'.heap L ∧ FrameEnd U o U' L room_1.cells room_1.slots) := by
  refine MetFree.of_bodySF (plainFor_of_name own_pn51) hisR ?_
  intro p e s m args below meth c s₁ Bd hml0 hP hK
  obtain ⟨rfl, hZ, hh⟩ := hP
  have hx := Bd.exec
  have hby := Bd.bytes
  have hlk : meth.locks = false := Bd.notSynchronized
  have hml : c.maxLocals = 22 := hml0
  have hown : s.vm.findClass "com/example/hermod/hermod/ts50136_9/SessionKeyLifetimeIsOverPinLaw" = some m.cls := findClass_of_methodNamed Bd.named
  have hnm := (name_of_methodNamed Bd.named Bd.method).1
  have X0 : Stand p l e room_1 s m #[(.int p0), (.long q1), (.long q2), (.long q3), (.int p4)] below meth c s₁ [] 0 0 := Stand.of_body Bd
  have e0 : s₁.heap = h0 := by rw [← hh, Bd.state]; rfl
  have N0 := Fr.nil n0
  show OG p e below (FE s room_1.cells room_1.slots) (own_Q0 Z p0 q1 q2 q3 p4 u h0 n0) (s₁.setTop (entryFrame m #[(.int p0), (.long q1), (.long q2), (.long q3), (.int p4)] maxLocals))
  refine og_of (fun _ k => castTop (own_ef0 m p0 q1 q2 q3 p4) k) ?_
  refine o_iloadN X0 hx rfl (hb hby at_0) rfl ?_
  refine o_ldcI X0 hx rfl (hb hby at_1) hZ hown (hw _ (List.mem_of_getElem? (i := 0) rfl)) ?_
  obtain ⟨z1, hz1⟩ : ∃ z : Int32, p0 &&& (65535 : Int32) = z := ⟨_, rfl⟩
  refine o_iand (z := z1) X0 hx rfl (hb hby at_3) hz1 ?_
  refine o_iconst (z := (1 : Int32)) X0 hx rfl (hb hby at_4) (by decide) ?_
  obtain ⟨z2, hz2⟩ : ∃ z : Int32, z1 + (1 : Int32) = z := ⟨_, rfl⟩
  refine o_iadd (z := z2) X0 hx rfl (hb hby at_5) hz2 ?_
  refine o_istore X0 hx rfl (hb hby at_6) (L' := #[.val (.int p0), .val (.long q1), .second, .val (.long q2), .second, .val (.long q3), .second, .val (.int p4), .val (.int z2), .unset, .unset, .unset, .unset, .unset, .unset, .unset, .unset, .unset, .unset, .unset, .unset, .unset]) rfl ?_
  refine o_lloadN X0 hx rfl (hb hby at_8) rfl ?_
  refine o_ldc2L X0 hx rfl (hb hby at_9) hZ hown (hw _ (List.mem_of_getElem? (i := 1) rfl)) ?_
  obtain ⟨z3, hz3⟩ : ∃ z : Int64, q1 &&& (2147483647 : Int64) = z := ⟨_, rfl⟩
  refine o_land (z := z3) X0 hx rfl (hb hby at_12) hz3 ?_
  refine o_ldc2L X0 hx rfl (hb hby at_13) hZ hown (hw _ (List.mem_of_getElem? (i := 2) rfl)) ?_
  obtain ⟨z4, hz4⟩ : ∃ z : Int64, z3 % (604800 : Int64) = z := ⟨_, rfl⟩
  refine o_lrem (z := z4) X0 hx rfl (hb hby at_16) hz4 (by decide) ?_
  refine o_lconst (z := (1 : Int64)) X0 hx rfl (hb hby at_17) (by decide) ?_
  obtain ⟨z5, hz5⟩ : ∃ z : Int64, z4 + (1 : Int64) = z := ⟨_, rfl⟩
  refine o_ladd (z := z5) X0 hx rfl (hb hby at_18) hz5 ?_
  refine o_lstore X0 hx rfl (hb hby at_19) (L' := #[.val (.int p0), .val (.long q1), .second, .val (.long q2), .second, .val (.long q3), .second, .val (.int p4), .val (.int z2), .val (.long z5), .second, .unset, .unset, .unset, .unset, .unset, .unset, .unset, .unset, .unset, .unset, .unset]) rfl ?_
  refine o_lload X0 hx rfl (hb hby at_21) rfl ?_
  refine o_ldc2L X0 hx rfl (hb hby at_23) hZ hown (hw _ (List.mem_of_getElem? (i := 3) rfl)) ?_
  obtain ⟨z6, hz6⟩ : ∃ z : Int64, z5 * (1000000000 : Int64) = z := ⟨_, rfl⟩
  refine o_lmul (z := z6) X0 hx rfl (hb hby at_26) hz6 ?_
  refine o_lstore X0 hx rfl (hb hby at_27) (L' := #[.val (.int p0), .val (.long q1), .second, .val (.long q2), .second, .val (.long q3), .second, .val (.int p4), .val (.int z2), .val (.long z5), .second, .val (.long z6), .second, .unset, .unset, .unset, .unset, .unset, .unset, .unset, .unset, .unset]) rfl ?_
  refine o_iload X0 hx rfl (hb hby at_29) rfl ?_
  refine o_iconst (z := (1 : Int32)) X0 hx rfl (hb hby at_31) (by decide) ?_
  obtain ⟨z7, hz7⟩ : ∃ z : Int32, p4 &&& (1 : Int32) = z := ⟨_, rfl⟩
  refine o_iand (z := z7) X0 hx rfl (hb hby at_32) hz7 ?_
  obtain ⟨ph9, hph9⟩ : ∃ z : Int64, (if z7 = (0 : Int32) then (((z2.toInt64) + (q2 % (3 : Int64))) - (1 : Int64)) else q2) = z := ⟨_, rfl⟩
  have J10 : OG p e below (FE s room_1.cells room_1.slots) (own_Q0 Z p0 q1 q2 q3 p4 u h0 n0) (s₁.setTop (mkF m 55 #[.val (.int p0), .val (.long q1), .second, .val (.long q2), .second, .val (.long q3), .second, .val (.int p4), .val (.int z2), .val (.long z5), .second, .val (.long z6), .second, .val (.long ph9), .second, .unset, .unset, .unset, .unset, .unset, .unset, .unset] [])) := by
    refine o_iload X0 hx rfl (hb hby at_55) rfl ?_
    refine o_iconst (z := (2 : Int32)) X0 hx rfl (hb hby at_57) (by decide) ?_
    obtain ⟨z11, hz11⟩ : ∃ z : Int32, p4 &&& (2 : Int32) = z := ⟨_, rfl⟩
    refine o_iand (z := z11) X0 hx rfl (hb hby at_58) hz11 ?_
    obtain ⟨ph13, hph13⟩ : ∃ z : Int64, (if z11 = (0 : Int32) then ((z6 + (q3 % (3 : Int64))) - (1 : Int64)) else q3) = z := ⟨_, rfl⟩
    have J14 : OG p e below (FE s room_1.cells room_1.slots) (own_Q0 Z p0 q1 q2 q3 p4 u h0 n0) (s₁.setTop (mkF m 82 #[.val (.int p0), .val (.long q1), .second, .val (.long q2), .second, .val (.long q3), .second, .val (.int p4), .val (.int z2), .val (.long z5), .second, .val (.long z6), .second, .val (.long ph9), .second, .val (.long ph13), .second, .unset, .unset, .unset, .unset, .unset] [])) := by
      obtain ⟨T15, h15, X15, e15, E15, A15, D15, -, st15⟩ := newO X0 hx hZ hown (hw _ (List.mem_of_getElem? (i := 4) rfl)) (hw _ (List.mem_of_getElem? (i := 5) rfl)) (hw _ (List.mem_of_getElem? (i := 6) rfl)) e0 (g := (mkF m 82 #[.val (.int p0), .val (.long q1), .second, .val (.long q2), .second, .val (.long q3), .second, .val (.int p4), .val (.int z2), .val (.long z5), .second, .val (.long z6), .second, .val (.long ph9), .second, .val (.long ph13), .second, .unset, .unset, .unset, .unset, .unset] [])) rfl (hb hby at_82) (by decide) (by decide)
      obtain ⟨b15, g15⟩ : ∃ z, z = h0.size := ⟨_, rfl⟩
      rw [← g15] at A15 D15 st15
      have ne16 : u ≠ b15 := Nat.ne_of_lt (Nat.lt_of_lt_of_le pre1.lt (Nat.le_of_eq g15.symm))
      have gn15 : n0 ≤ b15 := Nat.le_trans Z0 (Nat.le_of_eq g15.symm)
      have sz15 : h0.size ≤ b15 := Nat.le_trans (Keep.refl h0 []).1 (Nat.le_of_eq g15.symm)
      have Kp17 : Keep h0 h15 [] := (Keep.refl h0 []).ext E15
      have F15_14 : Fld Z h15 b15 "com/example/hermod/hermod/ts50136_9/SessionKeyLifetime" "m_nAnswers" "J" (.long (0 : Int64)) := D15 (Or.inr (hw _ (List.mem_of_getElem? (i := 14) rfl))) (ty := .long) (by decide)
      have F15_27 : Fld Z h15 b15 "com/example/hermod/hermod/ts50136_9/SessionKeyLifetime" "m_nNanos" "J" (.long (0 : Int64)) := D15 (Or.inr (hw _ (List.mem_of_getElem? (i := 27) rfl))) (ty := .long) (by decide)
      refine og_of st15 ?_
      show OG p e below _ _ (T15.setTop (mkF m 85 #[.val (.int p0), .val (.long q1), .second, .val (.long q2), .second, .val (.long q3), .second, .val (.int p4), .val (.int z2), .val (.long z5), .second, .val (.long z6), .second, .val (.long ph9), .second, .val (.long ph13), .second, .unset, .unset, .unset, .unset, .unset] [(.ref b15)]))
      refine o_dup X15 hx rfl (hb hby at_85) rfl ?_
      refine o_iload X15 hx rfl (hb hby at_86) rfl ?_
      refine o_lload X15 hx rfl (hb hby at_88) rfl ?_
      have Fc19 : Sta Z h15 "java/util/concurrent/TimeUnit" "SECONDS" "Ljava/util/concurrent/TimeUnit;" (.ref u) := (Sta.ext E15 pre0)
      have Fc20 : Exa Z h15 u "java/util/concurrent/TimeUnit" := (Exa.ext E15 pre1)
      have Fc21 : Fld Z h15 u "java/util/concurrent/TimeUnit" "scale" "J" (.long (1000000000 : Int64)) := (Fld.ext E15 pre2)
      have Fc22 : Fld Z h15 u "java/util/concurrent/TimeUnit" "maxNanos" "J" (.long (9223372036 : Int64)) := (Fld.ext E15 pre3)
      have hw_23 : ¬ ((9223372036 : Int64) < z5) := by subst hz1 hz2 hz3 hz4 hz5 hz6 hz7 hph9 hz11 hph13; exact (own_ls q1).1
      have hw_24 : ¬ (z5 < (-9223372036 : Int64)) := by subst hz1 hz2 hz3 hz4 hz5 hz6 hz7 hph9 hz11 hph13; exact (own_ls q1).2
      obtain ⟨_, _, ⟨T18, L18, k18, n18⟩, -, X18, ⟨Lc18, hQ18, l18, y18, z18⟩, st18⟩ := X15.specialBack hx (y := (⟨"com/example/hermod/hermod/ts50136_9/SessionKeyLifetime", "<init>", "(IJ)V"⟩ : MethodName)) rfl hown (mvT hZ (hw _ (List.mem_of_getElem? (i := 7) rfl))) (mvT hZ (hw _ (List.mem_of_getElem? (i := 8) rfl))) (mvT hZ (hw _ (List.mem_of_getElem? (i := 9) rfl))) (by decide) (backOf (W := 1) (own_rm1 l Z aA hw [] b15 z2 z5 u h15 n0 (Nat.le_trans Z0 E15.1) A15 gn15 F15_14 F15_27 Fc19 Fc20 Fc21 Fc22 ne16 hw_23 hw_24) hZ (hw _ (List.mem_of_getElem? (i := 9) rfl)) (hw _ (List.mem_of_getElem? (i := 6) rfl)) (by decide) (by decide)) (g := (mkF m 90 #[.val (.int p0), .val (.long q1), .second, .val (.long q2), .second, .val (.long q3), .second, .val (.int p4), .val (.int z2), .val (.long z5), .second, .val (.long z6), .second, .val (.long ph9), .second, .val (.long ph13), .second, .unset, .unset, .unset, .unset, .unset] [(.long z5), (.int z2), (.ref b15), (.ref b15)])) rfl (by rw [hml]; rfl) (Steps.refl _) (a := b15) (argsL := [(.int z2), (.long z5)]) (rest := [(.ref b15)]) (lenOf own_pd1 rfl) rfl (by show 2 * 0 + _ ≤ _; exact Nat.le_of_eq rfl) (hb hby at_90) (fun _ _ => ⟨rfl, e15, Nat.le_of_ble_eq_true rfl, Nat.le_of_ble_eq_true rfl⟩)
      dsimp only [Pt.U, Pt.locs, Pt.cells, Pt.slots] at X18 l18 y18 z18 st18 hQ18
      subst l18 y18 z18
      obtain ⟨rfl, N18q, K18, f18_0, f18_1⟩ := hQ18
      have N25 := Fr.app N0 N18q
      have Kp26 : Keep h0 T18.heap [] := Kp17.trans K18 (allS (Or.inr sz15) all0)
      refine og_tr st18 ?_
      show OG p e below _ _ (T18.setTop (mkF m 93 #[.val (.int p0), .val (.long q1), .second, .val (.long q2), .second, .val (.long q3), .second, .val (.int p4), .val (.int z2), .val (.long z5), .second, .val (.long z6), .second, .val (.long ph9), .second, .val (.long ph13), .second, .unset, .unset, .unset, .unset, .unset] [(.ref b15)]))
      refine o_astore X18 hx rfl (hb hby at_93) rfl (L' := #[.val (.int p0), .val (.long q1), .second, .val (.long q2), .second, .val (.long q3), .second, .val (.int p4), .val (.int z2), .val (.long z5), .second, .val (.long z6), .second, .val (.long ph9), .second, .val (.long ph13), .second, .val (.ref b15), .unset, .unset, .unset, .unset]) rfl ?_
      refine o_aload X18 hx rfl (hb hby at_95) rfl rfl ?_
      refine o_lload X18 hx rfl (hb hby at_97) rfl ?_
      refine o_lload X18 hx rfl (hb hby at_99) rfl ?_
      have Fc28 : Exa Z T18.heap b15 "com/example/hermod/hermod/ts50136_9/SessionKeyLifetime" := (A15.keep K18)
      obtain ⟨cq27, kq27, q27a, q27b, q27c⟩ := isOf hZ rfl Fc28
      obtain ⟨_, _, ⟨T27, L27, k27, n27⟩, -, X27, ⟨Lc27, hQ27, l27, y27, z27⟩, st27⟩ := X18.virtualBack hx (y := (⟨"com/example/hermod/hermod/ts50136_9/SessionKeyLifetime", "isOver", "(JJ)Z"⟩ : MethodName)) (z := (⟨"com/example/hermod/hermod/ts50136_9/SessionKeyLifetime", "isOver", "(JJ)Z"⟩ : MethodName)) hown (mvT hZ (hw _ (List.mem_of_getElem? (i := 28) rfl))) (mvT hZ (hw _ (List.mem_of_getElem? (i := 29) rfl))) (notFace_of_selects (args := #[]) (mvT hZ (hw _ (List.mem_of_getElem? (i := 31) rfl)))) (mvT hZ (hw _ (List.mem_of_getElem? (i := 31) rfl))) (mvT hZ (hw _ (List.mem_of_getElem? (i := 30) rfl))) (by decide) (backOf (W := 0) (own_rm4 l Z aA hw [] b15 ph9 ph13 z2.toInt64 (z5 * (1000000000 : Int64)) T18.heap n0 (Nat.le_trans (Nat.le_trans Z0 E15.1) K18.1) f18_0 f18_1) hZ (hw _ (List.mem_of_getElem? (i := 32) rfl)) (hw _ (List.mem_of_getElem? (i := 6) rfl)) (by decide) (by decide)) q27a q27c (g := (mkF m 101 #[.val (.int p0), .val (.long q1), .second, .val (.long q2), .second, .val (.long q3), .second, .val (.int p4), .val (.int z2), .val (.long z5), .second, .val (.long z6), .second, .val (.long ph9), .second, .val (.long ph13), .second, .val (.ref b15), .unset, .unset, .unset, .unset] [(.long ph13), (.long ph9), (.ref b15)])) rfl (by rw [hml]; rfl) (Steps.refl _) (argsL := [(.long ph9), (.long ph13)]) (rest := []) (lenOf own_pd2 rfl) rfl (by show 2 * 0 + _ ≤ _; exact Nat.le_of_eq rfl) (hb hby at_101) (fun _ _ => ⟨rfl, rfl, Nat.le_of_ble_eq_true rfl, Nat.le_of_ble_eq_true rfl⟩)
      dsimp only [Pt.U, Pt.locs, Pt.cells, Pt.slots] at X27 l27 y27 z27 st27 hQ27
      subst l27 y27 z27
      obtain ⟨rfl, N27q, ee27⟩ := hQ27
      have N29 := Fr.app N25 N27q
      refine og_tr st27 ?_
      show OG p e below _ _ (T27.setTop (mkF m 104 #[.val (.int p0), .val (.long q1), .second, .val (.long q2), .second, .val (.long q3), .second, .val (.int p4), .val (.int z2), .val (.long z5), .second, .val (.long z6), .second, .val (.long ph9), .second, .val (.long ph13), .second, .val (.ref b15), .unset, .unset, .unset, .unset] [(.int (own_f4 b15 ph9 ph13 z2.toInt64 (z5 * (1000000000 : Int64))))]))
      refine o_istore X27 hx rfl (hb hby at_104) (L' := #[.val (.int p0), .val (.long q1), .second, .val (.long q2), .second, .val (.long q3), .second, .val (.int p4), .val (.int z2), .val (.long z5), .second, .val (.long z6), .second, .val (.long ph9), .second, .val (.long ph13), .second, .val (.ref b15), .val (.int (own_f4 b15 ph9 ph13 z2.toInt64 (z5 * (1000000000 : Int64)))), .unset, .unset, .unset]) rfl ?_
      refine o_lload X27 hx rfl (hb hby at_106) rfl ?_
      refine o_iload X27 hx rfl (hb hby at_108) rfl ?_
      obtain ⟨z30, hz30⟩ : ∃ z : Int64, z2.toInt64 = z := ⟨_, rfl⟩
      refine o_i2l (z := z30) X27 hx rfl (hb hby at_110) hz30 ?_
      refine o_lcmp X27 hx rfl (hb hby at_111) ?_
      obtain ⟨ph32, hph32⟩ : ∃ z : Int32, (if ph9 < z30 then (0 : Int32) else (1 : Int32)) = z := ⟨_, rfl⟩
      have J33 : OG p e below (FE s room_1.cells room_1.slots) (own_Q0 Z p0 q1 q2 q3 p4 u h0 n0) (T27.setTop (mkF m 120 #[.val (.int p0), .val (.long q1), .second, .val (.long q2), .second, .val (.long q3), .second, .val (.int p4), .val (.int z2), .val (.long z5), .second, .val (.long z6), .second, .val (.long ph9), .second, .val (.long ph13), .second, .val (.ref b15), .val (.int (own_f4 b15 ph9 ph13 z2.toInt64 (z5 * (1000000000 : Int64)))), .unset, .unset, .unset] [(.int ph32)])) := by
        refine o_istore X27 hx rfl (hb hby at_120) (L' := #[.val (.int p0), .val (.long q1), .second, .val (.long q2), .second, .val (.long q3), .second, .val (.int p4), .val (.int z2), .val (.long z5), .second, .val (.long z6), .second, .val (.long ph9), .second, .val (.long ph13), .second, .val (.ref b15), .val (.int (own_f4 b15 ph9 ph13 z2.toInt64 (z5 * (1000000000 : Int64)))), .val (.int ph32), .unset, .unset]) rfl ?_
        refine o_lload X27 hx rfl (hb hby at_122) rfl ?_
        refine o_lload X27 hx rfl (hb hby at_124) rfl ?_
        refine o_lcmp X27 hx rfl (hb hby at_126) ?_
        obtain ⟨ph35, hph35⟩ : ∃ z : Int32, (if ph13 < z6 then (0 : Int32) else (1 : Int32)) = z := ⟨_, rfl⟩
        have J36 : OG p e below (FE s room_1.cells room_1.slots) (own_Q0 Z p0 q1 q2 q3 p4 u h0 n0) (T27.setTop (mkF m 135 #[.val (.int p0), .val (.long q1), .second, .val (.long q2), .second, .val (.long q3), .second, .val (.int p4), .val (.int z2), .val (.long z5), .second, .val (.long z6), .second, .val (.long ph9), .second, .val (.long ph13), .second, .val (.ref b15), .val (.int (own_f4 b15 ph9 ph13 z2.toInt64 (z5 * (1000000000 : Int64)))), .val (.int ph32), .unset, .unset] [(.int ph35)])) := by
          refine o_istore X27 hx rfl (hb hby at_135) (L' := #[.val (.int p0), .val (.long q1), .second, .val (.long q2), .second, .val (.long q3), .second, .val (.int p4), .val (.int z2), .val (.long z5), .second, .val (.long z6), .second, .val (.long ph9), .second, .val (.long ph13), .second, .val (.ref b15), .val (.int (own_f4 b15 ph9 ph13 z2.toInt64 (z5 * (1000000000 : Int64)))), .val (.int ph32), .val (.int ph35), .unset]) rfl ?_
          refine o_iload X27 hx rfl (hb hby at_137) rfl ?_
          obtain ⟨ph39, hph39⟩ : ∃ z : Int32, (if ph32 = (0 : Int32) then (if ph35 = (0 : Int32) then (0 : Int32) else (1 : Int32)) else (1 : Int32)) = z := ⟨_, rfl⟩
          have J40 : OG p e below (FE s room_1.cells room_1.slots) (own_Q0 Z p0 q1 q2 q3 p4 u h0 n0) (T27.setTop (mkF m 162 #[.val (.int p0), .val (.long q1), .second, .val (.long q2), .second, .val (.long q3), .second, .val (.int p4), .val (.int z2), .val (.long z5), .second, .val (.long z6), .second, .val (.long ph9), .second, .val (.long ph13), .second, .val (.ref b15), .val (.int (own_f4 b15 ph9 ph13 z2.toInt64 (z5 * (1000000000 : Int64)))), .val (.int ph32), .val (.int ph35), .val (.int ph39)] [])) := by
            refine o_iload X27 hx rfl (hb hby at_162) rfl ?_
            refine o_iload X27 hx rfl (hb hby at_164) rfl ?_
            have hk41 : (own_f4 b15 ph9 ph13 z2.toInt64 (z5 * (1000000000 : Int64))) = ph39 := by subst hz1 hz2 hz3 hz4 hz5 hz6 hz7 hph9 hz11 hph13 hz30 hph32 hph35 hph39; exact own_over _ _ _ _ _
            refine o_icmpN (pc' := 169) X27 hx rfl (hb hby at_166) (teq hk41).2 ?_
            refine o_iconst (z := (1 : Int32)) X27 hx rfl (hb hby at_169) (by decide) ?_
            refine o_goto (pc' := 174) X27 hx (hb hby at_170) (by decide) (by decide) ?_
            subst hz1 hz2 hz3 hz4 hz5 hz6 hz7 hph9 hz11 hph13 hz30 hph32 hph35 hph39
            exact o_retB X27 hx Bd.returns (own_lv X27 hlk (by decide) (by decide)) (hb hby at_174) (by decide) ⟨rfl, N29⟩
          by_cases hc42 : ph32 = (0 : Int32)
          · skip
            refine o_ifY (pc' := 148) X27 hx (hb hby at_139) ((if0 _ _).trans (teq hc42).1) (by decide) (by decide) ?_
            refine o_iload X27 hx rfl (hb hby at_148) rfl ?_
            by_cases hc43 : ph35 = (0 : Int32)
            · skip
              refine o_ifY (pc' := 159) X27 hx (hb hby at_150) ((if0 _ _).trans (teq hc43).1) (by decide) (by decide) ?_
              refine o_iconst (z := (0 : Int32)) X27 hx rfl (hb hby at_159) (by decide) ?_
              refine o_istore X27 hx rfl (hb hby at_160) (L' := #[.val (.int p0), .val (.long q1), .second, .val (.long q2), .second, .val (.long q3), .second, .val (.int p4), .val (.int z2), .val (.long z5), .second, .val (.long z6), .second, .val (.long ph9), .second, .val (.long ph13), .second, .val (.ref b15), .val (.int (own_f4 b15 ph9 ph13 z2.toInt64 (z5 * (1000000000 : Int64)))), .val (.int ph32), .val (.int ph35), .val (.int (0 : Int32))]) rfl ?_
              have q44 : ph39 = (0 : Int32) := by
                rw [← hph39]
                simp only [if_pos hc42, if_pos hc43]
              rw [q44] at J40
              exact J40
            · skip
              refine o_ifN (pc' := 153) X27 hx rfl (hb hby at_150) ((if0 _ _).trans (feq hc43).1) ?_
              refine o_iconst (z := (1 : Int32)) X27 hx rfl (hb hby at_153) (by decide) ?_
              refine o_istore X27 hx rfl (hb hby at_154) (L' := #[.val (.int p0), .val (.long q1), .second, .val (.long q2), .second, .val (.long q3), .second, .val (.int p4), .val (.int z2), .val (.long z5), .second, .val (.long z6), .second, .val (.long ph9), .second, .val (.long ph13), .second, .val (.ref b15), .val (.int (own_f4 b15 ph9 ph13 z2.toInt64 (z5 * (1000000000 : Int64)))), .val (.int ph32), .val (.int ph35), .val (.int (1 : Int32))]) rfl ?_
              refine o_goto (pc' := 162) X27 hx (hb hby at_156) (by decide) (by decide) ?_
              have q45 : ph39 = (1 : Int32) := by
                rw [← hph39]
                simp only [if_pos hc42, if_neg hc43]
              rw [q45] at J40
              exact J40
          · skip
            refine o_ifN (pc' := 142) X27 hx rfl (hb hby at_139) ((if0 _ _).trans (feq hc42).1) ?_
            refine o_iconst (z := (1 : Int32)) X27 hx rfl (hb hby at_142) (by decide) ?_
            refine o_istore X27 hx rfl (hb hby at_143) (L' := #[.val (.int p0), .val (.long q1), .second, .val (.long q2), .second, .val (.long q3), .second, .val (.int p4), .val (.int z2), .val (.long z5), .second, .val (.long z6), .second, .val (.long ph9), .second, .val (.long ph13), .second, .val (.ref b15), .val (.int (own_f4 b15 ph9 ph13 z2.toInt64 (z5 * (1000000000 : Int64)))), .val (.int ph32), .val (.int ph35), .val (.int (1 : Int32))]) rfl ?_
            refine o_goto (pc' := 162) X27 hx (hb hby at_145) (by decide) (by decide) ?_
            have q46 : ph39 = (1 : Int32) := by
              rw [← hph39]
              simp only [if_neg hc42]
            rw [q46] at J40
            exact J40
        by_cases hc47 : ph13 < z6
        · skip
          refine o_ifY (pc' := 134) X27 hx (hb hby at_127) (lcY_lt hc47).1 (by decide) (by decide) ?_
          refine o_iconst (z := (0 : Int32)) X27 hx rfl (hb hby at_134) (by decide) ?_
          have q48 : ph35 = (0 : Int32) := by
            rw [← hph35]
            simp only [if_pos hc47]
          rw [q48] at J36
          exact J36
        · skip
          refine o_ifN (pc' := 130) X27 hx rfl (hb hby at_127) (lcN_lt hc47).1 ?_
          refine o_iconst (z := (1 : Int32)) X27 hx rfl (hb hby at_130) (by decide) ?_
          refine o_goto (pc' := 135) X27 hx (hb hby at_131) (by decide) (by decide) ?_
          have q49 : ph35 = (1 : Int32) := by
            rw [← hph35]
            simp only [if_neg hc47]
          rw [q49] at J36
          exact J36
      by_cases hc50 : ph9 < z30
      · skip
        refine o_ifY (pc' := 119) X27 hx (hb hby at_112) (lcY_lt hc50).1 (by decide) (by decide) ?_
        refine o_iconst (z := (0 : Int32)) X27 hx rfl (hb hby at_119) (by decide) ?_
        have q51 : ph32 = (0 : Int32) := by
          rw [← hph32]
          simp only [if_pos hc50]
        rw [q51] at J33
        exact J33
      · skip
        refine o_ifN (pc' := 115) X27 hx rfl (hb hby at_112) (lcN_lt hc50).1 ?_
        refine o_iconst (z := (1 : Int32)) X27 hx rfl (hb hby at_115) (by decide) ?_
        refine o_goto (pc' := 120) X27 hx (hb hby at_116) (by decide) (by decide) ?_
        have q52 : ph32 = (1 : Int32) := by
          rw [← hph32]
          simp only [if_neg hc50]
        rw [q52] at J33
        exact J33
    by_cases hc53 : z11 = (0 : Int32)
    · skip
      refine o_ifY (pc' := 69) X0 hx (hb hby at_59) ((if0 _ _).trans (teq hc53).1) (by decide) (by decide) ?_
      refine o_lload X0 hx rfl (hb hby at_69) rfl ?_
      refine o_lload X0 hx rfl (hb hby at_71) rfl ?_
      refine o_ldc2L X0 hx rfl (hb hby at_73) hZ hown (hw _ (List.mem_of_getElem? (i := 33) rfl)) ?_
      refine o_lrem (z := (q3 % (3 : Int64))) X0 hx rfl (hb hby at_76) rfl (by decide) ?_
      refine o_ladd (z := (z6 + (q3 % (3 : Int64)))) X0 hx rfl (hb hby at_77) rfl ?_
      refine o_lconst (z := (1 : Int64)) X0 hx rfl (hb hby at_78) (by decide) ?_
      refine o_lsub (z := ((z6 + (q3 % (3 : Int64))) - (1 : Int64))) X0 hx rfl (hb hby at_79) rfl ?_
      refine o_lstore X0 hx rfl (hb hby at_80) (L' := #[.val (.int p0), .val (.long q1), .second, .val (.long q2), .second, .val (.long q3), .second, .val (.int p4), .val (.int z2), .val (.long z5), .second, .val (.long z6), .second, .val (.long ph9), .second, .val (.long ((z6 + (q3 % (3 : Int64))) - (1 : Int64))), .second, .unset, .unset, .unset, .unset, .unset]) rfl ?_
      have q54 : ph13 = ((z6 + (q3 % (3 : Int64))) - (1 : Int64)) := by
        rw [← hph13]
        simp only [if_pos hc53]
      rw [q54] at J14
      exact J14
    · skip
      refine o_ifN (pc' := 62) X0 hx rfl (hb hby at_59) ((if0 _ _).trans (feq hc53).1) ?_
      refine o_lload X0 hx rfl (hb hby at_62) rfl ?_
      refine o_lstore X0 hx rfl (hb hby at_64) (L' := #[.val (.int p0), .val (.long q1), .second, .val (.long q2), .second, .val (.long q3), .second, .val (.int p4), .val (.int z2), .val (.long z5), .second, .val (.long z6), .second, .val (.long ph9), .second, .val (.long q3), .second, .unset, .unset, .unset, .unset, .unset]) rfl ?_
      refine o_goto (pc' := 82) X0 hx (hb hby at_66) (by decide) (by decide) ?_
      have q55 : ph13 = q3 := by
        rw [← hph13]
        simp only [if_neg hc53]
      rw [q55] at J14
      exact J14
  by_cases hc56 : z7 = (0 : Int32)
  · skip
    refine o_ifY (pc' := 42) X0 hx (hb hby at_33) ((if0 _ _).trans (teq hc56).1) (by decide) (by decide) ?_
    refine o_iload X0 hx rfl (hb hby at_42) rfl ?_
    refine o_i2l (z := (z2.toInt64)) X0 hx rfl (hb hby at_44) rfl ?_
    refine o_lloadN X0 hx rfl (hb hby at_45) rfl ?_
    refine o_ldc2L X0 hx rfl (hb hby at_46) hZ hown (hw _ (List.mem_of_getElem? (i := 33) rfl)) ?_
    refine o_lrem (z := (q2 % (3 : Int64))) X0 hx rfl (hb hby at_49) rfl (by decide) ?_
    refine o_ladd (z := ((z2.toInt64) + (q2 % (3 : Int64)))) X0 hx rfl (hb hby at_50) rfl ?_
    refine o_lconst (z := (1 : Int64)) X0 hx rfl (hb hby at_51) (by decide) ?_
    refine o_lsub (z := (((z2.toInt64) + (q2 % (3 : Int64))) - (1 : Int64))) X0 hx rfl (hb hby at_52) rfl ?_
    refine o_lstore X0 hx rfl (hb hby at_53) (L' := #[.val (.int p0), .val (.long q1), .second, .val (.long q2), .second, .val (.long q3), .second, .val (.int p4), .val (.int z2), .val (.long z5), .second, .val (.long z6), .second, .val (.long (((z2.toInt64) + (q2 % (3 : Int64))) - (1 : Int64))), .second, .unset, .unset, .unset, .unset, .unset, .unset, .unset]) rfl ?_
    have q57 : ph9 = (((z2.toInt64) + (q2 % (3 : Int64))) - (1 : Int64)) := by
      rw [← hph9]
      simp only [if_pos hc56]
    rw [q57] at J10
    exact J10
  · skip
    refine o_ifN (pc' := 36) X0 hx rfl (hb hby at_33) ((if0 _ _).trans (feq hc56).1) ?_
    refine o_lloadN X0 hx rfl (hb hby at_36) rfl ?_
    refine o_lstore X0 hx rfl (hb hby at_37) (L' := #[.val (.int p0), .val (.long q1), .second, .val (.long q2), .second, .val (.long q3), .second, .val (.int p4), .val (.int z2), .val (.long z5), .second, .val (.long z6), .second, .val (.long q2), .second, .unset, .unset, .unset, .unset, .unset, .unset, .unset]) rfl ?_
    refine o_goto (pc' := 55) X0 hx (hb hby at_39) (by decide) (by decide) ?_
    have q58 : ph9 = q2 := by
      rw [← hph9]
      simp only [if_neg hc56]
    rw [q58] at J10
    exact J10
theorem own_fldL {args : Array Value} {s : State} {t : Term} {a : Addr} {C n d : String} {v : Int64} (ev : t.eval args s none [] s = some (.ref a)) (h : (Jvm.Cond.eq (Term.field t C n d) (Term.long v)).before args s = true) : Fld s s.heap a C n d (.long v) := by
  refine Fld.start ?_
  have h2 : (Jvm.Cond.eq (Term.field t C n d) (Term.long v)).value args s none s [] = some true := Cond.before_iff.mp h
  simp only [Cond.value, Term.eval, ev] at h2
  cases hq : s.fieldOf? a C n d with
  | none => simp [hq] at h2
  | some x => cases x <;> simp_all
set_option maxRecDepth 65536 in
set_option maxHeartbeats 40000000 in
theorem own_comes {Post : Tables → Env → Array Value → State → Outcome → State → Prop} (hpost : ∀ tb e args s v u, (limb_1_1.after args s (.returned v) u = true ∧ limb_1_2.after args s (.returned v) u = true ∧ True) → FrameEnd s (.returned v) u (Jvm.fieldLocs frame_1_writes args s ++ Jvm.arrayLocs frame_1_arrays args s ++ Jvm.staticLocs frame_1_statics s) 16 128 → Post tb e args s (.returned v) u) :
    ArmFor flags0 classFile x code maxLocals ret World_1 tables_1 room_1 Calls_1 rest_1 Pre_1 Post := by
  intro l hfl _ _ p e ha hc hk s m args below hf hA hF happ hP
  obtain ⟨hcalls, hrest, hpre⟩ := hP
  obtain ⟨-, -, -, hnamed, -, -, -, hat⟩ := (Spec.applies_iff hf).mp happ
  obtain ⟨hg, hn⟩ := and_e (Cond.before_iff.mp (show (Jvm.Cond.and given_1 narrow_1).before args s = true from hpre))
  obtain ⟨g0, gr0⟩ := and_e hg
  obtain ⟨gi0, gr1⟩ := and_e gr0
  obtain ⟨gi1, gr2⟩ := and_e gr1
  obtain ⟨gi2, gr3⟩ := and_e gr2
  obtain ⟨gi3, gr4⟩ := and_e gr3
  have gi4 := gr4
  obtain ⟨w0, w1, w2, w3, w4, rfl⟩ : ∃ w0 w1 w2 w3 w4 : Value, args = #[w0, w1, w2, w3, w4] := by
    have hs : args.size = 5 := by simpa [Cond.value, given_1] using g0
    obtain ⟨L⟩ := args
    match L, hs with
    | [w0, w1, w2, w3, w4], _ => exact ⟨w0, w1, w2, w3, w4, rfl⟩
  have hw := fun d (hd : d ∈ tables_1) => atoms_spec (ws := Jvm.Cond.code x code maxLocals ret :: tables_1) hat d (List.mem_cons_of_mem _ hd)
  have hfit : Fit s := fun {y c} hc i hi => by
    obtain ⟨ha, rfl⟩ := Array.getElem?_eq_some_iff.mp hc
    have q := List.all_eq_true.mp ((Array.all_eq_true_iff_forall_mem.mp hF) _ (Array.getElem_mem ha)) i (List.mem_range.mpr hi)
    simpa [Array.getElem?_eq_getElem hi] using q
  obtain ⟨hsets, hown0⟩ := atoms_of _ (rest_1_c_eq ▸ (show rest_1_c.before _ s = true from hrest))
  obtain ⟨i0, ei0⟩ := is_v gi0
  obtain rfl : w0 = (.int i0) := Option.some.inj ei0
  obtain ⟨i1, ei1⟩ := isL_v gi1
  obtain rfl : w1 = (.long i1) := Option.some.inj ei1
  obtain ⟨i2, ei2⟩ := isL_v gi2
  obtain rfl : w2 = (.long i2) := Option.some.inj ei2
  obtain ⟨i3, ei3⟩ := isL_v gi3
  obtain rfl : w3 = (.long i3) := Option.some.inj ei3
  obtain ⟨i4, ei4⟩ := is_v gi4
  obtain rfl : w4 = (.int i4) := Option.some.inj ei4
  have hE2 := hsets _ (List.mem_of_getElem? (i := 2) rfl)
  obtain ⟨u, cu, cellu, ku, eu, -⟩ := Cond.exactly_spec hE2
  have S0 := Sta.start (Z := s) eu (Or.inl (hsets _ (List.mem_of_getElem? (i := 1) rfl)))
  have S1 := Exa.start (Z := s) eu (Cond.before_iff.mp hE2)
  have S2 : Fld s s.heap u "java/util/concurrent/TimeUnit" "scale" "J" (.long (1000000000 : Int64)) := own_fldL eu (hsets _ (List.mem_of_getElem? (i := 5) rfl))
  have S3 : Fld s s.heap u "java/util/concurrent/TimeUnit" "maxNanos" "J" (.long (9223372036 : Int64)) := own_fldL eu (hsets _ (List.mem_of_getElem? (i := 6) rfl))
  obtain ⟨n, o, h1, h2, h3, _, L, rfl, ⟨rfl, N⟩, hq⟩ := own_rm0 l s _ hw tables_1 i0 i1 i2 i3 i4 u s.heap s.heap.size (Nat.le_refl _) S0 S1 S2 S3 p e ha hc hk s m _ below hf ((Spec.applies_iff_loose hf).mp happ).1 ⟨rfl, State.Warmed39.refl s, rfl⟩ trivial
  refine ⟨n, _, h1, h2, h3, hpost _ _ _ _ _ _ ⟨Cond.after_iff.mpr rfl, Cond.after_iff.mpr (eq_i res_at (Term.int_eval (1)) rfl), trivial⟩ ⟨hq.1, hq.2.1, (hq.2.2.sift fun y hy => Or.inr (N y hy)).mono (by decide) (by decide)⟩⟩
theorem main_1_1 : Claimed_1_1 := own_comes fun _ _ _ _ _ _ h hF => ⟨h.1, hF⟩
theorem main_1_2 : Claimed_1_2 := own_comes fun _ _ _ _ _ _ h hF => ⟨h.2.1, hF⟩
end Jvm.Pilot.@@N@@
namespace Jvm.Pilot.@@N@@
open Jvm Jvm.ClassFile Sem Op Lib Jvm.Free Jvm.Stand Jvm.Pilot.@@N@@.Jvm.D
/-! MADE BY PROGRAM (witnessworld.py) out of the Statement's table words and the real class files: 16 classes; the members and pool entries that the words name. The judged class is class 1, her method 1. -/
namespace start1
open Jvm.ClassFile
def u (s : String) : CpInfo := .utf8 (stringToUtf16 s)
/-- a pool by its gaps: so many unusable entries, then the entry; so many at the end -/
def gap : Nat → List CpInfo → List CpInfo
  | 0, r => r
  | n + 1, r => .unusable :: gap n r
def poolList (es : List (Nat × CpInfo)) (last : Nat) : List CpInfo := es.foldr (fun e r => gap e.1 (e.2 :: r)) (gap last [])
def pool (es : List (Nat × CpInfo)) (last : Nat) : Array CpInfo := ⟨poolList es last⟩
def fileOf (pool : Array CpInfo) (this : Nat) (attrs : Array Attribute := #[]) (ms : Array MethodInfo := #[]) (fl : Nat := 33) (sup : Nat := 0) (ifs : Array Nat := #[]) (fds : Array FieldInfo := #[]) : ClassFile where
  minorVersion := 0
  majorVersion := 65
  constantPool := pool
  accessFlags := fl
  thisClass := this
  superClass := sup
  interfaces := ifs
  fields := fds
  methods := ms
  attributes := attrs
def plain (name : String) (sup : Option ClassId) : Class where
  name := name
  kind := .ordinary
  loader := none
  accessFlags := 33
  super := sup
  interfaces := #[]
  cf := none
  fields := #[]
  methods := #[]
  instanceTypes := #[]
  staticTypes := #[]
  resolved := #[]
  callSites := []
  init := .initialized
  statics := none
  mirror := none

def pool0 : Array CpInfo := pool [(5, u "<init>"), (0, u "()V"), (1, .class_ 10), (1, u "java/lang/Object")] 113

def k0c0 : Code := { maxStack := 0, maxLocals := 1, code := object_method_1_code, exceptionTable := #[], attributes := #[] }
def k0m0 : Method := { name := "<init>", desc := "()V", sig := { parameters := [], returnType := none }, accessFlags := 1, code := some k0c0 }
/-- java/lang/Object -/
def k0 : Class := { plain "java/lang/Object" none with
  accessFlags := 33
  interfaces := #[]
  cf := some (fileOf pool0 8 #[] #[{ accessFlags := 1, nameIndex := 5, descriptorIndex := 6, attributes := #[] }] 33 0 #[] #[])
  fields := #[]
  methods := #[k0m0]
  instanceTypes := #[]
  staticTypes := #[]
  resolved := Array.replicate 124 none
  statics := none }

def pool1 : Array CpInfo := pool [(2, .class_ 4), (1, u "java/lang/Object"), (0, u "<init>"), (0, u "()V"), (0, .integer 65535), (0, .long 2147483647), (1, .long 604800), (1, .long 1000000000), (1, .long 3), (1, .class_ 17), (0, u "com/example/hermod/hermod/ts50136_9/SessionKeyLifetime"), (0, .methodref 16 19), (0, .nameAndType 5 20), (0, u "(IJ)V"), (0, .methodref 16 22), (0, .nameAndType 23 24), (0, u "isOver"), (0, u "(JJ)Z"), (0, .class_ 26), (0, u "com/example/hermod/hermod/ts50136_9/SessionKeyLifetimeIsOverPinLaw"), (2, u "law"), (0, u "(IJJJI)Z")] 3

def k1m0 : Method := { name := "<init>", desc := "()V", sig := { parameters := [], returnType := none }, accessFlags := 1, code := none }
def k1c1 : Code := { maxStack := 6, maxLocals := 22, code := code, exceptionTable := #[], attributes := #[] }
def k1m1 : Method := { name := "law", desc := "(IJJJI)Z", sig := { parameters := [.int, .long, .long, .long, .int], returnType := some .boolean }, accessFlags := 9, code := some k1c1 }
/-- com/example/hermod/hermod/ts50136_9/SessionKeyLifetimeIsOverPinLaw -/
def k1 : Class := { plain "com/example/hermod/hermod/ts50136_9/SessionKeyLifetimeIsOverPinLaw" (some 0) with
  accessFlags := 49
  interfaces := #[]
  cf := some (fileOf pool1 25 #[] #[{ accessFlags := 1, nameIndex := 5, descriptorIndex := 6, attributes := #[] }, { accessFlags := 9, nameIndex := 29, descriptorIndex := 30, attributes := #[] }] 49 2 #[] #[])
  fields := #[]
  methods := #[k1m0, k1m1]
  instanceTypes := #[]
  staticTypes := #[]
  resolved := Array.replicate 34 none
  statics := none }

def pool2 : Array CpInfo := pool [(1, .methodref 2 3), (0, .class_ 4), (0, .nameAndType 5 6), (0, u "java/lang/Object"), (0, u "<init>"), (0, u "()V"), (0, .fieldref 8 9), (0, .class_ 10), (0, .nameAndType 11 12), (0, u "com/example/hermod/hermod/ts50136_9/SessionKeyLifetime"), (0, u "m_nAnswers"), (0, u "J"), (0, .fieldref 14 15), (0, .class_ 16), (0, .nameAndType 17 18), (0, u "java/util/concurrent/TimeUnit"), (0, u "SECONDS"), (0, u "Ljava/util/concurrent/TimeUnit;"), (0, .methodref 14 20), (0, .nameAndType 21 22), (0, u "toNanos"), (0, u "(J)J"), (0, .fieldref 8 24), (0, .nameAndType 25 12), (0, u "m_nNanos"), (5, u "(IJ)V"), (2, u "DEFAULT"), (0, u "Lcom/example/hermod/hermod/ts50136_9/SessionKeyLifetime;"), (0, u "MOST_ANSWERS"), (0, u "I"), (2, u "MOST_SECONDS"), (0, u "DEFAULT_ANSWERS"), (2, u "isOver"), (0, u "(JJ)Z")] 4

def k2c0 : Code := { maxStack := 4, maxLocals := 4, code := prog_36_method_1_code, exceptionTable := #[], attributes := #[] }
def k2m0 : Method := { name := "<init>", desc := "(IJ)V", sig := { parameters := [.int, .long], returnType := none }, accessFlags := 0, code := some k2c0 }
def k2c1 : Code := { maxStack := 4, maxLocals := 5, code := prog_36_method_2_code, exceptionTable := #[], attributes := #[] }
def k2m1 : Method := { name := "isOver", desc := "(JJ)Z", sig := { parameters := [.long, .long], returnType := some .boolean }, accessFlags := 0, code := some k2c1 }
/-- com/example/hermod/hermod/ts50136_9/SessionKeyLifetime -/
def k2 : Class := { plain "com/example/hermod/hermod/ts50136_9/SessionKeyLifetime" (some 0) with
  accessFlags := 32
  interfaces := #[]
  cf := some (fileOf pool2 8 #[] #[{ accessFlags := 0, nameIndex := 5, descriptorIndex := 31, attributes := #[] }, { accessFlags := 0, nameIndex := 44, descriptorIndex := 45, attributes := #[] }] 32 2 #[] #[{ accessFlags := 24, nameIndex := 36, descriptorIndex := 37, attributes := #[] }, { accessFlags := 24, nameIndex := 40, descriptorIndex := 12, attributes := #[] }, { accessFlags := 24, nameIndex := 41, descriptorIndex := 37, attributes := #[] }, { accessFlags := 24, nameIndex := 34, descriptorIndex := 35, attributes := #[] }, { accessFlags := 18, nameIndex := 11, descriptorIndex := 12, attributes := #[] }, { accessFlags := 18, nameIndex := 25, descriptorIndex := 12, attributes := #[] }])
  fields := #[{ name := "MOST_ANSWERS", type := .int, accessFlags := 24, slot := 0, constantValue := 0 }, { name := "MOST_SECONDS", type := .long, accessFlags := 24, slot := 1, constantValue := 0 }, { name := "DEFAULT_ANSWERS", type := .int, accessFlags := 24, slot := 2, constantValue := 0 }, { name := "DEFAULT", type := (.object "com/example/hermod/hermod/ts50136_9/SessionKeyLifetime"), accessFlags := 24, slot := 3, constantValue := 0 }, { name := "m_nAnswers", type := .long, accessFlags := 18, slot := 0, constantValue := 0 }, { name := "m_nNanos", type := .long, accessFlags := 18, slot := 1, constantValue := 0 }]
  methods := #[k2m0, k2m1]
  instanceTypes := #[.long, .long]
  staticTypes := #[.int, .long, .int, (.object "com/example/hermod/hermod/ts50136_9/SessionKeyLifetime")]
  resolved := Array.replicate 50 none
  statics := none }

def pool3 : Array CpInfo := pool [(1, .class_ 2), (0, u "java/lang/constant/Constable"), (0, .class_ 4), (0, u "java/lang/Object")] 6

/-- java/lang/constant/Constable -/
def k3 : Class := { plain "java/lang/constant/Constable" (some 0) with
  accessFlags := 1537
  interfaces := #[]
  cf := some (fileOf pool3 1 #[] #[] 1537 3 #[] #[])
  fields := #[]
  methods := #[]
  instanceTypes := #[]
  staticTypes := #[]
  resolved := Array.replicate 11 none
  statics := none }

def pool4 : Array CpInfo := pool [(1, .class_ 2), (0, u "java/lang/Comparable"), (0, .class_ 4), (0, u "java/lang/Object")] 7

/-- java/lang/Comparable -/
def k4 : Class := { plain "java/lang/Comparable" (some 0) with
  accessFlags := 1537
  interfaces := #[]
  cf := some (fileOf pool4 1 #[] #[] 1537 3 #[] #[])
  fields := #[]
  methods := #[]
  instanceTypes := #[]
  staticTypes := #[]
  resolved := Array.replicate 12 none
  statics := none }

def pool5 : Array CpInfo := pool [(1, .class_ 2), (0, u "java/io/Serializable"), (0, .class_ 4), (0, u "java/lang/Object")] 2

/-- java/io/Serializable -/
def k5 : Class := { plain "java/io/Serializable" (some 0) with
  accessFlags := 1537
  interfaces := #[]
  cf := some (fileOf pool5 1 #[] #[] 1537 3 #[] #[])
  fields := #[]
  methods := #[]
  instanceTypes := #[]
  staticTypes := #[]
  resolved := Array.replicate 7 none
  statics := none }

def pool6 : Array CpInfo := pool [(2, .class_ 4), (1, u "java/lang/Enum"), (0, u "name"), (0, u "Ljava/lang/String;"), (2, u "ordinal"), (0, u "I"), (1, .class_ 14), (1, u "java/lang/Object"), (4, u "hash"), (86, .class_ 108), (1, u "java/lang/Enum$EnumDesc"), (2, .class_ 112), (0, u "java/lang/constant/Constable"), (0, .class_ 114), (0, u "java/lang/Comparable"), (0, .class_ 116), (0, u "java/io/Serializable")] 87

/-- java/lang/Enum -/
def k6 : Class := { plain "java/lang/Enum" (some 0) with
  accessFlags := 1057
  interfaces := #[3, 4, 5]
  cf := some (fileOf pool6 2 #[.nestMembers #[106]] #[] 1057 12 #[111, 113, 115] #[{ accessFlags := 18, nameIndex := 5, descriptorIndex := 6, attributes := #[] }, { accessFlags := 18, nameIndex := 9, descriptorIndex := 10, attributes := #[] }, { accessFlags := 2, nameIndex := 19, descriptorIndex := 10, attributes := #[] }])
  fields := #[{ name := "name", type := (.object "java/lang/String"), accessFlags := 18, slot := 0, constantValue := 0 }, { name := "ordinal", type := .int, accessFlags := 18, slot := 1, constantValue := 0 }, { name := "hash", type := .int, accessFlags := 2, slot := 2, constantValue := 0 }]
  methods := #[]
  instanceTypes := #[(.object "java/lang/String"), .int, .int]
  staticTypes := #[]
  resolved := Array.replicate 204 none
  statics := none }

def pool7 : Array CpInfo := pool [(1, .class_ 2), (0, u "java/util/concurrent/TimeUnit"), (2, u "NANOSECONDS"), (0, u "Ljava/util/concurrent/TimeUnit;"), (2, u "MICROSECONDS"), (2, u "MILLISECONDS"), (2, u "SECONDS"), (2, u "MINUTES"), (2, u "HOURS"), (2, u "DAYS"), (2, u "$VALUES"), (0, u "[Ljava/util/concurrent/TimeUnit;"), (6, .class_ 37), (1, u "java/lang/Enum"), (6, .fieldref 1 45), (0, .nameAndType 46 47), (0, u "scale"), (0, u "J"), (4, .fieldref 1 53), (0, .nameAndType 54 47), (0, u "maxNanos"), (4, u "microRatio"), (2, u "maxMicros"), (4, u "milliRatio"), (0, u "I"), (2, u "maxMillis"), (4, u "secRatio"), (2, u "maxSecs"), (8, u "toNanos"), (0, u "(J)J"), (73, .class_ 165), (1, u "java/util/concurrent/TimeUnit$1"), (46, u "NANO_SCALE"), (3, u "MICRO_SCALE"), (0, u "MILLI_SCALE"), (0, u "SECOND_SCALE"), (0, u "MINUTE_SCALE"), (0, u "HOUR_SCALE"), (0, u "DAY_SCALE")] 61

def k7c0 : Code := { maxStack := 6, maxLocals := 7, code := jdk_2799_method_7_code, exceptionTable := #[], attributes := #[] }
def k7m0 : Method := { name := "toNanos", desc := "(J)J", sig := { parameters := [.long], returnType := some .long }, accessFlags := 1, code := some k7c0 }
/-- java/util/concurrent/TimeUnit -/
def k7 : Class := { plain "java/util/concurrent/TimeUnit" (some 6) with
  accessFlags := 16433
  interfaces := #[]
  cf := some (fileOf pool7 1 #[.nestMembers #[163]] #[{ accessFlags := 1, nameIndex := 88, descriptorIndex := 89, attributes := #[] }] 16433 35 #[] #[{ accessFlags := 16409, nameIndex := 5, descriptorIndex := 6, attributes := #[] }, { accessFlags := 16409, nameIndex := 9, descriptorIndex := 6, attributes := #[] }, { accessFlags := 16409, nameIndex := 12, descriptorIndex := 6, attributes := #[] }, { accessFlags := 16409, nameIndex := 15, descriptorIndex := 6, attributes := #[] }, { accessFlags := 16409, nameIndex := 18, descriptorIndex := 6, attributes := #[] }, { accessFlags := 16409, nameIndex := 21, descriptorIndex := 6, attributes := #[] }, { accessFlags := 16409, nameIndex := 24, descriptorIndex := 6, attributes := #[] }, { accessFlags := 26, nameIndex := 212, descriptorIndex := 47, attributes := #[] }, { accessFlags := 26, nameIndex := 216, descriptorIndex := 47, attributes := #[] }, { accessFlags := 26, nameIndex := 217, descriptorIndex := 47, attributes := #[] }, { accessFlags := 26, nameIndex := 218, descriptorIndex := 47, attributes := #[] }, { accessFlags := 26, nameIndex := 219, descriptorIndex := 47, attributes := #[] }, { accessFlags := 26, nameIndex := 220, descriptorIndex := 47, attributes := #[] }, { accessFlags := 26, nameIndex := 221, descriptorIndex := 47, attributes := #[] }, { accessFlags := 18, nameIndex := 46, descriptorIndex := 47, attributes := #[] }, { accessFlags := 18, nameIndex := 54, descriptorIndex := 47, attributes := #[] }, { accessFlags := 18, nameIndex := 62, descriptorIndex := 47, attributes := #[] }, { accessFlags := 18, nameIndex := 71, descriptorIndex := 47, attributes := #[] }, { accessFlags := 18, nameIndex := 79, descriptorIndex := 47, attributes := #[] }, { accessFlags := 18, nameIndex := 59, descriptorIndex := 47, attributes := #[] }, { accessFlags := 18, nameIndex := 67, descriptorIndex := 68, attributes := #[] }, { accessFlags := 18, nameIndex := 76, descriptorIndex := 68, attributes := #[] }, { accessFlags := 4122, nameIndex := 27, descriptorIndex := 28, attributes := #[] }])
  fields := #[{ name := "NANOSECONDS", type := (.object "java/util/concurrent/TimeUnit"), accessFlags := 16409, slot := 0, constantValue := 0 }, { name := "MICROSECONDS", type := (.object "java/util/concurrent/TimeUnit"), accessFlags := 16409, slot := 1, constantValue := 0 }, { name := "MILLISECONDS", type := (.object "java/util/concurrent/TimeUnit"), accessFlags := 16409, slot := 2, constantValue := 0 }, { name := "SECONDS", type := (.object "java/util/concurrent/TimeUnit"), accessFlags := 16409, slot := 3, constantValue := 0 }, { name := "MINUTES", type := (.object "java/util/concurrent/TimeUnit"), accessFlags := 16409, slot := 4, constantValue := 0 }, { name := "HOURS", type := (.object "java/util/concurrent/TimeUnit"), accessFlags := 16409, slot := 5, constantValue := 0 }, { name := "DAYS", type := (.object "java/util/concurrent/TimeUnit"), accessFlags := 16409, slot := 6, constantValue := 0 }, { name := "NANO_SCALE", type := .long, accessFlags := 26, slot := 7, constantValue := 0 }, { name := "MICRO_SCALE", type := .long, accessFlags := 26, slot := 8, constantValue := 0 }, { name := "MILLI_SCALE", type := .long, accessFlags := 26, slot := 9, constantValue := 0 }, { name := "SECOND_SCALE", type := .long, accessFlags := 26, slot := 10, constantValue := 0 }, { name := "MINUTE_SCALE", type := .long, accessFlags := 26, slot := 11, constantValue := 0 }, { name := "HOUR_SCALE", type := .long, accessFlags := 26, slot := 12, constantValue := 0 }, { name := "DAY_SCALE", type := .long, accessFlags := 26, slot := 13, constantValue := 0 }, { name := "scale", type := .long, accessFlags := 18, slot := 3, constantValue := 0 }, { name := "maxNanos", type := .long, accessFlags := 18, slot := 4, constantValue := 0 }, { name := "maxMicros", type := .long, accessFlags := 18, slot := 5, constantValue := 0 }, { name := "maxMillis", type := .long, accessFlags := 18, slot := 6, constantValue := 0 }, { name := "maxSecs", type := .long, accessFlags := 18, slot := 7, constantValue := 0 }, { name := "microRatio", type := .long, accessFlags := 18, slot := 8, constantValue := 0 }, { name := "milliRatio", type := .int, accessFlags := 18, slot := 9, constantValue := 0 }, { name := "secRatio", type := .int, accessFlags := 18, slot := 10, constantValue := 0 }, { name := "$VALUES", type := (.array (.object "java/util/concurrent/TimeUnit")), accessFlags := 4122, slot := 14, constantValue := 0 }]
  methods := #[k7m0]
  instanceTypes := #[(.object "java/lang/String"), .int, .int, .long, .long, .long, .long, .long, .long, .int, .int]
  staticTypes := #[(.object "java/util/concurrent/TimeUnit"), (.object "java/util/concurrent/TimeUnit"), (.object "java/util/concurrent/TimeUnit"), (.object "java/util/concurrent/TimeUnit"), (.object "java/util/concurrent/TimeUnit"), (.object "java/util/concurrent/TimeUnit"), (.object "java/util/concurrent/TimeUnit"), .long, .long, .long, .long, .long, .long, .long, (.array (.object "java/util/concurrent/TimeUnit"))]
  resolved := Array.replicate 283 none
  statics := some 0 }

def pool8 : Array CpInfo := pool [(2, .class_ 4), (1, u "java/lang/CharSequence"), (42, .class_ 48), (0, u "java/lang/CharSequence$1CodePointIterator"), (10, .class_ 60), (0, u "java/lang/CharSequence$1CharIterator"), (5, .class_ 67), (0, u "java/lang/Object")] 63

/-- java/lang/CharSequence -/
def k8 : Class := { plain "java/lang/CharSequence" (some 0) with
  accessFlags := 1537
  interfaces := #[]
  cf := some (fileOf pool8 2 #[.nestMembers #[47, 59]] #[] 1537 66 #[] #[])
  fields := #[]
  methods := #[]
  instanceTypes := #[]
  staticTypes := #[]
  resolved := Array.replicate 131 none
  statics := none }

def pool9 : Array CpInfo := pool [(1, .class_ 2), (0, u "java/lang/constant/ConstantDesc"), (0, .class_ 4), (0, u "java/lang/Object")] 32

/-- java/lang/constant/ConstantDesc -/
def k9 : Class := { plain "java/lang/constant/ConstantDesc" (some 0) with
  accessFlags := 1537
  interfaces := #[]
  cf := some (fileOf pool9 1 #[] #[] 1537 3 #[] #[])
  fields := #[]
  methods := #[]
  instanceTypes := #[]
  staticTypes := #[]
  resolved := Array.replicate 37 none
  statics := none }

def pool10 : Array CpInfo := pool [(2, .class_ 4), (1, u "java/lang/Object"), (0, u "<init>"), (0, u "()V"), (3, .class_ 12), (1, u "java/lang/String"), (0, u "value"), (0, u "[B"), (2, u "coder"), (0, u "B"), (2, u "hash"), (0, u "I"), (2, u "hashIsZero"), (0, u "Z"), (13, u "COMPACT_STRINGS"), (534, .class_ 576), (0, u "java/lang/CharSequence"), (22, u "CASE_INSENSITIVE_ORDER"), (0, u "Ljava/util/Comparator;"), (500, u "serialPersistentFields"), (0, u "[Ljava/io/ObjectStreamField;"), (0, .class_ 1104), (0, u "java/lang/String$CaseInsensitiveComparator"), (1, .class_ 1107), (0, u "java/io/Serializable"), (0, .class_ 1109), (0, u "java/lang/Comparable"), (0, .class_ 1111), (0, u "java/lang/constant/Constable"), (0, .class_ 1113), (0, u "java/lang/constant/ConstantDesc"), (2, u "serialVersionUID"), (0, u "J"), (3, u "REPL"), (0, u "C"), (2, u "LATIN1"), (1, u "UTF16")] 323

def k10m0 : Method := { name := "<init>", desc := "()V", sig := { parameters := [], returnType := none }, accessFlags := 1, code := none }
/-- java/lang/String -/
def k10 : Class := { plain "java/lang/String" (some 0) with
  accessFlags := 49
  interfaces := #[5, 4, 8, 3, 9]
  cf := some (fileOf pool10 10 #[.nestMembers #[1103]] #[{ accessFlags := 1, nameIndex := 5, descriptorIndex := 6, attributes := #[] }] 49 2 #[1106, 1108, 575, 1110, 1112] #[{ accessFlags := 18, nameIndex := 13, descriptorIndex := 14, attributes := #[] }, { accessFlags := 18, nameIndex := 17, descriptorIndex := 18, attributes := #[] }, { accessFlags := 2, nameIndex := 21, descriptorIndex := 22, attributes := #[] }, { accessFlags := 2, nameIndex := 25, descriptorIndex := 26, attributes := #[] }, { accessFlags := 26, nameIndex := 1116, descriptorIndex := 1117, attributes := #[] }, { accessFlags := 24, nameIndex := 40, descriptorIndex := 26, attributes := #[] }, { accessFlags := 26, nameIndex := 1101, descriptorIndex := 1102, attributes := #[] }, { accessFlags := 26, nameIndex := 1121, descriptorIndex := 1122, attributes := #[] }, { accessFlags := 25, nameIndex := 599, descriptorIndex := 600, attributes := #[] }, { accessFlags := 24, nameIndex := 1125, descriptorIndex := 18, attributes := #[] }, { accessFlags := 24, nameIndex := 1127, descriptorIndex := 18, attributes := #[] }])
  fields := #[{ name := "value", type := (.array .byte), accessFlags := 18, slot := 0, constantValue := 0 }, { name := "coder", type := .byte, accessFlags := 18, slot := 1, constantValue := 0 }, { name := "hash", type := .int, accessFlags := 2, slot := 2, constantValue := 0 }, { name := "hashIsZero", type := .boolean, accessFlags := 2, slot := 3, constantValue := 0 }, { name := "serialVersionUID", type := .long, accessFlags := 26, slot := 0, constantValue := 0 }, { name := "COMPACT_STRINGS", type := .boolean, accessFlags := 24, slot := 1, constantValue := 0 }, { name := "serialPersistentFields", type := (.array (.object "java/io/ObjectStreamField")), accessFlags := 26, slot := 2, constantValue := 0 }, { name := "REPL", type := .char, accessFlags := 26, slot := 3, constantValue := 0 }, { name := "CASE_INSENSITIVE_ORDER", type := (.object "java/util/Comparator"), accessFlags := 25, slot := 4, constantValue := 0 }, { name := "LATIN1", type := .byte, accessFlags := 24, slot := 5, constantValue := 0 }, { name := "UTF16", type := .byte, accessFlags := 24, slot := 6, constantValue := 0 }]
  methods := #[k10m0]
  instanceTypes := #[(.array .byte), .byte, .int, .boolean]
  staticTypes := #[.long, .boolean, (.array (.object "java/io/ObjectStreamField")), .char, (.object "java/util/Comparator"), .byte, .byte]
  resolved := Array.replicate 1451 none
  statics := none }

def pool11 : Array CpInfo := pool [(1, u "java/lang/Cloneable"), (0, .class_ 1), (0, u "java/lang/Object"), (0, .class_ 3)] 3

/-- java/lang/Cloneable -/
def k11 : Class := { plain "java/lang/Cloneable" (some 0) with
  accessFlags := 1537
  interfaces := #[]
  cf := some (fileOf pool11 2 #[] #[] 1537 4 #[] #[])
  fields := #[]
  methods := #[]
  instanceTypes := #[]
  staticTypes := #[]
  resolved := Array.replicate 8 none
  statics := none }

/-- the primitive byte -/
def k12 : Class := { plain "byte" none with kind := .primitive 'B', accessFlags := 0x411 }
/-- [B -/
def k13 : Class := { plain "[B" (some 0) with kind := .array 12 .byte, interfaces := #[11, 5], accessFlags := 1041 }

/-- the primitive int -/
def k14 : Class := { plain "int" none with kind := .primitive 'I', accessFlags := 0x411 }
/-- [I -/
def k15 : Class := { plain "[I" (some 0) with kind := .array 14 .int, interfaces := #[11, 5], accessFlags := 1041 }

def heap : Heap := #[{ cls := 7, slots := #[.null, .null, .null, .ref 1, .null, .null, .null, .long 0, .long 0, .long 0, .long 0, .long 0, .long 0, .long 0, .null], vm := .statics 7 },
  { cls := 7, slots := #[.ref 2, .int 3, .int 0, .long 1000000000, .long 9223372036, .long 9223372036854, .long 9223372036854775, .long 9223372036854775807, .long 1000000, .int 1000, .int 1], vm := .none },
  { cls := 10, slots := #[.null, .int 0, .int 0, .int 0], vm := .none }]
def classes : Array Class := #[k0, k1, k2, k3, k4, k5, k6, k7, k8, k9, k10, k11, k12, k13, k14, k15]
def interned : List (Array UInt16 × Addr) := []
def slotsUsed : Nat := 30
def theMethod : MethodId := ⟨1, 1⟩
def args0 : Array Value := #[.int 5, .long 7, .long 4, .long 3, .int 9]
def aboutOver (below : List Frame) : State where
  vm := { classes := classes, interned := interned.toArray }
  heap := heap
  slotsUsed := slotsUsed
  threads := #[{ frames := .invoking theMethod args0 :: below }]
def below0 : List Frame := [.native { method := ⟨0, 0⟩, args := #[] }]
def about1 : State := aboutOver below0
def p0 : Program := .bare "" "" ""
def e0 : Env := launch0.env 0 0 0
theorem w_frames : about1.frames = Frame.invoking theMethod args0 :: below0 := rfl
set_option maxRecDepth 65536 in
theorem w_args : argsFit about1.vm theMethod args0 = true := by decide +kernel
set_option maxRecDepth 65536 in
theorem w_heap : heapFits about1 = true := by decide +kernel
set_option maxRecDepth 65536 in
theorem w_runnable : about1.curStatus? = some .runnable := by decide +kernel
set_option maxRecDepth 65536 in
theorem w_alone : about1.alone = true := by decide +kernel
set_option maxRecDepth 65536 in
theorem w_named : about1.methodNamed? x = some theMethod := by decide +kernel
set_option maxRecDepth 65536 in
theorem w_hears : about1.hears theMethod below0 = true := by decide +kernel
set_option maxRecDepth 65536 in
theorem w_ripe : about1.ripe theMethod args0 below0 = true := by decide +kernel
theorem w_running : about1.status = .running := rfl
set_option maxRecDepth 65536 in
theorem w_room : about1.hasRoom e0.platform room_1 = true :=
  launch0.hasRoom_least _ room_1 (by decide +kernel) (by decide +kernel) (by decide +kernel) (by decide +kernel) (by decide +kernel) (by decide +kernel)
theorem allAtoms_all (ts : List Jvm.Cond) (a : Array Jvm.Value) (st : Jvm.State) : (allAtoms ts).before a st = ts.all (fun c => c.before a st) := by
  induction ts with
  | nil => rfl
  | cons c t ih =>
    show (Jvm.Cond.and c (allAtoms t)).before a st = _
    rw [Jvm.Cond.before_and, ih, List.all_cons]
def words1 : List Jvm.Cond := Jvm.Cond.code x code maxLocals ret :: tables_1
/-- a 'code' word, met by the world's own term for the bytes: nothing is compared byte by byte -/
theorem code_word {y : MethodName} {bytes : ByteArray} {mx : Nat} {rt : Option FieldType} {a : Array Value} {s : State} {m : MethodId} {meth : Method} {c : Code} (h1 : s.methodNamed? y = some m) (h2 : s.vm.method? m = some meth) (h3 : meth.code = some c) (h4 : c.code = bytes)
    (h5 : (c.maxLocals == mx && c.exceptionTable.isEmpty && decide (c.maxStack ≤ mostOperands) && decide (meth.sig.returnType = rt) && !meth.locks && decide (parseMethodDescriptor y.desc = some meth.sig)) = true) : (Jvm.Cond.code y bytes mx rt).before a s = true := by
  simp only [Bool.and_eq_true, beq_iff_eq, Bool.not_eq_true', decide_eq_true_eq] at h5
  obtain ⟨⟨⟨⟨⟨g1, g2⟩, g3⟩, g4⟩, g5⟩, g6⟩ := h5
  simp [Cond.before, Cond.holds, Cond.value, h1, h2, h3, h4, g1, g2, g3, g4, g5, g6]
def isCode : Jvm.Cond → Bool
  | .code _ _ _ _ => true
  | _ => false
theorem all_split {L : List Jvm.Cond} {P : Jvm.Cond → Bool} (h1 : L.all (fun c => isCode c || P c) = true) (h2 : ∀ c ∈ L.filter isCode, P c = true) : L.all P = true := by
  refine List.all_eq_true.mpr fun c hc => ?_
  have h := List.all_eq_true.mp h1 c hc
  rcases Bool.eq_false_or_eq_true (isCode c) with hi | hi
  · exact h2 c (List.mem_filter.mpr ⟨hc, hi⟩)
  · simpa [hi] using h
set_option maxRecDepth 65536 in
theorem w_c0 : (Jvm.Cond.code x code maxLocals ret).before args0 about1 = true := code_word (m := ⟨1, 1⟩) (meth := k1m1) (c := k1c1) (by decide +kernel) rfl rfl rfl (by decide +kernel)
set_option maxRecDepth 65536 in
theorem w_c1 : (Jvm.Cond.code ({ cls := "com/example/hermod/hermod/ts50136_9/SessionKeyLifetime", name := "<init>", desc := "(IJ)V" } : Jvm.MethodName) prog_36_method_1_code (4 : Nat) (Option.none : Option Jvm.ClassFile.FieldType)).before args0 about1 = true := code_word (m := ⟨2, 0⟩) (meth := k2m0) (c := k2c0) (by decide +kernel) rfl rfl rfl (by decide +kernel)
set_option maxRecDepth 65536 in
theorem w_c2 : (Jvm.Cond.code ({ cls := "java/lang/Object", name := "<init>", desc := "()V" } : Jvm.MethodName) object_method_1_code (1 : Nat) (Option.none : Option Jvm.ClassFile.FieldType)).before args0 about1 = true := code_word (m := ⟨0, 0⟩) (meth := k0m0) (c := k0c0) (by decide +kernel) rfl rfl rfl (by decide +kernel)
set_option maxRecDepth 65536 in
theorem w_c3 : (Jvm.Cond.code ({ cls := "java/util/concurrent/TimeUnit", name := "toNanos", desc := "(J)J" } : Jvm.MethodName) jdk_2799_method_7_code (7 : Nat) (Option.some Jvm.ClassFile.FieldType.long)).before args0 about1 = true := code_word (m := ⟨7, 0⟩) (meth := k7m0) (c := k7c0) (by decide +kernel) rfl rfl rfl (by decide +kernel)
set_option maxRecDepth 65536 in
theorem w_c4 : (Jvm.Cond.code ({ cls := "com/example/hermod/hermod/ts50136_9/SessionKeyLifetime", name := "isOver", desc := "(JJ)Z" } : Jvm.MethodName) prog_36_method_2_code (5 : Nat) (Option.some Jvm.ClassFile.FieldType.boolean)).before args0 about1 = true := code_word (m := ⟨2, 1⟩) (meth := k2m1) (c := k2c1) (by decide +kernel) rfl rfl rfl (by decide +kernel)
def codes1 : List Jvm.Cond := [Jvm.Cond.code x code maxLocals ret, Jvm.Cond.code ({ cls := "com/example/hermod/hermod/ts50136_9/SessionKeyLifetime", name := "<init>", desc := "(IJ)V" } : Jvm.MethodName) prog_36_method_1_code (4 : Nat) (Option.none : Option Jvm.ClassFile.FieldType), Jvm.Cond.code ({ cls := "java/lang/Object", name := "<init>", desc := "()V" } : Jvm.MethodName) object_method_1_code (1 : Nat) (Option.none : Option Jvm.ClassFile.FieldType), Jvm.Cond.code ({ cls := "java/util/concurrent/TimeUnit", name := "toNanos", desc := "(J)J" } : Jvm.MethodName) jdk_2799_method_7_code (7 : Nat) (Option.some Jvm.ClassFile.FieldType.long), Jvm.Cond.code ({ cls := "com/example/hermod/hermod/ts50136_9/SessionKeyLifetime", name := "isOver", desc := "(JJ)Z" } : Jvm.MethodName) prog_36_method_2_code (5 : Nat) (Option.some Jvm.ClassFile.FieldType.boolean)]
set_option maxRecDepth 65536 in
theorem codes_eq : words1.filter isCode = codes1 := rfl
theorem w_codes : ∀ c ∈ words1.filter isCode, c.before args0 about1 = true := by
  rw [codes_eq]
  intro c hc
  simp only [codes1, List.mem_cons, List.not_mem_nil, or_false] at hc
  rcases hc with rfl | rfl | rfl | rfl | rfl
  · exact w_c0
  · exact w_c1
  · exact w_c2
  · exact w_c3
  · exact w_c4
set_option maxRecDepth 65536 in
theorem w_t1 : (words1.take 24).all (fun c => isCode c || c.before args0 about1) = true := by decide +kernel
set_option maxRecDepth 65536 in
theorem w_t2 : (words1.drop 24).all (fun c => isCode c || c.before args0 about1) = true := by decide +kernel
theorem w_tables : (allAtoms (Jvm.Cond.code x code maxLocals ret :: tables_1)).before args0 about1 = true := by
  rw [allAtoms_all]
  show words1.all (fun c => c.before args0 about1) = true
  refine all_split ?_ w_codes
  rw [← List.take_append_drop 24 words1, List.all_append, w_t1, w_t2]
  rfl
set_option maxRecDepth 65536 in
theorem w_rest : rest_1_c.before args0 about1 = true := by decide +kernel
set_option maxRecDepth 65536 in
theorem w_case : (Jvm.Cond.and given_1 narrow_1).before args0 about1 = true := by decide +kernel
theorem w_applies : (headSpec (Jvm.Cond.code x code maxLocals ret :: tables_1) room_1).applies x e0.platform about1 = true :=
  (Spec.applies_iff w_frames).mpr ⟨w_running, w_runnable, w_alone, w_named, w_hears, w_ripe, w_room, w_tables⟩
theorem atStart : AtStart classFile x code maxLocals ret World_1 tables_1 room_1 Calls_1 rest_1 Pre_1 launch0 p0 e0 about1 theMethod args0 below0 :=
  ⟨lists_1, trivial, launch0.admits_env _ _ _, launch0.least_env, fairChoices_fair.cas, fairChoices_fair.clock, w_frames, w_args, w_heap, w_applies, trivial, w_rest, w_case⟩
end start1
theorem witness_1 : WitnessClaimed_1 := ⟨start1.p0, start1.e0, start1.about1, start1.theMethod, start1.args0, start1.below0, start1.atStart⟩
end Jvm.Pilot.@@N@@

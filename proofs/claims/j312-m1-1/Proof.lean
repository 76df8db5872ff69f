import JvmDerived
import JvmDerived.Pilot.@@N@@Statement
import JvmDerived.Pilot.@@N@@Code
set_option linter.unusedVariables false
set_option linter.unusedSimpArgs false
namespace Jvm.RoadKit
open Sem ClassFile Op Lib Jvm.Stand Jvm.Free Jvm.LawKit
section Own
variable {p : Program} {l : Launch} {e : Env} {R : Room} {s : State} {m : MethodId} {args : Array Value} {below : List Frame} {meth : Method} {c : Code} {T : State} {locs : List Loc} {cells slots : Nat} {Q : Option Value → Heap → List Loc → Prop} {Φ : Outcome → State → List Loc → Prop} {k n : Nat} {pc pc' : Nat} {L L' : Array Slot} {S : List Value}
def OG (p : Program) (e : Env) (below : List Frame) (Φ : Outcome → State → List Loc → Prop) (Q : Option Value → Heap → List Loc → Prop) (t : State) : Prop :=
  ∃ s₂ o, Steps p.tables e below t s₂ ∧ s₂.status = .running ∧ Ended s₂ below o ∧ ∃ v L, o = .returned v ∧ Q v s₂.heap L ∧ Φ o s₂ L
abbrev FE (s : State) (k n : Nat) : Outcome → State → List Loc → Prop := fun o t L => FrameEnd s o t L k n
abbrev FEW (s : State) (k n : Nat) : Outcome → State → List Loc → Prop := fun o t L => ReturnedEndW s o t L k n
theorem og_of {t t' : State} (st : ∀ g, Steps p.tables e below t' g → Steps p.tables e below t g) (G : OG p e below Φ Q t') : OG p e below Φ Q t := by
  obtain ⟨s₂, o, h, r⟩ := G; exact ⟨s₂, o, st _ h, r⟩
theorem og_tr {t t' : State} (st : Steps p.tables e below t t') (G : OG p e below Φ Q t') : OG p e below Φ Q t := og_of (fun _ k => st.trans k) G
def Lv (e : Env) (below : List Frame) (Φ : Outcome → State → List Loc → Prop) (m : MethodId) (meth : Method) (T : State) (locs : List Loc) : Prop :=
  ∀ v : Option Value, (meth.sig.returnType = none → v = none) → ∃ fs, (∀ (f : JFrame) (acts : List Action), f.method = m → f.locked = none → f.entered = [] → (doReturn e (T.setTop f) acts v).1 = T.setFrames fs) ∧ (T.setFrames fs).status = .running ∧ Ended (T.setFrames fs) below (.returned v) ∧ Φ (.returned v) (T.setFrames fs) locs
theorem own_lv (X : Stand p l e R s m args below meth c T locs cells slots) (hlk : meth.locks = false) (hk : cells ≤ k) (hn : slots ≤ n) : Lv e below (FE s k n) m meth T locs := fun v hv => by
  obtain ⟨fs, hr, hrun, hended, hW, hsame⟩ := X.leave (v := v) hv hlk
  exact ⟨fs, hr, hrun, hended, ⟨_, rfl⟩, hW, hsame.mono hk hn⟩
theorem own_lvW {vm₁ : Vm} {q : Nat} (X : Stand p l e R (s.setVm vm₁) m args below meth c T locs cells slots) (hlk : meth.locks = false) (hS : s.Since vm₁ q) (hq : q ≤ T.heap.size) (hk : cells ≤ k) (hn : slots ≤ n) : Lv e below (FEW s k n) m meth T locs := fun v hv => by
  obtain ⟨fs, hr, hrun, hended, h1, h2, h3, h4⟩ := X.leaveW hS hq (v := v) hv hlk
  exact ⟨fs, hr, hrun, hended, h1, h2, h3, h4.mono hk hn⟩
theorem og_end (hE : Lv e below Φ m meth T locs) {v : Option Value} (hv : meth.sig.returnType = none → v = none) {g : JFrame}
    (st : ∀ fs, (∀ (f : JFrame) (acts : List Action), f.method = m → f.locked = none → f.entered = [] → (doReturn e (T.setTop f) acts v).1 = T.setFrames fs) → Steps p.tables e below (T.setTop g) (T.setFrames fs))
    (hQ : Q v T.heap locs) : OG p e below Φ Q (T.setTop g) := by
  obtain ⟨fs, hr, hrun, hended, hF⟩ := hE v hv
  exact ⟨_, _, st fs hr, hrun, hended, _, _, rfl, hQ, hF⟩
theorem own_mono (X : Stand p l e R s m args below meth c T locs cells slots) {cells' slots' : Nat} (hc : cells ≤ cells') (hs : slots ≤ slots') : Stand p l e R s m args below meth c T locs cells' slots' :=
  ⟨X.admits, X.cas, X.clock, X.frames, X.room, X.hears, X.method, X.code, X.here, X.tail, X.warmed, X.limits, X.bytes, X.same.mono hc hs⟩
theorem retI (X : Stand p l e R s m args below meth c T locs cells slots) (hx : p.tables.exec = Jvm.exec) {pc : Nat} {Ls : Array Slot} {z : Int32} {rest : List Value} (hret : meth.sig.returnType = some .int) (hd : decode c.code pc = .ok (.ireturn, 1)) {fs : List Frame}
    (hl : ∀ (f : JFrame) (acts : List Action), f.method = m → f.locked = none → f.entered = [] → (doReturn e (T.setTop f) acts (some (.int z))).1 = T.setFrames fs) : Steps p.tables e below (T.setTop (mkF m pc Ls (.int z :: rest))) (T.setFrames fs) := by
  have hm' : T.vm.method? m = some meth := X.method'
  have hn : narrow .int (.int z) = .int z := rfl
  show Steps p.tables e below (T.setTop { method := m, pc := pc, locals := Ls, stack := _ :: rest, locked := none }) _
  jvm_step X.here [X.here.top, hx, hd, hm', hret, hn]
  first | (intro acts; rw [hl _ acts rfl rfl rfl]) | rw [hl _ _ rfl rfl rfl]
  exact Steps.refl _
theorem o_retI (X : Stand p l e R s m args below meth c T locs cells slots) (hx : p.tables.exec = Jvm.exec) (hret : meth.sig.returnType = some .int) (hE : Lv e below Φ m meth T locs) (hd : decode c.code pc = .ok (.ireturn, 1)) {z : Int32} (hQ : Q (some (.int z)) T.heap locs) : OG p e below Φ Q (T.setTop (mkF m pc L (.int z :: S))) :=
  og_end hE (fun h => by rw [hret] at h; cases h) (fun fs hr => retI X hx hret hd hr) hQ
theorem o_retN (X : Stand p l e R s m args below meth c T locs cells slots) (hx : p.tables.exec = Jvm.exec) {t : FieldType} (hret : meth.sig.returnType = some t) (ht : t = .boolean ∨ t = .byte ∨ t = .char ∨ t = .short) (hE : Lv e below Φ m meth T locs) (hd : decode c.code pc = .ok (.ireturn, 1)) {z : Int32} (hQ : Q (some (.int (nar t z))) T.heap locs) : OG p e below Φ Q (T.setTop (mkF m pc L (.int z :: S))) :=
  og_end hE (fun h => by rw [hret] at h; cases h) (fun fs hr => retN X hx hret ht hd hr) hQ
theorem o_retB (X : Stand p l e R s m args below meth c T locs cells slots) (hx : p.tables.exec = Jvm.exec) (hret : meth.sig.returnType = some .boolean) (hE : Lv e below Φ m meth T locs) (hd : decode c.code pc = .ok (.ireturn, 1)) {z : Int32} (hz : z = 0 ∨ z = 1) (hQ : Q (some (.int z)) T.heap locs) : OG p e below Φ Q (T.setTop (mkF m pc L (.int z :: S))) :=
  o_retN X hx hret (Or.inl rfl) hE hd (by have q : nar .boolean z = z := by { rcases hz with rfl | rfl <;> rfl }; rw [q]; exact hQ)
theorem o_retL (X : Stand p l e R s m args below meth c T locs cells slots) (hx : p.tables.exec = Jvm.exec) (hret : meth.sig.returnType = some .long) (hE : Lv e below Φ m meth T locs) (hd : decode c.code pc = .ok (.lreturn, 1)) {z : Int64} (hQ : Q (some (.long z)) T.heap locs) : OG p e below Φ Q (T.setTop (mkF m pc L (.long z :: S))) :=
  og_end hE (fun h => by rw [hret] at h; cases h) (fun fs hr => retOut X hx hret rfl (Or.inr (Or.inl ⟨rfl, rfl, z, rfl⟩)) hd hr) hQ
theorem o_retA (X : Stand p l e R s m args below meth c T locs cells slots) (hx : p.tables.exec = Jvm.exec) {t : FieldType} (hret : meth.sig.returnType = some t) (ht : t.isReference = true) (hE : Lv e below Φ m meth T locs) (hd : decode c.code pc = .ok (.areturn, 1)) {w : Value} (hw : w.isRef = true) (hnw : narrow t w = w) (hQ : Q (some w) T.heap locs) : OG p e below Φ Q (T.setTop (mkF m pc L (w :: S))) :=
  og_end hE (fun h => by rw [hret] at h; cases h) (fun fs hr => retOut X hx hret hnw (Or.inr (Or.inr (Or.inr (Or.inr ⟨rfl, ht, hw⟩)))) hd hr) hQ
theorem o_ret0 (X : Stand p l e R s m args below meth c T locs cells slots) (hx : p.tables.exec = Jvm.exec) (hret : meth.sig.returnType = none) (hE : Lv e below Φ m meth T locs) (hd : decode c.code pc = .ok (.return_, 1)) (hQ : Q none T.heap locs) : OG p e below Φ Q (T.setTop (mkF m pc L [])) :=
  og_end hE (fun _ => rfl) (fun fs hr => X.returnOut hx hret hd hr) hQ
theorem lcY_eq {x y : Int64} (h : x = y) : ifCond.holds .eq (lcmpW x y) = true ∧ ifCond.holds .ne (lcmpW x y) = false := ⟨(if0 _ _).trans (teq ((lw_eq x y).mpr h)).1, (if0 _ _).trans (teq ((lw_eq x y).mpr h)).2⟩
theorem lcN_eq {x y : Int64} (h : ¬ x = y) : ifCond.holds .eq (lcmpW x y) = false ∧ ifCond.holds .ne (lcmpW x y) = true := ⟨(if0 _ _).trans (feq (mt (lw_eq x y).mp h)).1, (if0 _ _).trans (feq (mt (lw_eq x y).mp h)).2⟩
theorem lcY_lt {x y : Int64} (h : x < y) : ifCond.holds .lt (lcmpW x y) = true ∧ ifCond.holds .ge (lcmpW x y) = false := ⟨(if0 _ _).trans (tlt ((lw_lt x y).mpr h)).1, (if0 _ _).trans (tlt ((lw_lt x y).mpr h)).2.1⟩
theorem lcN_lt {x y : Int64} (h : ¬ x < y) : ifCond.holds .lt (lcmpW x y) = false ∧ ifCond.holds .ge (lcmpW x y) = true := ⟨(if0 _ _).trans (flt (mt (lw_lt x y).mp h)).1, (if0 _ _).trans (flt (mt (lw_lt x y).mp h)).2.1⟩
theorem lcY_gt {x y : Int64} (h : y < x) : ifCond.holds .gt (lcmpW x y) = true ∧ ifCond.holds .le (lcmpW x y) = false := ⟨(if0 _ _).trans (tlt ((lw_gt x y).mpr h)).2.2.1, (if0 _ _).trans (tlt ((lw_gt x y).mpr h)).2.2.2⟩
theorem lcN_gt {x y : Int64} (h : ¬ y < x) : ifCond.holds .gt (lcmpW x y) = false ∧ ifCond.holds .le (lcmpW x y) = true := ⟨(if0 _ _).trans (flt (mt (lw_gt x y).mp h)).2.2.1, (if0 _ _).trans (flt (mt (lw_gt x y).mp h)).2.2.2⟩
theorem o_iloadN (X : Stand p l e R s m args below meth c T locs cells slots) (hx : p.tables.exec = Jvm.exec) {i : Fin 4} {v : Int32} (hp : pc + 1 = pc') (hd : decode c.code pc = .ok (.iload_n i, 1)) (hl : L[i.val]? = some (.val (.int v))) (G : OG p e below Φ Q (T.setTop (mkF m pc' L (.int v :: S)))) : OG p e below Φ Q (T.setTop (mkF m pc L S)) := by
  subst hp; exact og_of (fun _ st => XS.iloadN X.here hx rfl hd hl st) G
theorem o_iload (X : Stand p l e R s m args below meth c T locs cells slots) (hx : p.tables.exec = Jvm.exec) {i : Nat} {v : Int32} (hp : pc + 2 = pc') (hd : decode c.code pc = .ok (.iload i, 2)) (hl : L[i]? = some (.val (.int v))) (G : OG p e below Φ Q (T.setTop (mkF m pc' L (.int v :: S)))) : OG p e below Φ Q (T.setTop (mkF m pc L S)) := by
  subst hp; exact og_of (fun _ st => XS.iload X.here hx rfl hd hl st) G
theorem o_istoreN (X : Stand p l e R s m args below meth c T locs cells slots) (hx : p.tables.exec = Jvm.exec) {i : Fin 4} {v : Int32} (hp : pc + 1 = pc') (hd : decode c.code pc = .ok (.istore_n i, 1)) (hl : storeLocals L i.val (.int v) = some L') (G : OG p e below Φ Q (T.setTop (mkF m pc' L' S))) : OG p e below Φ Q (T.setTop (mkF m pc L (.int v :: S))) := by
  subst hp; exact og_of (fun _ st => XS.istoreN X.here hx rfl hd rfl hl st) G
theorem o_istore (X : Stand p l e R s m args below meth c T locs cells slots) (hx : p.tables.exec = Jvm.exec) {i : Nat} {v : Int32} (hp : pc + 2 = pc') (hd : decode c.code pc = .ok (.istore i, 2)) (hl : storeLocals L i (.int v) = some L') (G : OG p e below Φ Q (T.setTop (mkF m pc' L' S))) : OG p e below Φ Q (T.setTop (mkF m pc L (.int v :: S))) := by
  subst hp; exact og_of (fun _ st => XS.istore X.here hx rfl hd rfl hl st) G
theorem o_lloadN (X : Stand p l e R s m args below meth c T locs cells slots) (hx : p.tables.exec = Jvm.exec) {i : Fin 4} {v : Int64} (hp : pc + 1 = pc') (hd : decode c.code pc = .ok (.lload_n i, 1)) (hl : L[i.val]? = some (.val (.long v))) (G : OG p e below Φ Q (T.setTop (mkF m pc' L (.long v :: S)))) : OG p e below Φ Q (T.setTop (mkF m pc L S)) := by
  subst hp; exact og_of (fun _ st => XS.lloadN X.here hx rfl hd hl st) G
theorem o_lload (X : Stand p l e R s m args below meth c T locs cells slots) (hx : p.tables.exec = Jvm.exec) {i : Nat} {v : Int64} (hp : pc + 2 = pc') (hd : decode c.code pc = .ok (.lload i, 2)) (hl : L[i]? = some (.val (.long v))) (G : OG p e below Φ Q (T.setTop (mkF m pc' L (.long v :: S)))) : OG p e below Φ Q (T.setTop (mkF m pc L S)) := by
  subst hp; exact og_of (fun _ st => XS.lload X.here hx rfl hd hl st) G
theorem o_lstoreN (X : Stand p l e R s m args below meth c T locs cells slots) (hx : p.tables.exec = Jvm.exec) {i : Fin 4} {v : Int64} (hp : pc + 1 = pc') (hd : decode c.code pc = .ok (.lstore_n i, 1)) (hl : storeLocals L i.val (.long v) = some L') (G : OG p e below Φ Q (T.setTop (mkF m pc' L' S))) : OG p e below Φ Q (T.setTop (mkF m pc L (.long v :: S))) := by
  subst hp; exact og_of (fun _ st => XS.lstoreN X.here hx rfl hd rfl hl st) G
theorem o_lstore (X : Stand p l e R s m args below meth c T locs cells slots) (hx : p.tables.exec = Jvm.exec) {i : Nat} {v : Int64} (hp : pc + 2 = pc') (hd : decode c.code pc = .ok (.lstore i, 2)) (hl : storeLocals L i (.long v) = some L') (G : OG p e below Φ Q (T.setTop (mkF m pc' L' S))) : OG p e below Φ Q (T.setTop (mkF m pc L (.long v :: S))) := by
  subst hp; exact og_of (fun _ st => XS.lstore X.here hx rfl hd rfl hl st) G
theorem o_aloadN (X : Stand p l e R s m args below meth c T locs cells slots) (hx : p.tables.exec = Jvm.exec) {i : Fin 4} {v : Value} (hp : pc + 1 = pc') (hd : decode c.code pc = .ok (.aload_n i, 1)) (hl : L[i.val]? = some (.val v)) (hv : v.isRef = true) (G : OG p e below Φ Q (T.setTop (mkF m pc' L (v :: S)))) : OG p e below Φ Q (T.setTop (mkF m pc L S)) := by
  subst hp; exact og_of (fun _ st => XS.aloadN X.here hx rfl hd hl hv st) G
theorem o_aload (X : Stand p l e R s m args below meth c T locs cells slots) (hx : p.tables.exec = Jvm.exec) {i : Nat} {v : Value} (hp : pc + 2 = pc') (hd : decode c.code pc = .ok (.aload i, 2)) (hl : L[i]? = some (.val v)) (hv : v.isRef = true) (G : OG p e below Φ Q (T.setTop (mkF m pc' L (v :: S)))) : OG p e below Φ Q (T.setTop (mkF m pc L S)) := by
  subst hp; exact og_of (fun _ st => XS.aload X.here hx rfl hd hl hv st) G
theorem o_astoreN (X : Stand p l e R s m args below meth c T locs cells slots) (hx : p.tables.exec = Jvm.exec) {i : Fin 4} {v : Value} (hp : pc + 1 = pc') (hd : decode c.code pc = .ok (.astore_n i, 1)) (hv : v.isRef = true) (hl : storeLocals L i.val v = some L') (G : OG p e below Φ Q (T.setTop (mkF m pc' L' S))) : OG p e below Φ Q (T.setTop (mkF m pc L (v :: S))) := by
  subst hp; exact og_of (fun _ st => XS.astoreN X.here hx rfl hd rfl hv hl st) G
theorem o_astore (X : Stand p l e R s m args below meth c T locs cells slots) (hx : p.tables.exec = Jvm.exec) {i : Nat} {v : Value} (hp : pc + 2 = pc') (hd : decode c.code pc = .ok (.astore i, 2)) (hv : v.isRef = true) (hl : storeLocals L i v = some L') (G : OG p e below Φ Q (T.setTop (mkF m pc' L' S))) : OG p e below Φ Q (T.setTop (mkF m pc L (v :: S))) := by
  subst hp; exact og_of (fun _ st => XS.astore X.here hx rfl hd rfl hv hl st) G
theorem o_iconst (X : Stand p l e R s m args below meth c T locs cells slots) (hx : p.tables.exec = Jvm.exec) {i : Int} {z : Int32} (hp : pc + 1 = pc') (hd : decode c.code pc = .ok (.iconst i, 1)) (hz : Int32.ofInt i = z) (G : OG p e below Φ Q (T.setTop (mkF m pc' L (.int z :: S)))) : OG p e below Φ Q (T.setTop (mkF m pc L S)) := by
  subst hp hz; exact og_of (fun _ st => XS.iconst X.here hx rfl hd st) G
theorem o_bipush (X : Stand p l e R s m args below meth c T locs cells slots) (hx : p.tables.exec = Jvm.exec) {i : Int} {z : Int32} (hp : pc + 2 = pc') (hd : decode c.code pc = .ok (.bipush i, 2)) (hz : (Int8.ofInt i).toInt32 = z) (G : OG p e below Φ Q (T.setTop (mkF m pc' L (.int z :: S)))) : OG p e below Φ Q (T.setTop (mkF m pc L S)) := by
  subst hp hz; exact og_of (fun _ st => XS.bipush X.here hx rfl hd st) G
theorem o_sipush (X : Stand p l e R s m args below meth c T locs cells slots) (hx : p.tables.exec = Jvm.exec) {i : Int} {z : Int32} (hp : pc + 3 = pc') (hd : decode c.code pc = .ok (.sipush i, 3)) (hz : (Int16.ofInt i).toInt32 = z) (G : OG p e below Φ Q (T.setTop (mkF m pc' L (.int z :: S)))) : OG p e below Φ Q (T.setTop (mkF m pc L S)) := by
  subst hp hz; exact og_of (fun _ st => XS.sipush X.here hx rfl hd st) G
theorem o_lconst (X : Stand p l e R s m args below meth c T locs cells slots) (hx : p.tables.exec = Jvm.exec) {i : Fin 2} {z : Int64} (hp : pc + 1 = pc') (hd : decode c.code pc = .ok (.lconst i, 1)) (hz : Int64.ofNat i = z) (G : OG p e below Φ Q (T.setTop (mkF m pc' L (.long z :: S)))) : OG p e below Φ Q (T.setTop (mkF m pc L S)) := by
  subst hp hz; exact og_of (fun _ st => XS.lconst X.here hx rfl hd st) G
theorem o_aconst_null (X : Stand p l e R s m args below meth c T locs cells slots) (hx : p.tables.exec = Jvm.exec) (hp : pc + 1 = pc') (hd : decode c.code pc = .ok (.aconst_null, 1))  (G : OG p e below Φ Q (T.setTop (mkF m pc' L (.null :: S)))) : OG p e below Φ Q (T.setTop (mkF m pc L S)) := by
  subst hp; exact og_of (fun _ st => XS.aconstNull X.here hx rfl hd st) G
theorem o_iadd (X : Stand p l e R s m args below meth c T locs cells slots) (hx : p.tables.exec = Jvm.exec) {x : Int32} {y : Int32} {z : Int32} (hp : pc + 1 = pc') (hd : decode c.code pc = .ok (.iadd, 1)) (hz : x + y = z) (G : OG p e below Φ Q (T.setTop (mkF m pc' L (.int z :: S)))) : OG p e below Φ Q (T.setTop (mkF m pc L (.int y :: .int x :: S))) := by
  subst hp hz; exact og_of (fun _ st => XS.iadd X.here hx rfl hd rfl st) G
theorem o_ladd (X : Stand p l e R s m args below meth c T locs cells slots) (hx : p.tables.exec = Jvm.exec) {x : Int64} {y : Int64} {z : Int64} (hp : pc + 1 = pc') (hd : decode c.code pc = .ok (.ladd, 1)) (hz : x + y = z) (G : OG p e below Φ Q (T.setTop (mkF m pc' L (.long z :: S)))) : OG p e below Φ Q (T.setTop (mkF m pc L (.long y :: .long x :: S))) := by
  subst hp hz; exact og_of (fun _ st => XS.ladd X.here hx rfl hd rfl st) G
theorem o_isub (X : Stand p l e R s m args below meth c T locs cells slots) (hx : p.tables.exec = Jvm.exec) {x : Int32} {y : Int32} {z : Int32} (hp : pc + 1 = pc') (hd : decode c.code pc = .ok (.isub, 1)) (hz : x - y = z) (G : OG p e below Φ Q (T.setTop (mkF m pc' L (.int z :: S)))) : OG p e below Φ Q (T.setTop (mkF m pc L (.int y :: .int x :: S))) := by
  subst hp hz; exact og_of (fun _ st => XS.isub X.here hx rfl hd rfl st) G
theorem o_lsub (X : Stand p l e R s m args below meth c T locs cells slots) (hx : p.tables.exec = Jvm.exec) {x : Int64} {y : Int64} {z : Int64} (hp : pc + 1 = pc') (hd : decode c.code pc = .ok (.lsub, 1)) (hz : x - y = z) (G : OG p e below Φ Q (T.setTop (mkF m pc' L (.long z :: S)))) : OG p e below Φ Q (T.setTop (mkF m pc L (.long y :: .long x :: S))) := by
  subst hp hz; exact og_of (fun _ st => XS.lsub X.here hx rfl hd rfl st) G
theorem o_imul (X : Stand p l e R s m args below meth c T locs cells slots) (hx : p.tables.exec = Jvm.exec) {x : Int32} {y : Int32} {z : Int32} (hp : pc + 1 = pc') (hd : decode c.code pc = .ok (.imul, 1)) (hz : x * y = z) (G : OG p e below Φ Q (T.setTop (mkF m pc' L (.int z :: S)))) : OG p e below Φ Q (T.setTop (mkF m pc L (.int y :: .int x :: S))) := by
  subst hp hz; exact og_of (fun _ st => XS.imul X.here hx rfl hd rfl st) G
theorem o_lmul (X : Stand p l e R s m args below meth c T locs cells slots) (hx : p.tables.exec = Jvm.exec) {x : Int64} {y : Int64} {z : Int64} (hp : pc + 1 = pc') (hd : decode c.code pc = .ok (.lmul, 1)) (hz : x * y = z) (G : OG p e below Φ Q (T.setTop (mkF m pc' L (.long z :: S)))) : OG p e below Φ Q (T.setTop (mkF m pc L (.long y :: .long x :: S))) := by
  subst hp hz; exact og_of (fun _ st => XS.lmul X.here hx rfl hd rfl st) G
theorem o_iand (X : Stand p l e R s m args below meth c T locs cells slots) (hx : p.tables.exec = Jvm.exec) {x : Int32} {y : Int32} {z : Int32} (hp : pc + 1 = pc') (hd : decode c.code pc = .ok (.iand, 1)) (hz : x &&& y = z) (G : OG p e below Φ Q (T.setTop (mkF m pc' L (.int z :: S)))) : OG p e below Φ Q (T.setTop (mkF m pc L (.int y :: .int x :: S))) := by
  subst hp hz; exact og_of (fun _ st => XS.iand X.here hx rfl hd rfl st) G
theorem o_land (X : Stand p l e R s m args below meth c T locs cells slots) (hx : p.tables.exec = Jvm.exec) {x : Int64} {y : Int64} {z : Int64} (hp : pc + 1 = pc') (hd : decode c.code pc = .ok (.land, 1)) (hz : x &&& y = z) (G : OG p e below Φ Q (T.setTop (mkF m pc' L (.long z :: S)))) : OG p e below Φ Q (T.setTop (mkF m pc L (.long y :: .long x :: S))) := by
  subst hp hz; exact og_of (fun _ st => XS.land X.here hx rfl hd rfl st) G
theorem o_ior (X : Stand p l e R s m args below meth c T locs cells slots) (hx : p.tables.exec = Jvm.exec) {x : Int32} {y : Int32} {z : Int32} (hp : pc + 1 = pc') (hd : decode c.code pc = .ok (.ior, 1)) (hz : x ||| y = z) (G : OG p e below Φ Q (T.setTop (mkF m pc' L (.int z :: S)))) : OG p e below Φ Q (T.setTop (mkF m pc L (.int y :: .int x :: S))) := by
  subst hp hz; exact og_of (fun _ st => XS.ior X.here hx rfl hd rfl st) G
theorem o_lor (X : Stand p l e R s m args below meth c T locs cells slots) (hx : p.tables.exec = Jvm.exec) {x : Int64} {y : Int64} {z : Int64} (hp : pc + 1 = pc') (hd : decode c.code pc = .ok (.lor, 1)) (hz : x ||| y = z) (G : OG p e below Φ Q (T.setTop (mkF m pc' L (.long z :: S)))) : OG p e below Φ Q (T.setTop (mkF m pc L (.long y :: .long x :: S))) := by
  subst hp hz; exact og_of (fun _ st => XS.lor X.here hx rfl hd rfl st) G
theorem o_ixor (X : Stand p l e R s m args below meth c T locs cells slots) (hx : p.tables.exec = Jvm.exec) {x : Int32} {y : Int32} {z : Int32} (hp : pc + 1 = pc') (hd : decode c.code pc = .ok (.ixor, 1)) (hz : x ^^^ y = z) (G : OG p e below Φ Q (T.setTop (mkF m pc' L (.int z :: S)))) : OG p e below Φ Q (T.setTop (mkF m pc L (.int y :: .int x :: S))) := by
  subst hp hz; exact og_of (fun _ st => XS.ixor X.here hx rfl hd rfl st) G
theorem o_lxor (X : Stand p l e R s m args below meth c T locs cells slots) (hx : p.tables.exec = Jvm.exec) {x : Int64} {y : Int64} {z : Int64} (hp : pc + 1 = pc') (hd : decode c.code pc = .ok (.lxor, 1)) (hz : x ^^^ y = z) (G : OG p e below Φ Q (T.setTop (mkF m pc' L (.long z :: S)))) : OG p e below Φ Q (T.setTop (mkF m pc L (.long y :: .long x :: S))) := by
  subst hp hz; exact og_of (fun _ st => XS.lxor X.here hx rfl hd rfl st) G
theorem o_ishl (X : Stand p l e R s m args below meth c T locs cells slots) (hx : p.tables.exec = Jvm.exec) {x : Int32} {y : Int32} {z : Int32} (hp : pc + 1 = pc') (hd : decode c.code pc = .ok (.ishl, 1)) (hz : x <<< (y &&& 31) = z) (G : OG p e below Φ Q (T.setTop (mkF m pc' L (.int z :: S)))) : OG p e below Φ Q (T.setTop (mkF m pc L (.int y :: .int x :: S))) := by
  subst hp hz; exact og_of (fun _ st => XS.ishl X.here hx rfl hd rfl st) G
theorem o_ishr (X : Stand p l e R s m args below meth c T locs cells slots) (hx : p.tables.exec = Jvm.exec) {x : Int32} {y : Int32} {z : Int32} (hp : pc + 1 = pc') (hd : decode c.code pc = .ok (.ishr, 1)) (hz : x >>> (y &&& 31) = z) (G : OG p e below Φ Q (T.setTop (mkF m pc' L (.int z :: S)))) : OG p e below Φ Q (T.setTop (mkF m pc L (.int y :: .int x :: S))) := by
  subst hp hz; exact og_of (fun _ st => XS.ishr X.here hx rfl hd rfl st) G
theorem o_iushr (X : Stand p l e R s m args below meth c T locs cells slots) (hx : p.tables.exec = Jvm.exec) {x : Int32} {y : Int32} {z : Int32} (hp : pc + 1 = pc') (hd : decode c.code pc = .ok (.iushr, 1)) (hz : (x.toUInt32 >>> (y &&& 31).toUInt32).toInt32 = z) (G : OG p e below Φ Q (T.setTop (mkF m pc' L (.int z :: S)))) : OG p e below Φ Q (T.setTop (mkF m pc L (.int y :: .int x :: S))) := by
  subst hp hz; exact og_of (fun _ st => XS.iushr X.here hx rfl hd rfl st) G
theorem o_lshl (X : Stand p l e R s m args below meth c T locs cells slots) (hx : p.tables.exec = Jvm.exec) {x : Int64} {y : Int32} {z : Int64} (hp : pc + 1 = pc') (hd : decode c.code pc = .ok (.lshl, 1)) (hz : x <<< (y &&& 0x3f).toInt64 = z) (G : OG p e below Φ Q (T.setTop (mkF m pc' L (.long z :: S)))) : OG p e below Φ Q (T.setTop (mkF m pc L (.int y :: .long x :: S))) := by
  subst hp hz; exact og_of (fun _ st => XS.lshl X.here hx rfl hd rfl st) G
theorem o_lshr (X : Stand p l e R s m args below meth c T locs cells slots) (hx : p.tables.exec = Jvm.exec) {x : Int64} {y : Int32} {z : Int64} (hp : pc + 1 = pc') (hd : decode c.code pc = .ok (.lshr, 1)) (hz : x >>> (y &&& 0x3f).toInt64 = z) (G : OG p e below Φ Q (T.setTop (mkF m pc' L (.long z :: S)))) : OG p e below Φ Q (T.setTop (mkF m pc L (.int y :: .long x :: S))) := by
  subst hp hz; exact og_of (fun _ st => XS.lshr X.here hx rfl hd rfl st) G
theorem o_lushr (X : Stand p l e R s m args below meth c T locs cells slots) (hx : p.tables.exec = Jvm.exec) {x : Int64} {y : Int32} {z : Int64} (hp : pc + 1 = pc') (hd : decode c.code pc = .ok (.lushr, 1)) (hz : (x.toUInt64 >>> (y &&& 0x3f).toInt64.toUInt64).toInt64 = z) (G : OG p e below Φ Q (T.setTop (mkF m pc' L (.long z :: S)))) : OG p e below Φ Q (T.setTop (mkF m pc L (.int y :: .long x :: S))) := by
  subst hp hz; exact og_of (fun _ st => XS.lushr X.here hx rfl hd rfl st) G
theorem o_idiv (X : Stand p l e R s m args below meth c T locs cells slots) (hx : p.tables.exec = Jvm.exec) {x : Int32} {y : Int32} {z : Int32} (hp : pc + 1 = pc') (hd : decode c.code pc = .ok (.idiv, 1)) (hz : x / y = z) (hy : y ≠ 0) (G : OG p e below Φ Q (T.setTop (mkF m pc' L (.int z :: S)))) : OG p e below Φ Q (T.setTop (mkF m pc L (.int y :: .int x :: S))) := by
  subst hp hz; exact og_of (fun _ st => XS.idiv X.here hx rfl hd rfl hy st) G
theorem o_ldiv (X : Stand p l e R s m args below meth c T locs cells slots) (hx : p.tables.exec = Jvm.exec) {x : Int64} {y : Int64} {z : Int64} (hp : pc + 1 = pc') (hd : decode c.code pc = .ok (.ldiv, 1)) (hz : x / y = z) (hy : y ≠ 0) (G : OG p e below Φ Q (T.setTop (mkF m pc' L (.long z :: S)))) : OG p e below Φ Q (T.setTop (mkF m pc L (.long y :: .long x :: S))) := by
  subst hp hz; exact og_of (fun _ st => XS.ldiv X.here hx rfl hd rfl hy st) G
theorem o_irem (X : Stand p l e R s m args below meth c T locs cells slots) (hx : p.tables.exec = Jvm.exec) {x y z : Int32} (hp : pc + 1 = pc') (hd : decode c.code pc = .ok (.irem, 1)) (hz : x % y = z) (hy : y ≠ 0) (G : OG p e below Φ Q (T.setTop (mkF m pc' L (.int z :: S)))) : OG p e below Φ Q (T.setTop (mkF m pc L (.int y :: .int x :: S))) := by
  subst hp hz; exact og_of (fun _ st => XS.irem X.here hx rfl hd rfl hy (by rw [irem_eq_mod x y]; exact st)) G
theorem o_lrem (X : Stand p l e R s m args below meth c T locs cells slots) (hx : p.tables.exec = Jvm.exec) {x y z : Int64} (hp : pc + 1 = pc') (hd : decode c.code pc = .ok (.lrem, 1)) (hz : x % y = z) (hy : y ≠ 0) (G : OG p e below Φ Q (T.setTop (mkF m pc' L (.long z :: S)))) : OG p e below Φ Q (T.setTop (mkF m pc L (.long y :: .long x :: S))) := by
  subst hp hz; exact og_of (fun _ st => XS.lrem X.here hx rfl hd rfl hy (by rw [lrem_mod x y]; exact st)) G
theorem o_ineg (X : Stand p l e R s m args below meth c T locs cells slots) (hx : p.tables.exec = Jvm.exec) {x : Int32} {z : Int32} (hp : pc + 1 = pc') (hd : decode c.code pc = .ok (.ineg, 1)) (hz : -x = z) (G : OG p e below Φ Q (T.setTop (mkF m pc' L (.int z :: S)))) : OG p e below Φ Q (T.setTop (mkF m pc L (.int x :: S))) := by
  subst hp hz; exact og_of (fun _ st => XS.ineg X.here hx rfl hd rfl st) G
theorem o_lneg (X : Stand p l e R s m args below meth c T locs cells slots) (hx : p.tables.exec = Jvm.exec) {x : Int64} {z : Int64} (hp : pc + 1 = pc') (hd : decode c.code pc = .ok (.lneg, 1)) (hz : -x = z) (G : OG p e below Φ Q (T.setTop (mkF m pc' L (.long z :: S)))) : OG p e below Φ Q (T.setTop (mkF m pc L (.long x :: S))) := by
  subst hp hz; exact og_of (fun _ st => XS.lneg X.here hx rfl hd rfl st) G
theorem o_i2l (X : Stand p l e R s m args below meth c T locs cells slots) (hx : p.tables.exec = Jvm.exec) {x : Int32} {z : Int64} (hp : pc + 1 = pc') (hd : decode c.code pc = .ok (.i2l, 1)) (hz : x.toInt64 = z) (G : OG p e below Φ Q (T.setTop (mkF m pc' L (.long z :: S)))) : OG p e below Φ Q (T.setTop (mkF m pc L (.int x :: S))) := by
  subst hp hz; exact og_of (fun _ st => XS.i2l X.here hx rfl hd rfl st) G
theorem o_l2i (X : Stand p l e R s m args below meth c T locs cells slots) (hx : p.tables.exec = Jvm.exec) {x : Int64} {z : Int32} (hp : pc + 1 = pc') (hd : decode c.code pc = .ok (.l2i, 1)) (hz : x.toInt32 = z) (G : OG p e below Φ Q (T.setTop (mkF m pc' L (.int z :: S)))) : OG p e below Φ Q (T.setTop (mkF m pc L (.long x :: S))) := by
  subst hp hz; exact og_of (fun _ st => XS.l2i X.here hx rfl hd rfl st) G
theorem o_i2b (X : Stand p l e R s m args below meth c T locs cells slots) (hx : p.tables.exec = Jvm.exec) {x : Int32} {z : Int32} (hp : pc + 1 = pc') (hd : decode c.code pc = .ok (.i2b, 1)) (hz : x.toInt8.toInt32 = z) (G : OG p e below Φ Q (T.setTop (mkF m pc' L (.int z :: S)))) : OG p e below Φ Q (T.setTop (mkF m pc L (.int x :: S))) := by
  subst hp hz; exact og_of (fun _ st => XS.i2b X.here hx rfl hd rfl st) G
theorem o_i2s (X : Stand p l e R s m args below meth c T locs cells slots) (hx : p.tables.exec = Jvm.exec) {x : Int32} {z : Int32} (hp : pc + 1 = pc') (hd : decode c.code pc = .ok (.i2s, 1)) (hz : x.toInt16.toInt32 = z) (G : OG p e below Φ Q (T.setTop (mkF m pc' L (.int z :: S)))) : OG p e below Φ Q (T.setTop (mkF m pc L (.int x :: S))) := by
  subst hp hz; exact og_of (fun _ st => XS.i2s X.here hx rfl hd rfl st) G
theorem o_i2c (X : Stand p l e R s m args below meth c T locs cells slots) (hx : p.tables.exec = Jvm.exec) {x : Int32} {z : Int32} (hp : pc + 1 = pc') (hd : decode c.code pc = .ok (.i2c, 1)) (hz : x.toUInt32.toUInt16.toUInt32.toInt32 = z) (G : OG p e below Φ Q (T.setTop (mkF m pc' L (.int z :: S)))) : OG p e below Φ Q (T.setTop (mkF m pc L (.int x :: S))) := by
  subst hp hz; exact og_of (fun _ st => XS.i2c X.here hx rfl hd rfl st) G
theorem o_lcmp (X : Stand p l e R s m args below meth c T locs cells slots) (hx : p.tables.exec = Jvm.exec) {x y : Int64} (hp : pc + 1 = pc') (hd : decode c.code pc = .ok (.lcmp, 1))  (G : OG p e below Φ Q (T.setTop (mkF m pc' L (.int (lcmpW x y) :: S)))) : OG p e below Φ Q (T.setTop (mkF m pc L (.long y :: .long x :: S))) := by
  subst hp; exact og_of (fun _ st => XS.lcmp X.here hx rfl hd rfl st) G
theorem o_dup (X : Stand p l e R s m args below meth c T locs cells slots) (hx : p.tables.exec = Jvm.exec) {v : Value} (hp : pc + 1 = pc') (hd : decode c.code pc = .ok (.dup, 1)) (hc : v.category = 1) (G : OG p e below Φ Q (T.setTop (mkF m pc' L (v :: v :: S)))) : OG p e below Φ Q (T.setTop (mkF m pc L (v :: S))) := by
  subst hp; exact og_of (fun _ st => XS.dup X.here hx rfl hd rfl hc st) G
theorem o_pop (X : Stand p l e R s m args below meth c T locs cells slots) (hx : p.tables.exec = Jvm.exec) {v : Value} (hp : pc + 1 = pc') (hd : decode c.code pc = .ok (.pop, 1)) (hc : v.category = 1) (G : OG p e below Φ Q (T.setTop (mkF m pc' L S))) : OG p e below Φ Q (T.setTop (mkF m pc L (v :: S))) := by
  subst hp; exact og_of (fun _ st => XS.pop X.here hx rfl hd rfl hc st) G
theorem o_dup_x1 (X : Stand p l e R s m args below meth c T locs cells slots) (hx : p.tables.exec = Jvm.exec) {v w : Value} (hp : pc + 1 = pc') (hd : decode c.code pc = .ok (.dup_x1, 1)) (hc : v.category = 1) (hc2 : w.category = 1) (G : OG p e below Φ Q (T.setTop (mkF m pc' L (v :: w :: v :: S)))) : OG p e below Φ Q (T.setTop (mkF m pc L (v :: w :: S))) := by
  subst hp; exact og_of (fun _ st => XS.dupX1 X.here hx rfl hd rfl hc hc2 st) G
theorem o_dup2 (X : Stand p l e R s m args below meth c T locs cells slots) (hx : p.tables.exec = Jvm.exec) {v w : Value} (hp : pc + 1 = pc') (hd : decode c.code pc = .ok (.dup2, 1)) (hc : v.category = 1) (hc2 : w.category = 1) (G : OG p e below Φ Q (T.setTop (mkF m pc' L (v :: w :: v :: w :: S)))) : OG p e below Φ Q (T.setTop (mkF m pc L (v :: w :: S))) := by
  subst hp; exact og_of (fun _ st => XT.dup2 X.here hx rfl hd rfl hc hc2 st) G
theorem o_dup2L (X : Stand p l e R s m args below meth c T locs cells slots) (hx : p.tables.exec = Jvm.exec) {v : Int64} (hp : pc + 1 = pc') (hd : decode c.code pc = .ok (.dup2, 1))  (G : OG p e below Φ Q (T.setTop (mkF m pc' L (.long v :: .long v :: S)))) : OG p e below Φ Q (T.setTop (mkF m pc L (.long v :: S))) := by
  subst hp; exact og_of (fun _ st => XT.dup2L X.here hx rfl hd rfl st) G
theorem o_dup_x2 (X : Stand p l e R s m args below meth c T locs cells slots) (hx : p.tables.exec = Jvm.exec) {u v w : Value} (hp : pc + 1 = pc') (hd : decode c.code pc = .ok (.dup_x2, 1)) (hu : u.category = 1) (hv : v.category = 1) (hw : w.category = 1) (G : OG p e below Φ Q (T.setTop (mkF m pc' L (u :: v :: w :: u :: S)))) : OG p e below Φ Q (T.setTop (mkF m pc L (u :: v :: w :: S))) := by
  subst hp; refine og_of (fun _ st => ?_) G
  jvm_step X.here [X.here.top, hx, hd, hu, hv, hw]
  exact st
theorem o_iinc (X : Stand p l e R s m args below meth c T locs cells slots) (hx : p.tables.exec = Jvm.exec) {i : Nat} {cst : Int} {x z : Int32} (hp : pc + 3 = pc') (hd : decode c.code pc = .ok (.iinc i cst, 3)) (hl : L[i]? = some (.val (.int x))) (hz : x + Int32.ofInt cst = z) (hl' : storeLocals L i (.int z) = some L') (G : OG p e below Φ Q (T.setTop (mkF m pc' L' S))) : OG p e below Φ Q (T.setTop (mkF m pc L S)) := by
  subst hp hz; exact og_of (fun _ st => XS.iinc X.here hx rfl hd hl hl' st) G
theorem o_goto (X : Stand p l e R s m args below meth c T locs cells slots) (hx : p.tables.exec = Jvm.exec) {o : Int} (hd : decode c.code pc = .ok (.goto o, 3)) (ho : 0 ≤ (pc : Int) + o) (hp : ((pc : Int) + o).toNat = pc') (G : OG p e below Φ Q (T.setTop (mkF m pc' L S))) : OG p e below Φ Q (T.setTop (mkF m pc L S)) := og_of (fun _ st => XS.goto X.here hx rfl rfl hd ho hp st) G
theorem o_ifY (X : Stand p l e R s m args below meth c T locs cells slots) (hx : p.tables.exec = Jvm.exec) {cd : ClassFile.Cond} {x : Int32} {o : Int} (hd : decode c.code pc = .ok (.ifCond cd o, 3)) (hc : ifCond.holds cd x = true) (ho : 0 ≤ (pc : Int) + o) (hp : ((pc : Int) + o).toNat = pc') (G : OG p e below Φ Q (T.setTop (mkF m pc' L S))) : OG p e below Φ Q (T.setTop (mkF m pc L (.int x :: S))) := og_of (fun _ st => XS.ifYes X.here hx rfl rfl hd rfl hc ho hp st) G
theorem o_ifN (X : Stand p l e R s m args below meth c T locs cells slots) (hx : p.tables.exec = Jvm.exec) {cd : ClassFile.Cond} {x : Int32} {o : Int} (hp : pc + 3 = pc') (hd : decode c.code pc = .ok (.ifCond cd o, 3)) (hc : ifCond.holds cd x = false) (G : OG p e below Φ Q (T.setTop (mkF m pc' L S))) : OG p e below Φ Q (T.setTop (mkF m pc L (.int x :: S))) := by
  subst hp; exact og_of (fun _ st => XS.ifNo X.here hx rfl hd rfl hc st) G
theorem o_icmpY (X : Stand p l e R s m args below meth c T locs cells slots) (hx : p.tables.exec = Jvm.exec) {cd : ClassFile.Cond} {x y : Int32} {o : Int} (hd : decode c.code pc = .ok (.if_icmp cd o, 3)) (hc : if_icmp.holds cd x y = true) (ho : 0 ≤ (pc : Int) + o) (hp : ((pc : Int) + o).toNat = pc') (G : OG p e below Φ Q (T.setTop (mkF m pc' L S))) : OG p e below Φ Q (T.setTop (mkF m pc L (.int y :: .int x :: S))) := og_of (fun _ st => XS.icmpYes X.here hx rfl rfl hd rfl hc ho hp st) G
theorem o_icmpN (X : Stand p l e R s m args below meth c T locs cells slots) (hx : p.tables.exec = Jvm.exec) {cd : ClassFile.Cond} {x y : Int32} {o : Int} (hp : pc + 3 = pc') (hd : decode c.code pc = .ok (.if_icmp cd o, 3)) (hc : if_icmp.holds cd x y = false) (G : OG p e below Φ Q (T.setTop (mkF m pc' L S))) : OG p e below Φ Q (T.setTop (mkF m pc L (.int y :: .int x :: S))) := by
  subst hp; exact og_of (fun _ st => XS.icmpNo X.here hx rfl hd rfl hc st) G
theorem o_ifnullY (X : Stand p l e R s m args below meth c T locs cells slots) (hx : p.tables.exec = Jvm.exec) {o : Int} (hd : decode c.code pc = .ok (.ifnull o, 3)) (ho : 0 ≤ (pc : Int) + o) (hp : ((pc : Int) + o).toNat = pc') (G : OG p e below Φ Q (T.setTop (mkF m pc' L S))) : OG p e below Φ Q (T.setTop (mkF m pc L (.null :: S))) := og_of (fun _ st => XS.ifnullYes X.here hx rfl rfl hd rfl ho hp st) G
theorem o_ifnullN (X : Stand p l e R s m args below meth c T locs cells slots) (hx : p.tables.exec = Jvm.exec) {o : Int} {a : Addr} (hp : pc + 3 = pc') (hd : decode c.code pc = .ok (.ifnull o, 3)) (G : OG p e below Φ Q (T.setTop (mkF m pc' L S))) : OG p e below Φ Q (T.setTop (mkF m pc L (.ref a :: S))) := by
  subst hp; exact og_of (fun _ st => XS.ifnullNo X.here hx rfl hd rfl st) G
theorem o_ifnonnullY (X : Stand p l e R s m args below meth c T locs cells slots) (hx : p.tables.exec = Jvm.exec) {o : Int} {a : Addr} (hd : decode c.code pc = .ok (.ifnonnull o, 3)) (ho : 0 ≤ (pc : Int) + o) (hp : ((pc : Int) + o).toNat = pc') (G : OG p e below Φ Q (T.setTop (mkF m pc' L S))) : OG p e below Φ Q (T.setTop (mkF m pc L (.ref a :: S))) := og_of (fun _ st => XS.ifnonnullYes X.here hx rfl rfl hd rfl ho hp st) G
theorem o_ifnonnullN (X : Stand p l e R s m args below meth c T locs cells slots) (hx : p.tables.exec = Jvm.exec) {o : Int} (hp : pc + 3 = pc') (hd : decode c.code pc = .ok (.ifnonnull o, 3)) (G : OG p e below Φ Q (T.setTop (mkF m pc' L S))) : OG p e below Φ Q (T.setTop (mkF m pc L (.null :: S))) := by
  subst hp; exact og_of (fun _ st => XS.ifnonnullNo X.here hx rfl hd rfl st) G
theorem o_acmpY (X : Stand p l e R s m args below meth c T locs cells slots) (hx : p.tables.exec = Jvm.exec) {cd : ClassFile.ACond} {a b : Addr} {o : Int} (hd : decode c.code pc = .ok (.if_acmp cd o, 3)) (hc : if_acmp.holds cd (some a) (some b) = true) (ho : 0 ≤ (pc : Int) + o) (hp : ((pc : Int) + o).toNat = pc') (G : OG p e below Φ Q (T.setTop (mkF m pc' L S))) : OG p e below Φ Q (T.setTop (mkF m pc L (.ref b :: .ref a :: S))) := og_of (fun _ st => XS.acmpYes X.here hx rfl rfl hd rfl hc ho hp st) G
theorem o_acmpN (X : Stand p l e R s m args below meth c T locs cells slots) (hx : p.tables.exec = Jvm.exec) {cd : ClassFile.ACond} {a b : Addr} {o : Int} (hp : pc + 3 = pc') (hd : decode c.code pc = .ok (.if_acmp cd o, 3)) (hc : if_acmp.holds cd (some a) (some b) = false) (G : OG p e below Φ Q (T.setTop (mkF m pc' L S))) : OG p e below Φ Q (T.setTop (mkF m pc L (.ref b :: .ref a :: S))) := by
  subst hp; exact og_of (fun _ st => XS.acmpNo X.here hx rfl hd rfl hc st) G
theorem o_ldcI (X : Stand p l e R s m args below meth c T locs cells slots) (hx : p.tables.exec = Jvm.exec) {Z : State} {a0 : Array Value} {own : String} {i : Nat} {v : Int32} (hp : pc + 2 = pc') (hd : decode c.code pc = .ok (.ldc i, 2)) (hZ : Z.Warmed39 s.vm) (hown : s.vm.findClass own = some m.cls) (w : (Cond.constant own i v).before a0 Z = true) (G : OG p e below Φ Q (T.setTop (mkF m pc' L (.int v :: S)))) : OG p e below Φ Q (T.setTop (mkF m pc L S)) := by
  subst hp; exact og_of (X.ldcInt hx hown (mvT hZ w) (g := mkF m pc L S) rfl hd) G
theorem o_ldcwI (X : Stand p l e R s m args below meth c T locs cells slots) (hx : p.tables.exec = Jvm.exec) {Z : State} {a0 : Array Value} {own : String} {i : Nat} {v : Int32} (hp : pc + 3 = pc') (hd : decode c.code pc = .ok (.ldc_w i, 3)) (hZ : Z.Warmed39 s.vm) (hown : s.vm.findClass own = some m.cls) (w : (Cond.constant own i v).before a0 Z = true) (G : OG p e below Φ Q (T.setTop (mkF m pc' L (.int v :: S)))) : OG p e below Φ Q (T.setTop (mkF m pc L S)) := by
  subst hp; exact og_of (X.ldcwInt hx hown (mvT hZ w) (g := mkF m pc L S) rfl hd) G
theorem o_ldc2L (X : Stand p l e R s m args below meth c T locs cells slots) (hx : p.tables.exec = Jvm.exec) {Z : State} {a0 : Array Value} {own : String} {i : Nat} {v : Int64} (hp : pc + 3 = pc') (hd : decode c.code pc = .ok (.ldc2_w i, 3)) (hZ : Z.Warmed39 s.vm) (hown : s.vm.findClass own = some m.cls) (w : (Cond.constantLong own i v).before a0 Z = true) (G : OG p e below Φ Q (T.setTop (mkF m pc' L (.long v :: S)))) : OG p e below Φ Q (T.setTop (mkF m pc L S)) := by
  subst hp; exact og_of (X.ldc2Long hx hown (mvT hZ w) (g := mkF m pc L S) rfl hd) G
theorem own_cat {x : Value} (h : x.isRef = true) : x.category = 1 := by cases x <;> simp_all [Value.isRef, Value.category]
theorem own_narR {x : Value} (h : x.isRef = true) (t : FieldType) : narrow t x = x := by rcases ref_cases h with rfl | ⟨a, rfl⟩ <;> cases t <;> rfl
theorem own_fitR {x : Value} {C : String} (h : x.isRef = true) : fits (.object C) x = true := by rcases ref_cases h with rfl | ⟨a, rfl⟩ <;> rfl
theorem own_selp {Z : State} {a0 : Array Value} {y : MethodName} {q : Nat} (hZ : Z.Warmed39 s.vm) (wi : (Cond.instantiable y.cls q).before a0 Z = true) (hp : (Cond.privateMethod y).before a0 Z = true) (hi : (Cond.instanceMethod y).before a0 Z = true) (hy : y.cls ≠ "java/lang/invoke/MethodHandle" ∧ y.cls ≠ "java/lang/invoke/VarHandle") : (Cond.selects y.cls y y).before args s = true := by
  have wi' : (Cond.instantiable y.cls q).before args s = true := mv hZ wi
  obtain ⟨cc, kk, h1, h2, -, h4, -⟩ := Cond.instantiable_spec wi'
  have hni : kk.isInterface = false := by simp only [Bool.or_eq_false_iff] at h4; exact h4.1
  exact selects_self_of_private h1 h2 hni (Cond.privateMethod_at (mvP hZ hp (args := args))) (mv hZ hi) hy
theorem own_staK {Z : State} {h h' : Heap} {C nn d : String} {v : Value} (F : Sta Z h C nn d v) (K : Keep h h' []) : Sta Z h' C nn d v := by
  obtain ⟨cf, i, k, f, st, cell, h1, h2, h3, h4, h5, r⟩ := F
  exact ⟨cf, i, k, f, st, cell, h1, h2, h3, h4, K.2.1 _ _ h5 (fun q => nomatch q), r⟩
end Own
end Jvm.RoadKit
namespace Jvm.Pilot.@@N@@
open Jvm Jvm.ClassFile Sem Op Lib Jvm.Free Jvm.Stand Jvm.LawKit Jvm.RoadKit Bundle Jvm.Pilot.@@N@@.Jvm.D
theorem own_d1_0 : decode jdk_29_method_69_code 0 = .ok (.iload_n 0, 1) := by decide +kernel
theorem own_d1_1 : decode jdk_29_method_69_code 1 = .ok (.iload_n 1, 1) := by decide +kernel
theorem own_d1_2 : decode jdk_29_method_69_code 2 = .ok (.if_icmp .gt 7, 3) := by decide +kernel
theorem own_d1_5 : decode jdk_29_method_69_code 5 = .ok (.iload_n 0, 1) := by decide +kernel
theorem own_d1_6 : decode jdk_29_method_69_code 6 = .ok (.goto 4, 3) := by decide +kernel
theorem own_d1_9 : decode jdk_29_method_69_code 9 = .ok (.iload_n 1, 1) := by decide +kernel
theorem own_d1_10 : decode jdk_29_method_69_code 10 = .ok (.ireturn, 1) := by decide +kernel
def own_f1 (p0 : Int32) (p1 : Int32) : Int32 := (if p1 < p0 then p1 else p0)
theorem own_ef1 (m : MethodId) (p0 : Int32) (p1 : Int32) : entryFrame m #[(.int p0), (.int p1)] 2 = mkF m 0 #[.val (.int p0), .val (.int p1)] [] := by first | (simp [entryFrame, mkF, argsToLocals, Value.category]; done) | rfl
def own_Q1 (Z : State) (p0 : Int32) (p1 : Int32) (h0 : Heap) (n0 : Nat) (v : Option Value) (h : Heap) (L : List Loc) : Prop := v = some (.int (own_f1 p0 p1)) ∧ Fr n0 L ∧ h = h0
set_option maxRecDepth 65536 in
set_option maxHeartbeats 40000000 in
theorem own_rm1 (l : Launch) (Z : State) (aA : Array Value) (hw : ∀ d ∈ tables_1, d.before aA Z = true) (ws : List Jvm.Cond) (p0 : Int32) (p1 : Int32) (h0 : Heap) (n0 : Nat) (Z0 : n0 ≤ h0.size) :
    MetFree l (⟨"java/lang/Math", "min", "(II)I"⟩ : MethodName) (head1 (Jvm.Cond.code (⟨"java/lang/Math", "min", "(II)I"⟩ : MethodName) jdk_29_method_69_code 2 (some .int) :: ws) ({ frames := 0, cells := 0, slots := 0, locals := 0 } : Room)) (fun a U => a = #[(.int p0), (.int p1)] ∧ Z.Warmed39 U.vm ∧ U.heap = h0) (fun _ _ _ _ _ => True) (fun _ U o U' => ∃ v L, o = .returned v ∧ own_Q1 Z p0 p1 h0 n0 v U'.heap L ∧ FrameEnd U o U' L ({ frames := 0, cells := 0, slots := 0, locals := 0 } : Room).cells ({ frames := 0, cells := 0, slots := 0, locals := 0 } : Room).slots) := by
  refine MetFree.of_bodySF (Jvm.Free.JP.mathPlain rfl (by decide +kernel)) hisR ?_
  intro p e s m args below meth c s₁ Bd hml0 hP hK
  obtain ⟨rfl, hZ, hh⟩ := hP
  have hx := Bd.exec
  have hby := Bd.bytes
  have hlk : meth.locks = false := Bd.notSynchronized
  have hml : c.maxLocals = 2 := hml0
  have hown : s.vm.findClass "java/lang/Math" = some m.cls := findClass_of_methodNamed Bd.named
  have hnm := (name_of_methodNamed Bd.named Bd.method).1
  have X0 : Stand p l e ({ frames := 0, cells := 0, slots := 0, locals := 0 } : Room) s m #[(.int p0), (.int p1)] below meth c s₁ [] 0 0 := Stand.of_body Bd
  have e0 : s₁.heap = h0 := by rw [← hh, Bd.state]; rfl
  have N0 := Fr.nil n0
  show OG p e below (FE s ({ frames := 0, cells := 0, slots := 0, locals := 0 } : Room).cells ({ frames := 0, cells := 0, slots := 0, locals := 0 } : Room).slots) (own_Q1 Z p0 p1 h0 n0) (s₁.setTop (entryFrame m #[(.int p0), (.int p1)] 2))
  refine og_of (fun _ k => castTop (own_ef1 m p0 p1) k) ?_
  refine o_iloadN X0 hx rfl (hb hby own_d1_0) rfl ?_
  refine o_iloadN X0 hx rfl (hb hby own_d1_1) rfl ?_
  by_cases hc1 : p1 < p0
  · skip
    refine o_icmpY (pc' := 9) X0 hx (hb hby own_d1_2) (tlt hc1).2.2.1 (by decide) (by decide) ?_
    refine o_iloadN X0 hx rfl (hb hby own_d1_9) rfl ?_
    exact o_retI X0 hx Bd.returns (own_lv X0 hlk (by decide) (by decide)) (hb hby own_d1_10) ⟨(by rw [own_f1, if_pos hc1]), N0, e0⟩
  · skip
    refine o_icmpN (pc' := 5) X0 hx rfl (hb hby own_d1_2) (flt hc1).2.2.1 ?_
    refine o_iloadN X0 hx rfl (hb hby own_d1_5) rfl ?_
    refine o_goto (pc' := 10) X0 hx (hb hby own_d1_6) (by decide) (by decide) ?_
    exact o_retI X0 hx Bd.returns (own_lv X0 hlk (by decide) (by decide)) (hb hby own_d1_10) ⟨(by rw [own_f1, if_neg hc1]), N0, e0⟩
theorem own_d2_0 : decode jdk_29_method_65_code 0 = .ok (.iload_n 0, 1) := by decide +kernel
theorem own_d2_1 : decode jdk_29_method_65_code 1 = .ok (.iload_n 1, 1) := by decide +kernel
theorem own_d2_2 : decode jdk_29_method_65_code 2 = .ok (.if_icmp .lt 7, 3) := by decide +kernel
theorem own_d2_5 : decode jdk_29_method_65_code 5 = .ok (.iload_n 0, 1) := by decide +kernel
theorem own_d2_6 : decode jdk_29_method_65_code 6 = .ok (.goto 4, 3) := by decide +kernel
theorem own_d2_9 : decode jdk_29_method_65_code 9 = .ok (.iload_n 1, 1) := by decide +kernel
theorem own_d2_10 : decode jdk_29_method_65_code 10 = .ok (.ireturn, 1) := by decide +kernel
def own_f2 (p0 : Int32) (p1 : Int32) : Int32 := (if p0 < p1 then p1 else p0)
theorem own_ef2 (m : MethodId) (p0 : Int32) (p1 : Int32) : entryFrame m #[(.int p0), (.int p1)] 2 = mkF m 0 #[.val (.int p0), .val (.int p1)] [] := by first | (simp [entryFrame, mkF, argsToLocals, Value.category]; done) | rfl
def own_Q2 (Z : State) (p0 : Int32) (p1 : Int32) (h0 : Heap) (n0 : Nat) (v : Option Value) (h : Heap) (L : List Loc) : Prop := v = some (.int (own_f2 p0 p1)) ∧ Fr n0 L ∧ h = h0
set_option maxRecDepth 65536 in
set_option maxHeartbeats 40000000 in
theorem own_rm2 (l : Launch) (Z : State) (aA : Array Value) (hw : ∀ d ∈ tables_1, d.before aA Z = true) (ws : List Jvm.Cond) (p0 : Int32) (p1 : Int32) (h0 : Heap) (n0 : Nat) (Z0 : n0 ≤ h0.size) :
    MetFree l (⟨"java/lang/Math", "max", "(II)I"⟩ : MethodName) (head1 (Jvm.Cond.code (⟨"java/lang/Math", "max", "(II)I"⟩ : MethodName) jdk_29_method_65_code 2 (some .int) :: ws) ({ frames := 0, cells := 0, slots := 0, locals := 0 } : Room)) (fun a U => a = #[(.int p0), (.int p1)] ∧ Z.Warmed39 U.vm ∧ U.heap = h0) (fun _ _ _ _ _ => True) (fun _ U o U' => ∃ v L, o = .returned v ∧ own_Q2 Z p0 p1 h0 n0 v U'.heap L ∧ FrameEnd U o U' L ({ frames := 0, cells := 0, slots := 0, locals := 0 } : Room).cells ({ frames := 0, cells := 0, slots := 0, locals := 0 } : Room).slots) := by
  refine MetFree.of_bodySF (Jvm.Free.JP.mathPlain rfl (by decide +kernel)) hisR ?_
  intro p e s m args below meth c s₁ Bd hml0 hP hK
  obtain ⟨rfl, hZ, hh⟩ := hP
  have hx := Bd.exec
  have hby := Bd.bytes
  have hlk : meth.locks = false := Bd.notSynchronized
  have hml : c.maxLocals = 2 := hml0
  have hown : s.vm.findClass "java/lang/Math" = some m.cls := findClass_of_methodNamed Bd.named
  have hnm := (name_of_methodNamed Bd.named Bd.method).1
  have X0 : Stand p l e ({ frames := 0, cells := 0, slots := 0, locals := 0 } : Room) s m #[(.int p0), (.int p1)] below meth c s₁ [] 0 0 := Stand.of_body Bd
  have e0 : s₁.heap = h0 := by rw [← hh, Bd.state]; rfl
  have N0 := Fr.nil n0
  show OG p e below (FE s ({ frames := 0, cells := 0, slots := 0, locals := 0 } : Room).cells ({ frames := 0, cells := 0, slots := 0, locals := 0 } : Room).slots) (own_Q2 Z p0 p1 h0 n0) (s₁.setTop (entryFrame m #[(.int p0), (.int p1)] 2))
  refine og_of (fun _ k => castTop (own_ef2 m p0 p1) k) ?_
  refine o_iloadN X0 hx rfl (hb hby own_d2_0) rfl ?_
  refine o_iloadN X0 hx rfl (hb hby own_d2_1) rfl ?_
  by_cases hc1 : p0 < p1
  · skip
    refine o_icmpY (pc' := 9) X0 hx (hb hby own_d2_2) (tlt hc1).1 (by decide) (by decide) ?_
    refine o_iloadN X0 hx rfl (hb hby own_d2_9) rfl ?_
    exact o_retI X0 hx Bd.returns (own_lv X0 hlk (by decide) (by decide)) (hb hby own_d2_10) ⟨(by rw [own_f2, if_pos hc1]), N0, e0⟩
  · skip
    refine o_icmpN (pc' := 5) X0 hx rfl (hb hby own_d2_2) (flt hc1).1 ?_
    refine o_iloadN X0 hx rfl (hb hby own_d2_5) rfl ?_
    refine o_goto (pc' := 10) X0 hx (hb hby own_d2_6) (by decide) (by decide) ?_
    exact o_retI X0 hx Bd.returns (own_lv X0 hlk (by decide) (by decide)) (hb hby own_d2_10) ⟨(by rw [own_f2, if_neg hc1]), N0, e0⟩
theorem own_d4_0 : decode jdk_30_method_1_code 0 = .ok (.aload_n 0, 1) := by decide +kernel
theorem own_d4_1 : decode jdk_30_method_1_code 1 = .ok (.invokespecial 1, 3) := by decide +kernel
theorem own_d4_4 : decode jdk_30_method_1_code 4 = .ok (.return_, 1) := by decide +kernel
theorem own_ef4 (m : MethodId) (a0 : Addr) : entryFrame m #[(.ref a0)] 1 = mkF m 0 #[.val (.ref a0)] [] := by first | (simp [entryFrame, mkF, argsToLocals, Value.category]; done) | rfl
def own_Q4 (Z : State) (a0 : Addr) (h0 : Heap) (n0 : Nat) (v : Option Value) (h : Heap) (L : List Loc) : Prop := v = none ∧ Fr n0 L ∧ h = h0
theorem own_pn17 : plainName "java/lang/Record" = true := by first | (simp [plainName, overriddenIn]; done) | decide +kernel
set_option maxRecDepth 65536 in
set_option maxHeartbeats 40000000 in
theorem own_rm4 (l : Launch) (Z : State) (aA : Array Value) (hw : ∀ d ∈ tables_1, d.before aA Z = true) (ws : List Jvm.Cond) (a0 : Addr) (h0 : Heap) (n0 : Nat) (Z0 : n0 ≤ h0.size) :
    MetFree l (⟨"java/lang/Record", "<init>", "()V"⟩ : MethodName) (head1 (Jvm.Cond.code (⟨"java/lang/Record", "<init>", "()V"⟩ : MethodName) jdk_30_method_1_code 1 none :: ws) ({ frames := 1, cells := 0, slots := 0, locals := 12 } : Room)) (fun a U => a = #[(.ref a0)] ∧ Z.Warmed39 U.vm ∧ U.heap = h0) (fun _ _ _ _ _ => True) (fun _ U o U' => ∃ v L, o = .returned v ∧ own_Q4 Z a0 h0 n0 v U'.heap L ∧ FrameEnd U o U' L ({ frames := 1, cells := 0, slots := 0, locals := 12 } : Room).cells ({ frames := 1, cells := 0, slots := 0, locals := 12 } : Room).slots) := by
  refine MetFree.of_bodySF (plainFor_of_name own_pn17) hisR ?_
  intro p e s m args below meth c s₁ Bd hml0 hP hK
  obtain ⟨rfl, hZ, hh⟩ := hP
  have hx := Bd.exec
  have hby := Bd.bytes
  have hlk : meth.locks = false := Bd.notSynchronized
  have hml : c.maxLocals = 1 := hml0
  have hown : s.vm.findClass "java/lang/Record" = some m.cls := findClass_of_methodNamed Bd.named
  have hnm := (name_of_methodNamed Bd.named Bd.method).1
  have X0 : Stand p l e ({ frames := 1, cells := 0, slots := 0, locals := 12 } : Room) s m #[(.ref a0)] below meth c s₁ [] 0 0 := Stand.of_body Bd
  have e0 : s₁.heap = h0 := by rw [← hh, Bd.state]; rfl
  have N0 := Fr.nil n0
  show OG p e below (FE s ({ frames := 1, cells := 0, slots := 0, locals := 12 } : Room).cells ({ frames := 1, cells := 0, slots := 0, locals := 12 } : Room).slots) (own_Q4 Z a0 h0 n0) (s₁.setTop (entryFrame m #[(.ref a0)] 1))
  refine og_of (fun _ k => castTop (own_ef4 m a0) k) ?_
  refine o_aloadN X0 hx rfl (hb hby own_d4_0) rfl rfl ?_
  obtain ⟨T1, X1, e1, st1⟩ := initO X0 hx hZ hown (hw _ (List.mem_of_getElem? (i := 26) rfl)) (hw _ (List.mem_of_getElem? (i := 27) rfl)) (hw _ (List.mem_of_getElem? (i := 28) rfl)) e0 (g := (mkF m 1 #[.val (.ref a0)] [(.ref a0)])) rfl (by rw [hml]; rfl) rfl (hb hby own_d4_1) (by decide) (W := 0) (by show 2 * 0 + _ ≤ _; exact Nat.le_of_eq rfl) (by decide)
  refine og_of st1 ?_
  show OG p e below _ _ (T1.setTop (mkF m 4 #[.val (.ref a0)] []))
  exact o_ret0 X1 hx Bd.returns (own_lv X1 hlk (by decide) (by decide)) (hb hby own_d4_4) ⟨rfl, N0, e1⟩
theorem own_pd0 : parseMethodDescriptor "()V" = some ⟨[], none⟩ := by decide +kernel
theorem own_d3_0 : decode prog_45_method_1_code 0 = .ok (.aload_n 0, 1) := by decide +kernel
theorem own_d3_1 : decode prog_45_method_1_code 1 = .ok (.invokespecial 1, 3) := by decide +kernel
theorem own_d3_4 : decode prog_45_method_1_code 4 = .ok (.aload_n 0, 1) := by decide +kernel
theorem own_d3_5 : decode prog_45_method_1_code 5 = .ok (.aload_n 1, 1) := by decide +kernel
theorem own_d3_6 : decode prog_45_method_1_code 6 = .ok (.putfield 7, 3) := by decide +kernel
theorem own_d3_9 : decode prog_45_method_1_code 9 = .ok (.aload_n 0, 1) := by decide +kernel
theorem own_d3_10 : decode prog_45_method_1_code 10 = .ok (.iload_n 2, 1) := by decide +kernel
theorem own_d3_11 : decode prog_45_method_1_code 11 = .ok (.putfield 13, 3) := by decide +kernel
theorem own_d3_14 : decode prog_45_method_1_code 14 = .ok (.aload_n 0, 1) := by decide +kernel
theorem own_d3_15 : decode prog_45_method_1_code 15 = .ok (.iload_n 3, 1) := by decide +kernel
theorem own_d3_16 : decode prog_45_method_1_code 16 = .ok (.putfield 17, 3) := by decide +kernel
theorem own_d3_19 : decode prog_45_method_1_code 19 = .ok (.aload_n 0, 1) := by decide +kernel
theorem own_d3_20 : decode prog_45_method_1_code 20 = .ok (.iload 4, 2) := by decide +kernel
theorem own_d3_22 : decode prog_45_method_1_code 22 = .ok (.putfield 20, 3) := by decide +kernel
theorem own_d3_25 : decode prog_45_method_1_code 25 = .ok (.return_, 1) := by decide +kernel
theorem own_ef3 (m : MethodId) (a0 : Addr) (a1 : Addr) (p2 : Int32) (p3 : Int32) (p4 : Int32) : entryFrame m #[(.ref a0), (.ref a1), (.int p2), (.int p3), (.int p4)] 5 = mkF m 0 #[.val (.ref a0), .val (.ref a1), .val (.int p2), .val (.int p3), .val (.int p4)] [] := by first | (simp [entryFrame, mkF, argsToLocals, Value.category]; done) | rfl
def own_Q3 (Z : State) (a0 : Addr) (a1 : Addr) (p2 : Int32) (p3 : Int32) (p4 : Int32) (h0 : Heap) (n0 : Nat) (v : Option Value) (h : Heap) (L : List Loc) : Prop := v = none ∧ Fr n0 L ∧ Keep h0 h [a0] ∧ Fld Z h a0 "com/example/fact4/fact4/model/TimeExpression" "text" "Ljava/lang/String;" (.ref a1) ∧ Fld Z h a0 "com/example/fact4/fact4/model/TimeExpression" "from" "I" (.int p2) ∧ Fld Z h a0 "com/example/fact4/fact4/model/TimeExpression" "to" "I" (.int p3) ∧ Fld Z h a0 "com/example/fact4/fact4/model/TimeExpression" "agreedFrom" "I" (.int p4)
theorem own_pn33 : plainName "com/example/fact4/fact4/model/TimeExpression" = true := by first | (simp [plainName, overriddenIn]; done) | decide +kernel
set_option maxRecDepth 65536 in
set_option maxHeartbeats 40000000 in
theorem own_rm3 (l : Launch) (Z : State) (aA : Array Value) (hw : ∀ d ∈ tables_1, d.before aA Z = true) (ws : List Jvm.Cond) (a0 : Addr) (a1 : Addr) (p2 : Int32) (p3 : Int32) (p4 : Int32) (h0 : Heap) (n0 : Nat) (Z0 : n0 ≤ h0.size) (pre0 : Exa Z h0 a0 "com/example/fact4/fact4/model/TimeExpression") (pre1 : n0 ≤ a0) (pre2 : Fld Z h0 a0 "com/example/fact4/fact4/model/TimeExpression" "text" "Ljava/lang/String;" .null) (pre3 : Fld Z h0 a0 "com/example/fact4/fact4/model/TimeExpression" "from" "I" (.int (0 : Int32))) (pre4 : Fld Z h0 a0 "com/example/fact4/fact4/model/TimeExpression" "to" "I" (.int (0 : Int32))) (pre5 : Fld Z h0 a0 "com/example/fact4/fact4/model/TimeExpression" "agreedFrom" "I" (.int (0 : Int32))) :
    MetFree l (⟨"com/example/fact4/fact4/model/TimeExpression", "<init>", "(Ljava/lang/String;III)V"⟩ : MethodName) (head1 (Jvm.Cond.code (⟨"com/example/fact4/fact4/model/TimeExpression", "<init>", "(Ljava/lang/String;III)V"⟩ : MethodName) prog_45_method_1_code 5 none :: ws) ({ frames := 2, cells := 0, slots := 0, locals := 24 } : Room)) (fun a U => a = #[(.ref a0), (.ref a1), (.int p2), (.int p3), (.int p4)] ∧ Z.Warmed39 U.vm ∧ U.heap = h0) (fun _ _ _ _ _ => True) (fun _ U o U' => ∃ v L, o = .returned v ∧ own_Q3 Z a0 a1 p2 p3 p4 h0 n0 v U'.heap L ∧ FrameEnd U o U' L ({ frames := 2, cells := 0, slots := 0, locals := 24 } : Room).cells ({ frames := 2, cells := 0, slots := 0, locals := 24 } : Room).slots) := by
  refine MetFree.of_bodySF (plainFor_of_name own_pn33) hisR ?_
  intro p e s m args below meth c s₁ Bd hml0 hP hK
  obtain ⟨rfl, hZ, hh⟩ := hP
  have hx := Bd.exec
  have hby := Bd.bytes
  have hlk : meth.locks = false := Bd.notSynchronized
  have hml : c.maxLocals = 5 := hml0
  have hown : s.vm.findClass "com/example/fact4/fact4/model/TimeExpression" = some m.cls := findClass_of_methodNamed Bd.named
  have hnm := (name_of_methodNamed Bd.named Bd.method).1
  have X0 : Stand p l e ({ frames := 2, cells := 0, slots := 0, locals := 24 } : Room) s m #[(.ref a0), (.ref a1), (.int p2), (.int p3), (.int p4)] below meth c s₁ [] 0 0 := Stand.of_body Bd
  have e0 : s₁.heap = h0 := by rw [← hh, Bd.state]; rfl
  have N0 := Fr.nil n0
  show OG p e below (FE s ({ frames := 2, cells := 0, slots := 0, locals := 24 } : Room).cells ({ frames := 2, cells := 0, slots := 0, locals := 24 } : Room).slots) (own_Q3 Z a0 a1 p2 p3 p4 h0 n0) (s₁.setTop (entryFrame m #[(.ref a0), (.ref a1), (.int p2), (.int p3), (.int p4)] 5))
  refine og_of (fun _ k => castTop (own_ef3 m a0 a1 p2 p3 p4) k) ?_
  refine o_aloadN X0 hx rfl (hb hby own_d3_0) rfl rfl ?_
  obtain ⟨_, _, ⟨T1, L1, k1, n1⟩, -, X1, ⟨Lc1, hQ1, l1, y1, z1⟩, st1⟩ := X0.specialBack hx (y := (⟨"java/lang/Record", "<init>", "()V"⟩ : MethodName)) rfl hown (mvT hZ (hw _ (List.mem_of_getElem? (i := 21) rfl))) (mvT hZ (hw _ (List.mem_of_getElem? (i := 22) rfl))) (mvT hZ (hw _ (List.mem_of_getElem? (i := 25) rfl))) (by decide) (backOf (W := 0) (own_rm4 l Z aA hw [] a0 h0 n0 Z0) hZ (hw _ (List.mem_of_getElem? (i := 25) rfl)) (hw _ (List.mem_of_getElem? (i := 24) rfl)) (by decide) (by decide)) (g := (mkF m 1 #[.val (.ref a0), .val (.ref a1), .val (.int p2), .val (.int p3), .val (.int p4)] [(.ref a0)])) rfl (by rw [hml]; rfl) (Steps.refl _) (a := a0) (argsL := []) (rest := []) (lenOf own_pd0 rfl) rfl (by show 2 * 0 + _ ≤ _; exact Nat.le_of_eq rfl) (hb hby own_d3_1) (fun _ _ => ⟨rfl, e0, Nat.le_of_ble_eq_true rfl, Nat.le_of_ble_eq_true rfl⟩)
  dsimp only [Pt.U, Pt.locs, Pt.cells, Pt.slots] at X1 l1 y1 z1 st1 hQ1
  subst l1 y1 z1
  obtain ⟨rfl, N1q, ee1⟩ := hQ1
  have N2 := Fr.app N0 N1q
  refine og_tr st1 ?_
  show OG p e below _ _ (T1.setTop (mkF m 4 #[.val (.ref a0), .val (.ref a1), .val (.int p2), .val (.int p3), .val (.int p4)] []))
  refine o_aloadN X1 hx rfl (hb hby own_d3_4) rfl rfl ?_
  refine o_aloadN X1 hx rfl (hb hby own_d3_5) rfl rfl ?_
  obtain ⟨T3, h3, X3, e3, W3, st3⟩ := putF X1 hx hZ hown (host := "") (Or.inl (hw _ (List.mem_of_getElem? (i := 29) rfl))) Via.refl ee1 pre2 pre0 (Or.inr ⟨(hw _ (List.mem_of_getElem? (i := 30) rfl)), rfl, hnm⟩) (hw _ (List.mem_of_getElem? (i := 8) rfl)) (ty := (.object "java/lang/String")) (by decide) rfl rfl (g := (mkF m 6 #[.val (.ref a0), .val (.ref a1), .val (.int p2), .val (.int p3), .val (.int p4)] [(.ref a1), (.ref a0)])) rfl rfl (hb hby own_d3_6)
  have Fw3 := pre2.same W3
  have N3 := Fr.snoc X3 N2 pre1
  have Kp4 : Keep h0 h3 [a0] := (Keep.refl h0 [a0]).wr W3 (Or.inl (List.mem_of_getElem? (i := 0) rfl))
  refine og_of st3 ?_
  show OG p e below _ _ (T3.setTop (mkF m 9 #[.val (.ref a0), .val (.ref a1), .val (.int p2), .val (.int p3), .val (.int p4)] []))
  refine o_aloadN X3 hx rfl (hb hby own_d3_9) rfl rfl ?_
  refine o_iloadN X3 hx rfl (hb hby own_d3_10) rfl ?_
  have Fc5 : Exa Z h3 a0 "com/example/fact4/fact4/model/TimeExpression" := (Exa.wr W3 pre0)
  have Fc6 : Fld Z h3 a0 "com/example/fact4/fact4/model/TimeExpression" "from" "I" (.int (0 : Int32)) := (Fld.other W3 pre3 (Or.inr (slot_ne (Or.inr (hw _ (List.mem_of_getElem? (i := 32) rfl))) (Or.inr (hw _ (List.mem_of_getElem? (i := 30) rfl))) (by decide) (t := .int) (t' := (.object "java/lang/String")) (by decide) (by decide))))
  obtain ⟨T7, h7, X7, e7, W7, st7⟩ := putF X3 hx hZ hown (host := "") (Or.inl (hw _ (List.mem_of_getElem? (i := 31) rfl))) Via.refl e3 Fc6 Fc5 (Or.inr ⟨(hw _ (List.mem_of_getElem? (i := 32) rfl)), rfl, hnm⟩) (hw _ (List.mem_of_getElem? (i := 8) rfl)) (ty := .int) (by decide) rfl rfl (g := (mkF m 11 #[.val (.ref a0), .val (.ref a1), .val (.int p2), .val (.int p3), .val (.int p4)] [(.int p2), (.ref a0)])) rfl rfl (hb hby own_d3_11)
  have Fw7 := Fc6.same W7
  have N7 := Fr.snoc X7 N3 pre1
  have Kp8 : Keep h0 h7 [a0] := Kp4.wr W7 (Or.inl (List.mem_of_getElem? (i := 0) rfl))
  refine og_of st7 ?_
  show OG p e below _ _ (T7.setTop (mkF m 14 #[.val (.ref a0), .val (.ref a1), .val (.int p2), .val (.int p3), .val (.int p4)] []))
  refine o_aloadN X7 hx rfl (hb hby own_d3_14) rfl rfl ?_
  refine o_iloadN X7 hx rfl (hb hby own_d3_15) rfl ?_
  have Fc9 : Exa Z h7 a0 "com/example/fact4/fact4/model/TimeExpression" := (Exa.wr W7 Fc5)
  have Fc10 : Fld Z h7 a0 "com/example/fact4/fact4/model/TimeExpression" "to" "I" (.int (0 : Int32)) := (Fld.other W7 (Fld.other W3 pre4 (Or.inr (slot_ne (Or.inr (hw _ (List.mem_of_getElem? (i := 34) rfl))) (Or.inr (hw _ (List.mem_of_getElem? (i := 30) rfl))) (by decide) (t := .int) (t' := (.object "java/lang/String")) (by decide) (by decide)))) (Or.inr (slot_ne (Or.inr (hw _ (List.mem_of_getElem? (i := 34) rfl))) (Or.inr (hw _ (List.mem_of_getElem? (i := 32) rfl))) (by decide) (t := .int) (t' := .int) (by decide) (by decide))))
  obtain ⟨T11, h11, X11, e11, W11, st11⟩ := putF X7 hx hZ hown (host := "") (Or.inl (hw _ (List.mem_of_getElem? (i := 33) rfl))) Via.refl e7 Fc10 Fc9 (Or.inr ⟨(hw _ (List.mem_of_getElem? (i := 34) rfl)), rfl, hnm⟩) (hw _ (List.mem_of_getElem? (i := 8) rfl)) (ty := .int) (by decide) rfl rfl (g := (mkF m 16 #[.val (.ref a0), .val (.ref a1), .val (.int p2), .val (.int p3), .val (.int p4)] [(.int p3), (.ref a0)])) rfl rfl (hb hby own_d3_16)
  have Fw11 := Fc10.same W11
  have N11 := Fr.snoc X11 N7 pre1
  have Kp12 : Keep h0 h11 [a0] := Kp8.wr W11 (Or.inl (List.mem_of_getElem? (i := 0) rfl))
  refine og_of st11 ?_
  show OG p e below _ _ (T11.setTop (mkF m 19 #[.val (.ref a0), .val (.ref a1), .val (.int p2), .val (.int p3), .val (.int p4)] []))
  refine o_aloadN X11 hx rfl (hb hby own_d3_19) rfl rfl ?_
  refine o_iload X11 hx rfl (hb hby own_d3_20) rfl ?_
  have Fc13 : Exa Z h11 a0 "com/example/fact4/fact4/model/TimeExpression" := (Exa.wr W11 Fc9)
  have Fc14 : Fld Z h11 a0 "com/example/fact4/fact4/model/TimeExpression" "agreedFrom" "I" (.int (0 : Int32)) := (Fld.other W11 (Fld.other W7 (Fld.other W3 pre5 (Or.inr (slot_ne (Or.inr (hw _ (List.mem_of_getElem? (i := 36) rfl))) (Or.inr (hw _ (List.mem_of_getElem? (i := 30) rfl))) (by decide) (t := .int) (t' := (.object "java/lang/String")) (by decide) (by decide)))) (Or.inr (slot_ne (Or.inr (hw _ (List.mem_of_getElem? (i := 36) rfl))) (Or.inr (hw _ (List.mem_of_getElem? (i := 32) rfl))) (by decide) (t := .int) (t' := .int) (by decide) (by decide)))) (Or.inr (slot_ne (Or.inr (hw _ (List.mem_of_getElem? (i := 36) rfl))) (Or.inr (hw _ (List.mem_of_getElem? (i := 34) rfl))) (by decide) (t := .int) (t' := .int) (by decide) (by decide))))
  obtain ⟨T15, h15, X15, e15, W15, st15⟩ := putF X11 hx hZ hown (host := "") (Or.inl (hw _ (List.mem_of_getElem? (i := 35) rfl))) Via.refl e11 Fc14 Fc13 (Or.inr ⟨(hw _ (List.mem_of_getElem? (i := 36) rfl)), rfl, hnm⟩) (hw _ (List.mem_of_getElem? (i := 8) rfl)) (ty := .int) (by decide) rfl rfl (g := (mkF m 22 #[.val (.ref a0), .val (.ref a1), .val (.int p2), .val (.int p3), .val (.int p4)] [(.int p4), (.ref a0)])) rfl rfl (hb hby own_d3_22)
  have Fw15 := Fc14.same W15
  have N15 := Fr.snoc X15 N11 pre1
  have Kp16 : Keep h0 h15 [a0] := Kp12.wr W15 (Or.inl (List.mem_of_getElem? (i := 0) rfl))
  refine og_of st15 ?_
  show OG p e below _ _ (T15.setTop (mkF m 25 #[.val (.ref a0), .val (.ref a1), .val (.int p2), .val (.int p3), .val (.int p4)] []))
  have Fc17 : Fld Z h15 a0 "com/example/fact4/fact4/model/TimeExpression" "text" "Ljava/lang/String;" (.ref a1) := (Fld.other W15 (Fld.other W11 (Fld.other W7 Fw3 (Or.inr (slot_ne (Or.inr (hw _ (List.mem_of_getElem? (i := 30) rfl))) (Or.inr (hw _ (List.mem_of_getElem? (i := 32) rfl))) (by decide) (t := (.object "java/lang/String")) (t' := .int) (by decide) (by decide)))) (Or.inr (slot_ne (Or.inr (hw _ (List.mem_of_getElem? (i := 30) rfl))) (Or.inr (hw _ (List.mem_of_getElem? (i := 34) rfl))) (by decide) (t := (.object "java/lang/String")) (t' := .int) (by decide) (by decide)))) (Or.inr (slot_ne (Or.inr (hw _ (List.mem_of_getElem? (i := 30) rfl))) (Or.inr (hw _ (List.mem_of_getElem? (i := 36) rfl))) (by decide) (t := (.object "java/lang/String")) (t' := .int) (by decide) (by decide))))
  have Fc18 : Fld Z h15 a0 "com/example/fact4/fact4/model/TimeExpression" "from" "I" (.int p2) := (Fld.other W15 (Fld.other W11 Fw7 (Or.inr (slot_ne (Or.inr (hw _ (List.mem_of_getElem? (i := 32) rfl))) (Or.inr (hw _ (List.mem_of_getElem? (i := 34) rfl))) (by decide) (t := .int) (t' := .int) (by decide) (by decide)))) (Or.inr (slot_ne (Or.inr (hw _ (List.mem_of_getElem? (i := 32) rfl))) (Or.inr (hw _ (List.mem_of_getElem? (i := 36) rfl))) (by decide) (t := .int) (t' := .int) (by decide) (by decide))))
  have Fc19 : Fld Z h15 a0 "com/example/fact4/fact4/model/TimeExpression" "to" "I" (.int p3) := (Fld.other W15 Fw11 (Or.inr (slot_ne (Or.inr (hw _ (List.mem_of_getElem? (i := 34) rfl))) (Or.inr (hw _ (List.mem_of_getElem? (i := 36) rfl))) (by decide) (t := .int) (t' := .int) (by decide) (by decide))))
  exact o_ret0 X15 hx Bd.returns (own_lv X15 hlk (by decide) (by decide)) (hb hby own_d3_25) ⟨rfl, N15, (by rw [e15]; exact Kp16), (by rw [e15]; exact Fc17), (by rw [e15]; exact Fc18), (by rw [e15]; exact Fc19), (by rw [e15]; exact Fw15)⟩
theorem own_d6_0 : decode prog_45_method_2_code 0 = .ok (.aload_n 0, 1) := by decide +kernel
theorem own_d6_1 : decode prog_45_method_2_code 1 = .ok (.getfield 13, 3) := by decide +kernel
theorem own_d6_4 : decode prog_45_method_2_code 4 = .ok (.aload_n 1, 1) := by decide +kernel
theorem own_d6_5 : decode prog_45_method_2_code 5 = .ok (.getfield 17, 3) := by decide +kernel
theorem own_d6_8 : decode prog_45_method_2_code 8 = .ok (.if_icmp .gt 18, 3) := by decide +kernel
theorem own_d6_11 : decode prog_45_method_2_code 11 = .ok (.aload_n 1, 1) := by decide +kernel
theorem own_d6_12 : decode prog_45_method_2_code 12 = .ok (.getfield 13, 3) := by decide +kernel
theorem own_d6_15 : decode prog_45_method_2_code 15 = .ok (.aload_n 0, 1) := by decide +kernel
theorem own_d6_16 : decode prog_45_method_2_code 16 = .ok (.getfield 17, 3) := by decide +kernel
theorem own_d6_19 : decode prog_45_method_2_code 19 = .ok (.if_icmp .gt 7, 3) := by decide +kernel
theorem own_d6_22 : decode prog_45_method_2_code 22 = .ok (.iconst 1, 1) := by decide +kernel
theorem own_d6_23 : decode prog_45_method_2_code 23 = .ok (.goto 4, 3) := by decide +kernel
theorem own_d6_26 : decode prog_45_method_2_code 26 = .ok (.iconst 0, 1) := by decide +kernel
theorem own_d6_27 : decode prog_45_method_2_code 27 = .ok (.ireturn, 1) := by decide +kernel
def own_f6 (a0 : Addr) (a1 : Addr) (f1 : Int32) (t1 : Int32) (f2 : Int32) (t2 : Int32) : Int32 := (if t2 < f1 then (0 : Int32) else (if t1 < f2 then (0 : Int32) else (1 : Int32)))
theorem own_ef6 (m : MethodId) (a0 : Addr) (a1 : Addr) : entryFrame m #[(.ref a0), (.ref a1)] 2 = mkF m 0 #[.val (.ref a0), .val (.ref a1)] [] := by first | (simp [entryFrame, mkF, argsToLocals, Value.category]; done) | rfl
def own_Q6 (Z : State) (a0 : Addr) (a1 : Addr) (f1 : Int32) (t1 : Int32) (f2 : Int32) (t2 : Int32) (h0 : Heap) (n0 : Nat) (v : Option Value) (h : Heap) (L : List Loc) : Prop := v = some (.int (own_f6 a0 a1 f1 t1 f2 t2)) ∧ Fr n0 L ∧ h = h0
set_option maxRecDepth 65536 in
set_option maxHeartbeats 40000000 in
theorem own_rm6 (l : Launch) (Z : State) (aA : Array Value) (hw : ∀ d ∈ tables_1, d.before aA Z = true) (ws : List Jvm.Cond) (a0 : Addr) (a1 : Addr) (f1 : Int32) (t1 : Int32) (f2 : Int32) (t2 : Int32) (h0 : Heap) (n0 : Nat) (Z0 : n0 ≤ h0.size) (pre0 : Fld Z h0 a0 "com/example/fact4/fact4/model/TimeExpression" "from" "I" (.int f1)) (pre1 : Fld Z h0 a0 "com/example/fact4/fact4/model/TimeExpression" "to" "I" (.int t1)) (pre2 : Fld Z h0 a1 "com/example/fact4/fact4/model/TimeExpression" "from" "I" (.int f2)) (pre3 : Fld Z h0 a1 "com/example/fact4/fact4/model/TimeExpression" "to" "I" (.int t2)) :
    MetFree l (⟨"com/example/fact4/fact4/model/TimeExpression", "overlaps", "(Lcom/example/fact4/fact4/model/TimeExpression;)Z"⟩ : MethodName) (head1 (Jvm.Cond.code (⟨"com/example/fact4/fact4/model/TimeExpression", "overlaps", "(Lcom/example/fact4/fact4/model/TimeExpression;)Z"⟩ : MethodName) prog_45_method_2_code 2 (some .boolean) :: ws) ({ frames := 0, cells := 0, slots := 0, locals := 0 } : Room)) (fun a U => a = #[(.ref a0), (.ref a1)] ∧ Z.Warmed39 U.vm ∧ U.heap = h0) (fun _ _ _ _ _ => True) (fun _ U o U' => ∃ v L, o = .returned v ∧ own_Q6 Z a0 a1 f1 t1 f2 t2 h0 n0 v U'.heap L ∧ FrameEnd U o U' L ({ frames := 0, cells := 0, slots := 0, locals := 0 } : Room).cells ({ frames := 0, cells := 0, slots := 0, locals := 0 } : Room).slots) := by
  refine MetFree.of_bodySF (plainFor_of_name own_pn33) hisR ?_
  intro p e s m args below meth c s₁ Bd hml0 hP hK
  obtain ⟨rfl, hZ, hh⟩ := hP
  have hx := Bd.exec
  have hby := Bd.bytes
  have hlk : meth.locks = false := Bd.notSynchronized
  have hml : c.maxLocals = 2 := hml0
  have hown : s.vm.findClass "com/example/fact4/fact4/model/TimeExpression" = some m.cls := findClass_of_methodNamed Bd.named
  have hnm := (name_of_methodNamed Bd.named Bd.method).1
  have X0 : Stand p l e ({ frames := 0, cells := 0, slots := 0, locals := 0 } : Room) s m #[(.ref a0), (.ref a1)] below meth c s₁ [] 0 0 := Stand.of_body Bd
  have e0 : s₁.heap = h0 := by rw [← hh, Bd.state]; rfl
  have N0 := Fr.nil n0
  show OG p e below (FE s ({ frames := 0, cells := 0, slots := 0, locals := 0 } : Room).cells ({ frames := 0, cells := 0, slots := 0, locals := 0 } : Room).slots) (own_Q6 Z a0 a1 f1 t1 f2 t2 h0 n0) (s₁.setTop (entryFrame m #[(.ref a0), (.ref a1)] 2))
  refine og_of (fun _ k => castTop (own_ef6 m a0 a1) k) ?_
  refine o_aloadN X0 hx rfl (hb hby own_d6_0) rfl rfl ?_
  obtain ⟨T1, X1, e1, st1⟩ := getF X0 hx hZ hown (host := "") (Or.inl (hw _ (List.mem_of_getElem? (i := 31) rfl))) Via.refl e0 pre0 (g := (mkF m 1 #[.val (.ref a0), .val (.ref a1)] [(.ref a0)])) rfl rfl (hb hby own_d6_1)
  refine og_of st1 ?_
  show OG p e below _ _ (T1.setTop (mkF m 4 #[.val (.ref a0), .val (.ref a1)] [(.int f1)]))
  refine o_aloadN X1 hx rfl (hb hby own_d6_4) rfl rfl ?_
  obtain ⟨T2, X2, e2, st2⟩ := getF X1 hx hZ hown (host := "") (Or.inl (hw _ (List.mem_of_getElem? (i := 33) rfl))) Via.refl e1 pre3 (g := (mkF m 5 #[.val (.ref a0), .val (.ref a1)] [(.ref a1), (.int f1)])) rfl rfl (hb hby own_d6_5)
  refine og_of st2 ?_
  show OG p e below _ _ (T2.setTop (mkF m 8 #[.val (.ref a0), .val (.ref a1)] [(.int t2), (.int f1)]))
  by_cases hc3 : t2 < f1
  · skip
    refine o_icmpY (pc' := 26) X2 hx (hb hby own_d6_8) (tlt hc3).2.2.1 (by decide) (by decide) ?_
    refine o_iconst (z := (0 : Int32)) X2 hx rfl (hb hby own_d6_26) (by decide) ?_
    exact o_retB X2 hx Bd.returns (own_lv X2 hlk (by decide) (by decide)) (hb hby own_d6_27) (by decide) ⟨(by rw [own_f6, if_pos hc3]), N0, e2⟩
  · skip
    refine o_icmpN (pc' := 11) X2 hx rfl (hb hby own_d6_8) (flt hc3).2.2.1 ?_
    refine o_aloadN X2 hx rfl (hb hby own_d6_11) rfl rfl ?_
    obtain ⟨T4, X4, e4, st4⟩ := getF X2 hx hZ hown (host := "") (Or.inl (hw _ (List.mem_of_getElem? (i := 31) rfl))) Via.refl e2 pre2 (g := (mkF m 12 #[.val (.ref a0), .val (.ref a1)] [(.ref a1)])) rfl rfl (hb hby own_d6_12)
    refine og_of st4 ?_
    show OG p e below _ _ (T4.setTop (mkF m 15 #[.val (.ref a0), .val (.ref a1)] [(.int f2)]))
    refine o_aloadN X4 hx rfl (hb hby own_d6_15) rfl rfl ?_
    obtain ⟨T5, X5, e5, st5⟩ := getF X4 hx hZ hown (host := "") (Or.inl (hw _ (List.mem_of_getElem? (i := 33) rfl))) Via.refl e4 pre1 (g := (mkF m 16 #[.val (.ref a0), .val (.ref a1)] [(.ref a0), (.int f2)])) rfl rfl (hb hby own_d6_16)
    refine og_of st5 ?_
    show OG p e below _ _ (T5.setTop (mkF m 19 #[.val (.ref a0), .val (.ref a1)] [(.int t1), (.int f2)]))
    by_cases hc6 : t1 < f2
    · skip
      refine o_icmpY (pc' := 26) X5 hx (hb hby own_d6_19) (tlt hc6).2.2.1 (by decide) (by decide) ?_
      refine o_iconst (z := (0 : Int32)) X5 hx rfl (hb hby own_d6_26) (by decide) ?_
      exact o_retB X5 hx Bd.returns (own_lv X5 hlk (by decide) (by decide)) (hb hby own_d6_27) (by decide) ⟨(by rw [own_f6, if_neg hc3, if_pos hc6]), N0, e5⟩
    · skip
      refine o_icmpN (pc' := 22) X5 hx rfl (hb hby own_d6_19) (flt hc6).2.2.1 ?_
      refine o_iconst (z := (1 : Int32)) X5 hx rfl (hb hby own_d6_22) (by decide) ?_
      refine o_goto (pc' := 27) X5 hx (hb hby own_d6_23) (by decide) (by decide) ?_
      exact o_retB X5 hx Bd.returns (own_lv X5 hlk (by decide) (by decide)) (hb hby own_d6_27) (by decide) ⟨(by rw [own_f6, if_neg hc3, if_neg hc6]), N0, e5⟩
theorem own_strW {a0 : Array Value} {Z : State} (hw : ∀ d ∈ tables_1, d.before a0 Z = true) : ∀ d ∈ Bundle.stringAtoms, d.before a0 Z = true := fun d hd => by
  simp only [Bundle.stringAtoms, List.mem_cons, List.not_mem_nil, or_false] at hd
  rcases hd with rfl | rfl | rfl | rfl | rfl | rfl | rfl
  · exact (hw _ (List.mem_of_getElem? (i := 11) rfl))
  · exact (hw _ (List.mem_of_getElem? (i := 12) rfl))
  · exact (hw _ (List.mem_of_getElem? (i := 13) rfl))
  · exact (hw _ (List.mem_of_getElem? (i := 14) rfl))
  · exact (hw _ (List.mem_of_getElem? (i := 15) rfl))
  · exact (hw _ (List.mem_of_getElem? (i := 16) rfl))
  · exact (hw _ (List.mem_of_getElem? (i := 17) rfl))
theorem own_ov (a b : Addr) (f1 t1 f2 t2 : Int32) (h1 : f1.toInt ≤ t1.toInt) (h2 : f2.toInt ≤ t2.toInt) : own_f6 a b f1 t1 f2 t2 = (if own_f1 t1 t2 < own_f2 f1 f2 then (0 : Int32) else (1 : Int32)) := by
  simp only [own_f6, own_f1, own_f2, Int32.lt_iff_toInt_lt]
  (repeat' split) <;> first | rfl | (exfalso; omega)
theorem own_mm (a b : Int32) : (own_f1 a b).toInt ≤ (own_f2 a b).toInt := by
  simp only [own_f1, own_f2, Int32.lt_iff_toInt_lt]
  (repeat' split) <;> omega
theorem own_mnc (a b : Int32) : own_f1 a b = own_f1 b a := by
  apply Int32.toInt_inj.mp
  simp only [own_f1, Int32.lt_iff_toInt_lt]
  (repeat' split) <;> omega
theorem own_mxc (a b : Int32) : own_f2 a b = own_f2 b a := by
  apply Int32.toInt_inj.mp
  simp only [own_f2, Int32.lt_iff_toInt_lt]
  (repeat' split) <;> omega
theorem own_ov2 (a b : Addr) (f1 t1 f2 t2 : Int32) (h1 : f1.toInt ≤ t1.toInt) (h2 : f2.toInt ≤ t2.toInt) : own_f6 a b f1 t1 f2 t2 = (if own_f1 t2 t1 < own_f2 f2 f1 then (0 : Int32) else (1 : Int32)) := by
  rw [own_mnc t2 t1, own_mxc f2 f1]; exact own_ov a b f1 t1 f2 t2 h1 h2
theorem own_pd1 : parseMethodDescriptor "(II)I" = some ⟨[.int, .int], some .int⟩ := by decide +kernel
theorem own_pd2 : parseMethodDescriptor "(Ljava/lang/String;III)V" = some ⟨[(.object "java/lang/String"), .int, .int, .int], none⟩ := by decide +kernel
theorem own_pd3 : parseMethodDescriptor "(Lcom/example/fact4/fact4/model/TimeExpression;)Z" = some ⟨[(.object "com/example/fact4/fact4/model/TimeExpression")], some .boolean⟩ := by decide +kernel
theorem own_ef0 (m : MethodId) (p0 : Int32) (p1 : Int32) (p2 : Int32) (p3 : Int32) : entryFrame m #[(.int p0), (.int p1), (.int p2), (.int p3)] maxLocals = mkF m 0 #[.val (.int p0), .val (.int p1), .val (.int p2), .val (.int p3), .unset, .unset, .unset, .unset, .unset, .unset, .unset] [] := by first | (simp [entryFrame, mkF, argsToLocals, Value.category, maxLocals]; done) | rfl
def own_Q0 (Z : State) (p0 : Int32) (p1 : Int32) (p2 : Int32) (p3 : Int32) (h0 : Heap) (n0 : Nat) (v : Option Value) (h : Heap) (L : List Loc) : Prop := v = some (.int (1 : Int32)) ∧ Fr n0 L
theorem own_pn48 : plainName "com/example/fact4/fact4/model/TimeExpressionOverlapsPinLaw" = true := by first | (simp [plainName, overriddenIn]; done) | decide +kernel
set_option maxRecDepth 65536 in
set_option maxHeartbeats 40000000 in
theorem own_rm0 (l : Launch) (Z : State) (aA : Array Value) (hw : ∀ d ∈ tables_1, d.before aA Z = true) (ws : List Jvm.Cond) (p0 : Int32) (p1 : Int32) (p2 : Int32) (p3 : Int32) (h0 : Heap) (n0 : Nat) (Z0 : n0 ≤ h0.size) :
    MetFree l x (head1 (Jvm.Cond.code x code maxLocals ret :: ws) room_1) (fun a U => a = #[(.int p0), (.int p1), (.int p2), (.int p3)] ∧ Z.Warmed39 U.vm ∧ U.heap = h0) (fun _ _ _ _ _ => True) (fun _ U o U' => ∃ v L, o = .returned v ∧ own_Q0 Z p0 p1 p2 p3 h0 n0 v U'.heap L ∧ ReturnedEndW U o U' L room_1.cells room_1.slots) := by
  refine MetFree.of_bodySF (plainFor_of_name own_pn48) hisR ?_
  intro p e s m args below meth c s₁ Bd hml0 hP hK
  obtain ⟨rfl, hZ, hh⟩ := hP
  have hx := Bd.exec
  have hby := Bd.bytes
  have hlk : meth.locks = false := Bd.notSynchronized
  have hml : c.maxLocals = 11 := hml0
  have hown : s.vm.findClass "com/example/fact4/fact4/model/TimeExpressionOverlapsPinLaw" = some m.cls := findClass_of_methodNamed Bd.named
  have hnm := (name_of_methodNamed Bd.named Bd.method).1
  have X0 : Stand p l e room_1 s m #[(.int p0), (.int p1), (.int p2), (.int p3)] below meth c s₁ [] 0 0 := Stand.of_body Bd
  have e0 : s₁.heap = h0 := by rw [← hh, Bd.state]; rfl
  have N0 := Fr.nil n0
  replace X0 : Stand p l e room_1 (s.setVm s.vm) m #[(.int p0), (.int p1), (.int p2), (.int p3)] below meth c s₁ [] 0 0 := X0
  replace hZ : Z.Warmed39 (s.setVm s.vm).vm := hZ
  replace hown : (s.setVm s.vm).vm.findClass "com/example/fact4/fact4/model/TimeExpressionOverlapsPinLaw" = some m.cls := hown
  have hS0 : s.Since s.vm h0.size := (State.WarmedH.refl s).since _
  show OG p e below (FEW s room_1.cells room_1.slots) (own_Q0 Z p0 p1 p2 p3 h0 n0) (s₁.setTop (entryFrame m #[(.int p0), (.int p1), (.int p2), (.int p3)] maxLocals))
  refine og_of (fun _ k => castTop (own_ef0 m p0 p1 p2 p3) k) ?_
  refine o_iloadN X0 hx rfl (hb hby at_0) rfl ?_
  refine o_iloadN X0 hx rfl (hb hby at_1) rfl ?_
  obtain ⟨_, _, ⟨T1, L1, k1, n1⟩, -, X1, ⟨Lc1, hQ1, l1, y1, z1⟩, st1⟩ := Jvm.LawKit.callS X0 hx (y := (⟨"java/lang/Math", "min", "(II)I"⟩ : MethodName)) hown (mvT hZ (hw _ (List.mem_of_getElem? (i := 0) rfl))) (mvT hZ (hw _ (List.mem_of_getElem? (i := 1) rfl))) (mvT hZ (hw _ (List.mem_of_getElem? (i := 2) rfl))) (mvT hZ (hw _ (List.mem_of_getElem? (i := 3) rfl))) (by decide) (backOf (W := 0) (own_rm1 l Z aA hw [] p0 p1 h0 n0 Z0) hZ (hw _ (List.mem_of_getElem? (i := 3) rfl)) (hw _ (List.mem_of_getElem? (i := 2) rfl)) (by decide) (by decide)) (g := (mkF m 2 #[.val (.int p0), .val (.int p1), .val (.int p2), .val (.int p3), .unset, .unset, .unset, .unset, .unset, .unset, .unset] [(.int p1), (.int p0)])) rfl (by rw [hml]; rfl) (argsL := [(.int p0), (.int p1)]) (rest := []) (lenOf own_pd1 rfl) rfl (by show 2 * 0 + _ ≤ _; exact Nat.le_of_eq rfl) (hb hby at_2) (fun _ _ => ⟨rfl, e0, Nat.le_of_ble_eq_true rfl, Nat.le_of_ble_eq_true rfl⟩)
  dsimp only [Pt.U, Pt.locs, Pt.cells, Pt.slots] at X1 l1 y1 z1 st1 hQ1
  subst l1 y1 z1
  obtain ⟨rfl, N1q, ee1⟩ := hQ1
  have N2 := Fr.app N0 N1q
  refine og_of st1 ?_
  show OG p e below _ _ (T1.setTop (mkF m 5 #[.val (.int p0), .val (.int p1), .val (.int p2), .val (.int p3), .unset, .unset, .unset, .unset, .unset, .unset, .unset] [(.int (own_f1 p0 p1))]))
  refine o_istore X1 hx rfl (hb hby at_5) (L' := #[.val (.int p0), .val (.int p1), .val (.int p2), .val (.int p3), .val (.int (own_f1 p0 p1)), .unset, .unset, .unset, .unset, .unset, .unset]) rfl ?_
  refine o_iloadN X1 hx rfl (hb hby at_7) rfl ?_
  refine o_iloadN X1 hx rfl (hb hby at_8) rfl ?_
  obtain ⟨_, _, ⟨T3, L3, k3, n3⟩, -, X3, ⟨Lc3, hQ3, l3, y3, z3⟩, st3⟩ := Jvm.LawKit.callS X1 hx (y := (⟨"java/lang/Math", "max", "(II)I"⟩ : MethodName)) hown (mvT hZ (hw _ (List.mem_of_getElem? (i := 4) rfl))) (mvT hZ (hw _ (List.mem_of_getElem? (i := 5) rfl))) (mvT hZ (hw _ (List.mem_of_getElem? (i := 2) rfl))) (mvT hZ (hw _ (List.mem_of_getElem? (i := 6) rfl))) (by decide) (backOf (W := 0) (own_rm2 l Z aA hw [] p0 p1 h0 n0 Z0) hZ (hw _ (List.mem_of_getElem? (i := 6) rfl)) (hw _ (List.mem_of_getElem? (i := 2) rfl)) (by decide) (by decide)) (g := (mkF m 9 #[.val (.int p0), .val (.int p1), .val (.int p2), .val (.int p3), .val (.int (own_f1 p0 p1)), .unset, .unset, .unset, .unset, .unset, .unset] [(.int p1), (.int p0)])) rfl (by rw [hml]; rfl) (argsL := [(.int p0), (.int p1)]) (rest := []) (lenOf own_pd1 rfl) rfl (by show 2 * 0 + _ ≤ _; exact Nat.le_of_eq rfl) (hb hby at_9) (fun _ _ => ⟨rfl, ee1, Nat.le_of_ble_eq_true rfl, Nat.le_of_ble_eq_true rfl⟩)
  dsimp only [Pt.U, Pt.locs, Pt.cells, Pt.slots] at X3 l3 y3 z3 st3 hQ3
  subst l3 y3 z3
  obtain ⟨rfl, N3q, ee3⟩ := hQ3
  have N4 := Fr.app N2 N3q
  refine og_of st3 ?_
  show OG p e below _ _ (T3.setTop (mkF m 12 #[.val (.int p0), .val (.int p1), .val (.int p2), .val (.int p3), .val (.int (own_f1 p0 p1)), .unset, .unset, .unset, .unset, .unset, .unset] [(.int (own_f2 p0 p1))]))
  refine o_istore X3 hx rfl (hb hby at_12) (L' := #[.val (.int p0), .val (.int p1), .val (.int p2), .val (.int p3), .val (.int (own_f1 p0 p1)), .val (.int (own_f2 p0 p1)), .unset, .unset, .unset, .unset, .unset]) rfl ?_
  refine o_iloadN X3 hx rfl (hb hby at_14) rfl ?_
  refine o_iloadN X3 hx rfl (hb hby at_15) rfl ?_
  obtain ⟨_, _, ⟨T5, L5, k5, n5⟩, -, X5, ⟨Lc5, hQ5, l5, y5, z5⟩, st5⟩ := Jvm.LawKit.callS X3 hx (y := (⟨"java/lang/Math", "min", "(II)I"⟩ : MethodName)) hown (mvT hZ (hw _ (List.mem_of_getElem? (i := 0) rfl))) (mvT hZ (hw _ (List.mem_of_getElem? (i := 1) rfl))) (mvT hZ (hw _ (List.mem_of_getElem? (i := 2) rfl))) (mvT hZ (hw _ (List.mem_of_getElem? (i := 3) rfl))) (by decide) (backOf (W := 0) (own_rm1 l Z aA hw [] p2 p3 h0 n0 Z0) hZ (hw _ (List.mem_of_getElem? (i := 3) rfl)) (hw _ (List.mem_of_getElem? (i := 2) rfl)) (by decide) (by decide)) (g := (mkF m 16 #[.val (.int p0), .val (.int p1), .val (.int p2), .val (.int p3), .val (.int (own_f1 p0 p1)), .val (.int (own_f2 p0 p1)), .unset, .unset, .unset, .unset, .unset] [(.int p3), (.int p2)])) rfl (by rw [hml]; rfl) (argsL := [(.int p2), (.int p3)]) (rest := []) (lenOf own_pd1 rfl) rfl (by show 2 * 0 + _ ≤ _; exact Nat.le_of_eq rfl) (hb hby at_16) (fun _ _ => ⟨rfl, ee3, Nat.le_of_ble_eq_true rfl, Nat.le_of_ble_eq_true rfl⟩)
  dsimp only [Pt.U, Pt.locs, Pt.cells, Pt.slots] at X5 l5 y5 z5 st5 hQ5
  subst l5 y5 z5
  obtain ⟨rfl, N5q, ee5⟩ := hQ5
  have N6 := Fr.app N4 N5q
  refine og_of st5 ?_
  show OG p e below _ _ (T5.setTop (mkF m 19 #[.val (.int p0), .val (.int p1), .val (.int p2), .val (.int p3), .val (.int (own_f1 p0 p1)), .val (.int (own_f2 p0 p1)), .unset, .unset, .unset, .unset, .unset] [(.int (own_f1 p2 p3))]))
  refine o_istore X5 hx rfl (hb hby at_19) (L' := #[.val (.int p0), .val (.int p1), .val (.int p2), .val (.int p3), .val (.int (own_f1 p0 p1)), .val (.int (own_f2 p0 p1)), .val (.int (own_f1 p2 p3)), .unset, .unset, .unset, .unset]) rfl ?_
  refine o_iloadN X5 hx rfl (hb hby at_21) rfl ?_
  refine o_iloadN X5 hx rfl (hb hby at_22) rfl ?_
  obtain ⟨_, _, ⟨T7, L7, k7, n7⟩, -, X7, ⟨Lc7, hQ7, l7, y7, z7⟩, st7⟩ := Jvm.LawKit.callS X5 hx (y := (⟨"java/lang/Math", "max", "(II)I"⟩ : MethodName)) hown (mvT hZ (hw _ (List.mem_of_getElem? (i := 4) rfl))) (mvT hZ (hw _ (List.mem_of_getElem? (i := 5) rfl))) (mvT hZ (hw _ (List.mem_of_getElem? (i := 2) rfl))) (mvT hZ (hw _ (List.mem_of_getElem? (i := 6) rfl))) (by decide) (backOf (W := 0) (own_rm2 l Z aA hw [] p2 p3 h0 n0 Z0) hZ (hw _ (List.mem_of_getElem? (i := 6) rfl)) (hw _ (List.mem_of_getElem? (i := 2) rfl)) (by decide) (by decide)) (g := (mkF m 23 #[.val (.int p0), .val (.int p1), .val (.int p2), .val (.int p3), .val (.int (own_f1 p0 p1)), .val (.int (own_f2 p0 p1)), .val (.int (own_f1 p2 p3)), .unset, .unset, .unset, .unset] [(.int p3), (.int p2)])) rfl (by rw [hml]; rfl) (argsL := [(.int p2), (.int p3)]) (rest := []) (lenOf own_pd1 rfl) rfl (by show 2 * 0 + _ ≤ _; exact Nat.le_of_eq rfl) (hb hby at_23) (fun _ _ => ⟨rfl, ee5, Nat.le_of_ble_eq_true rfl, Nat.le_of_ble_eq_true rfl⟩)
  dsimp only [Pt.U, Pt.locs, Pt.cells, Pt.slots] at X7 l7 y7 z7 st7 hQ7
  subst l7 y7 z7
  obtain ⟨rfl, N7q, ee7⟩ := hQ7
  have N8 := Fr.app N6 N7q
  refine og_of st7 ?_
  show OG p e below _ _ (T7.setTop (mkF m 26 #[.val (.int p0), .val (.int p1), .val (.int p2), .val (.int p3), .val (.int (own_f1 p0 p1)), .val (.int (own_f2 p0 p1)), .val (.int (own_f1 p2 p3)), .unset, .unset, .unset, .unset] [(.int (own_f2 p2 p3))]))
  refine o_istore X7 hx rfl (hb hby at_26) (L' := #[.val (.int p0), .val (.int p1), .val (.int p2), .val (.int p3), .val (.int (own_f1 p0 p1)), .val (.int (own_f2 p0 p1)), .val (.int (own_f1 p2 p3)), .val (.int (own_f2 p2 p3)), .unset, .unset, .unset]) rfl ?_
  obtain ⟨T9, h9, X9, e9, E9, A9, D9, -, st9⟩ := newO X7 hx hZ hown (hw _ (List.mem_of_getElem? (i := 7) rfl)) (hw _ (List.mem_of_getElem? (i := 8) rfl)) (hw _ (List.mem_of_getElem? (i := 9) rfl)) ee7 (g := (mkF m 28 #[.val (.int p0), .val (.int p1), .val (.int p2), .val (.int p3), .val (.int (own_f1 p0 p1)), .val (.int (own_f2 p0 p1)), .val (.int (own_f1 p2 p3)), .val (.int (own_f2 p2 p3)), .unset, .unset, .unset] [])) rfl (hb hby at_28) (by decide) (by decide)
  obtain ⟨b9, g9⟩ : ∃ z, z = h0.size := ⟨_, rfl⟩
  rw [← g9] at A9 D9 st9
  have gn9 : n0 ≤ b9 := Nat.le_trans Z0 (Nat.le_of_eq g9.symm)
  have sz9 : h0.size ≤ b9 := Nat.le_trans (Keep.refl h0 []).1 (Nat.le_of_eq g9.symm)
  have Kp10 : Keep h0 h9 [] := (Keep.refl h0 []).ext E9
  have F9_30 : Fld Z h9 b9 "com/example/fact4/fact4/model/TimeExpression" "text" "Ljava/lang/String;" .null := D9 (Or.inr (hw _ (List.mem_of_getElem? (i := 30) rfl))) (ty := (.object "java/lang/String")) (by decide)
  have F9_32 : Fld Z h9 b9 "com/example/fact4/fact4/model/TimeExpression" "from" "I" (.int (0 : Int32)) := D9 (Or.inr (hw _ (List.mem_of_getElem? (i := 32) rfl))) (ty := .int) (by decide)
  have F9_34 : Fld Z h9 b9 "com/example/fact4/fact4/model/TimeExpression" "to" "I" (.int (0 : Int32)) := D9 (Or.inr (hw _ (List.mem_of_getElem? (i := 34) rfl))) (ty := .int) (by decide)
  have F9_36 : Fld Z h9 b9 "com/example/fact4/fact4/model/TimeExpression" "agreedFrom" "I" (.int (0 : Int32)) := D9 (Or.inr (hw _ (List.mem_of_getElem? (i := 36) rfl))) (ty := .int) (by decide)
  refine og_of st9 ?_
  show OG p e below _ _ (T9.setTop (mkF m 31 #[.val (.int p0), .val (.int p1), .val (.int p2), .val (.int p3), .val (.int (own_f1 p0 p1)), .val (.int (own_f2 p0 p1)), .val (.int (own_f1 p2 p3)), .val (.int (own_f2 p2 p3)), .unset, .unset, .unset] [(.ref b9)]))
  refine o_dup X9 hx rfl (hb hby at_31) rfl ?_
  obtain ⟨b11, T11, h11, k111, X11, e11, E11, hS11, hk11, hZ, hown, st11⟩ := ldcS X9 hx hZ hown (hw _ (List.mem_of_getElem? (i := 10) rfl)) (own_strW hw) e9 hS0 (Nat.le_trans (Nat.le_refl h0.size) E9.1) (g := (mkF m 32 #[.val (.int p0), .val (.int p1), .val (.int p2), .val (.int p3), .val (.int (own_f1 p0 p1)), .val (.int (own_f2 p0 p1)), .val (.int (own_f1 p2 p3)), .val (.int (own_f2 p2 p3)), .unset, .unset, .unset] [(.ref b9), (.ref b9)])) rfl (hb hby at_32) (n := 4) (by decide) (by decide) (by decide) (by decide)
  have Kp12 : Keep h0 h11 [] := Kp10.ext E11
  refine og_of st11 ?_
  show OG p e below _ _ (T11.setTop (mkF m 34 #[.val (.int p0), .val (.int p1), .val (.int p2), .val (.int p3), .val (.int (own_f1 p0 p1)), .val (.int (own_f2 p0 p1)), .val (.int (own_f1 p2 p3)), .val (.int (own_f2 p2 p3)), .unset, .unset, .unset] [(.ref b11), (.ref b9), (.ref b9)]))
  refine o_iload X11 hx rfl (hb hby at_34) rfl ?_
  refine o_iload X11 hx rfl (hb hby at_36) rfl ?_
  refine o_iload X11 hx rfl (hb hby at_38) rfl ?_
  have Fc14 : Exa Z h11 b9 "com/example/fact4/fact4/model/TimeExpression" := (Exa.ext E11 A9)
  have Fc15 : Fld Z h11 b9 "com/example/fact4/fact4/model/TimeExpression" "text" "Ljava/lang/String;" .null := (Fld.ext E11 F9_30)
  have Fc16 : Fld Z h11 b9 "com/example/fact4/fact4/model/TimeExpression" "from" "I" (.int (0 : Int32)) := (Fld.ext E11 F9_32)
  have Fc17 : Fld Z h11 b9 "com/example/fact4/fact4/model/TimeExpression" "to" "I" (.int (0 : Int32)) := (Fld.ext E11 F9_34)
  have Fc18 : Fld Z h11 b9 "com/example/fact4/fact4/model/TimeExpression" "agreedFrom" "I" (.int (0 : Int32)) := (Fld.ext E11 F9_36)
  obtain ⟨_, _, ⟨T13, L13, k13, n13⟩, -, X13, ⟨Lc13, hQ13, l13, y13, z13⟩, st13⟩ := X11.specialBack hx (y := (⟨"com/example/fact4/fact4/model/TimeExpression", "<init>", "(Ljava/lang/String;III)V"⟩ : MethodName)) rfl hown (mvT hZ (hw _ (List.mem_of_getElem? (i := 18) rfl))) (mvT hZ (hw _ (List.mem_of_getElem? (i := 19) rfl))) (mvT hZ (hw _ (List.mem_of_getElem? (i := 20) rfl))) (by decide) (backOf (W := 1) (own_rm3 l Z aA hw [] b9 b11 (own_f1 p0 p1) (own_f2 p0 p1) (own_f1 p0 p1) h11 n0 (Nat.le_trans (Nat.le_trans Z0 E9.1) E11.1) Fc14 gn9 Fc15 Fc16 Fc17 Fc18) hZ (hw _ (List.mem_of_getElem? (i := 20) rfl)) (hw _ (List.mem_of_getElem? (i := 9) rfl)) (by decide) (by decide)) (g := (mkF m 40 #[.val (.int p0), .val (.int p1), .val (.int p2), .val (.int p3), .val (.int (own_f1 p0 p1)), .val (.int (own_f2 p0 p1)), .val (.int (own_f1 p2 p3)), .val (.int (own_f2 p2 p3)), .unset, .unset, .unset] [(.int (own_f1 p0 p1)), (.int (own_f2 p0 p1)), (.int (own_f1 p0 p1)), (.ref b11), (.ref b9), (.ref b9)])) rfl (by rw [hml]; rfl) (Steps.refl _) (a := b9) (argsL := [(.ref b11), (.int (own_f1 p0 p1)), (.int (own_f2 p0 p1)), (.int (own_f1 p0 p1))]) (rest := [(.ref b9)]) (lenOf own_pd2 rfl) rfl (by show 2 * 0 + _ ≤ _; exact Nat.le_of_eq rfl) (hb hby at_40) (fun _ _ => ⟨rfl, e11, Nat.le_of_ble_eq_true rfl, Nat.le_of_ble_eq_true rfl⟩)
  dsimp only [Pt.U, Pt.locs, Pt.cells, Pt.slots] at X13 l13 y13 z13 st13 hQ13
  subst l13 y13 z13
  obtain ⟨rfl, N13q, K13, f13_0, f13_1, f13_2, f13_3⟩ := hQ13
  have N19 := Fr.app N8 N13q
  have Kp20 : Keep h0 T13.heap [] := Kp12.trans K13 (allS (Or.inr sz9) all0)
  refine og_tr st13 ?_
  show OG p e below _ _ (T13.setTop (mkF m 43 #[.val (.int p0), .val (.int p1), .val (.int p2), .val (.int p3), .val (.int (own_f1 p0 p1)), .val (.int (own_f2 p0 p1)), .val (.int (own_f1 p2 p3)), .val (.int (own_f2 p2 p3)), .unset, .unset, .unset] [(.ref b9)]))
  refine o_astore X13 hx rfl (hb hby at_43) rfl (L' := #[.val (.int p0), .val (.int p1), .val (.int p2), .val (.int p3), .val (.int (own_f1 p0 p1)), .val (.int (own_f2 p0 p1)), .val (.int (own_f1 p2 p3)), .val (.int (own_f2 p2 p3)), .val (.ref b9), .unset, .unset]) rfl ?_
  obtain ⟨T21, h21, X21, e21, E21, A21, D21, -, st21⟩ := newO X13 hx hZ hown (hw _ (List.mem_of_getElem? (i := 7) rfl)) (hw _ (List.mem_of_getElem? (i := 8) rfl)) (hw _ (List.mem_of_getElem? (i := 9) rfl)) rfl (g := (mkF m 45 #[.val (.int p0), .val (.int p1), .val (.int p2), .val (.int p3), .val (.int (own_f1 p0 p1)), .val (.int (own_f2 p0 p1)), .val (.int (own_f1 p2 p3)), .val (.int (own_f2 p2 p3)), .val (.ref b9), .unset, .unset] [])) rfl (hb hby at_45) (by decide) (by decide)
  obtain ⟨b21, g21⟩ : ∃ z, z = T13.heap.size := ⟨_, rfl⟩
  rw [← g21] at A21 D21 st21
  have Fc22 : Exa Z T13.heap b9 "com/example/fact4/fact4/model/TimeExpression" := (Fc14.keep K13)
  have ne23 : b9 ≠ b21 := Nat.ne_of_lt (Nat.lt_of_lt_of_le Fc22.lt (Nat.le_of_eq g21.symm))
  have gn21 : n0 ≤ b21 := Nat.le_trans (Nat.le_trans (Nat.le_trans (Nat.le_trans Z0 E9.1) E11.1) K13.1) (Nat.le_of_eq g21.symm)
  have sz21 : h0.size ≤ b21 := Nat.le_trans Kp20.1 (Nat.le_of_eq g21.symm)
  have Kp24 : Keep h0 h21 [] := Kp20.ext E21
  have F21_30 : Fld Z h21 b21 "com/example/fact4/fact4/model/TimeExpression" "text" "Ljava/lang/String;" .null := D21 (Or.inr (hw _ (List.mem_of_getElem? (i := 30) rfl))) (ty := (.object "java/lang/String")) (by decide)
  have F21_32 : Fld Z h21 b21 "com/example/fact4/fact4/model/TimeExpression" "from" "I" (.int (0 : Int32)) := D21 (Or.inr (hw _ (List.mem_of_getElem? (i := 32) rfl))) (ty := .int) (by decide)
  have F21_34 : Fld Z h21 b21 "com/example/fact4/fact4/model/TimeExpression" "to" "I" (.int (0 : Int32)) := D21 (Or.inr (hw _ (List.mem_of_getElem? (i := 34) rfl))) (ty := .int) (by decide)
  have F21_36 : Fld Z h21 b21 "com/example/fact4/fact4/model/TimeExpression" "agreedFrom" "I" (.int (0 : Int32)) := D21 (Or.inr (hw _ (List.mem_of_getElem? (i := 36) rfl))) (ty := .int) (by decide)
  refine og_of st21 ?_
  show OG p e below _ _ (T21.setTop (mkF m 48 #[.val (.int p0), .val (.int p1), .val (.int p2), .val (.int p3), .val (.int (own_f1 p0 p1)), .val (.int (own_f2 p0 p1)), .val (.int (own_f1 p2 p3)), .val (.int (own_f2 p2 p3)), .val (.ref b9), .unset, .unset] [(.ref b21)]))
  refine o_dup X21 hx rfl (hb hby at_48) rfl ?_
  obtain ⟨b25, T25, h25, k125, X25, e25, E25, hS25, hk25, hZ, hown, st25⟩ := ldcS X21 hx hZ hown (hw _ (List.mem_of_getElem? (i := 37) rfl)) (own_strW hw) e21 hS11 (Nat.le_trans (Nat.le_trans hk11 K13.1) E21.1) (g := (mkF m 49 #[.val (.int p0), .val (.int p1), .val (.int p2), .val (.int p3), .val (.int (own_f1 p0 p1)), .val (.int (own_f2 p0 p1)), .val (.int (own_f1 p2 p3)), .val (.int (own_f2 p2 p3)), .val (.ref b9), .unset, .unset] [(.ref b21), (.ref b21)])) rfl (hb hby at_49) (n := 4) (by decide) (by decide) (by decide) (by decide)
  have Kp26 : Keep h0 h25 [] := Kp24.ext E25
  refine og_of st25 ?_
  show OG p e below _ _ (T25.setTop (mkF m 51 #[.val (.int p0), .val (.int p1), .val (.int p2), .val (.int p3), .val (.int (own_f1 p0 p1)), .val (.int (own_f2 p0 p1)), .val (.int (own_f1 p2 p3)), .val (.int (own_f2 p2 p3)), .val (.ref b9), .unset, .unset] [(.ref b25), (.ref b21), (.ref b21)]))
  refine o_iload X25 hx rfl (hb hby at_51) rfl ?_
  refine o_iload X25 hx rfl (hb hby at_53) rfl ?_
  refine o_iload X25 hx rfl (hb hby at_55) rfl ?_
  have Fc28 : Exa Z h25 b21 "com/example/fact4/fact4/model/TimeExpression" := (Exa.ext E25 A21)
  have Fc29 : Fld Z h25 b21 "com/example/fact4/fact4/model/TimeExpression" "text" "Ljava/lang/String;" .null := (Fld.ext E25 F21_30)
  have Fc30 : Fld Z h25 b21 "com/example/fact4/fact4/model/TimeExpression" "from" "I" (.int (0 : Int32)) := (Fld.ext E25 F21_32)
  have Fc31 : Fld Z h25 b21 "com/example/fact4/fact4/model/TimeExpression" "to" "I" (.int (0 : Int32)) := (Fld.ext E25 F21_34)
  have Fc32 : Fld Z h25 b21 "com/example/fact4/fact4/model/TimeExpression" "agreedFrom" "I" (.int (0 : Int32)) := (Fld.ext E25 F21_36)
  obtain ⟨_, _, ⟨T27, L27, k27, n27⟩, -, X27, ⟨Lc27, hQ27, l27, y27, z27⟩, st27⟩ := X25.specialBack hx (y := (⟨"com/example/fact4/fact4/model/TimeExpression", "<init>", "(Ljava/lang/String;III)V"⟩ : MethodName)) rfl hown (mvT hZ (hw _ (List.mem_of_getElem? (i := 18) rfl))) (mvT hZ (hw _ (List.mem_of_getElem? (i := 19) rfl))) (mvT hZ (hw _ (List.mem_of_getElem? (i := 20) rfl))) (by decide) (backOf (W := 1) (own_rm3 l Z aA hw [] b21 b25 (own_f1 p2 p3) (own_f2 p2 p3) (own_f1 p2 p3) h25 n0 (Nat.le_trans (Nat.le_trans (Nat.le_trans (Nat.le_trans (Nat.le_trans Z0 E9.1) E11.1) K13.1) E21.1) E25.1) Fc28 gn21 Fc29 Fc30 Fc31 Fc32) hZ (hw _ (List.mem_of_getElem? (i := 20) rfl)) (hw _ (List.mem_of_getElem? (i := 9) rfl)) (by decide) (by decide)) (g := (mkF m 57 #[.val (.int p0), .val (.int p1), .val (.int p2), .val (.int p3), .val (.int (own_f1 p0 p1)), .val (.int (own_f2 p0 p1)), .val (.int (own_f1 p2 p3)), .val (.int (own_f2 p2 p3)), .val (.ref b9), .unset, .unset] [(.int (own_f1 p2 p3)), (.int (own_f2 p2 p3)), (.int (own_f1 p2 p3)), (.ref b25), (.ref b21), (.ref b21)])) rfl (by rw [hml]; rfl) (Steps.refl _) (a := b21) (argsL := [(.ref b25), (.int (own_f1 p2 p3)), (.int (own_f2 p2 p3)), (.int (own_f1 p2 p3))]) (rest := [(.ref b21)]) (lenOf own_pd2 rfl) rfl (by show 2 * 0 + _ ≤ _; exact Nat.le_of_eq rfl) (hb hby at_57) (fun _ _ => ⟨rfl, e25, Nat.le_of_ble_eq_true rfl, Nat.le_of_ble_eq_true rfl⟩)
  dsimp only [Pt.U, Pt.locs, Pt.cells, Pt.slots] at X27 l27 y27 z27 st27 hQ27
  subst l27 y27 z27
  obtain ⟨rfl, N27q, K27, f27_0, f27_1, f27_2, f27_3⟩ := hQ27
  have N33 := Fr.app N19 N27q
  have Kp34 : Keep h0 T27.heap [] := Kp26.trans K27 (allS (Or.inr sz21) all0)
  refine og_tr st27 ?_
  show OG p e below _ _ (T27.setTop (mkF m 60 #[.val (.int p0), .val (.int p1), .val (.int p2), .val (.int p3), .val (.int (own_f1 p0 p1)), .val (.int (own_f2 p0 p1)), .val (.int (own_f1 p2 p3)), .val (.int (own_f2 p2 p3)), .val (.ref b9), .unset, .unset] [(.ref b21)]))
  refine o_astore X27 hx rfl (hb hby at_60) rfl (L' := #[.val (.int p0), .val (.int p1), .val (.int p2), .val (.int p3), .val (.int (own_f1 p0 p1)), .val (.int (own_f2 p0 p1)), .val (.int (own_f1 p2 p3)), .val (.int (own_f2 p2 p3)), .val (.ref b9), .val (.ref b21), .unset]) rfl ?_
  refine o_iload X27 hx rfl (hb hby at_62) rfl ?_
  refine o_iload X27 hx rfl (hb hby at_64) rfl ?_
  obtain ⟨_, _, ⟨T35, L35, k35, n35⟩, -, X35, ⟨Lc35, hQ35, l35, y35, z35⟩, st35⟩ := Jvm.LawKit.callS X27 hx (y := (⟨"java/lang/Math", "max", "(II)I"⟩ : MethodName)) hown (mvT hZ (hw _ (List.mem_of_getElem? (i := 4) rfl))) (mvT hZ (hw _ (List.mem_of_getElem? (i := 5) rfl))) (mvT hZ (hw _ (List.mem_of_getElem? (i := 2) rfl))) (mvT hZ (hw _ (List.mem_of_getElem? (i := 6) rfl))) (by decide) (backOf (W := 0) (own_rm2 l Z aA hw [] (own_f1 p0 p1) (own_f1 p2 p3) T27.heap n0 (Nat.le_trans (Nat.le_trans (Nat.le_trans (Nat.le_trans (Nat.le_trans (Nat.le_trans Z0 E9.1) E11.1) K13.1) E21.1) E25.1) K27.1)) hZ (hw _ (List.mem_of_getElem? (i := 6) rfl)) (hw _ (List.mem_of_getElem? (i := 2) rfl)) (by decide) (by decide)) (g := (mkF m 66 #[.val (.int p0), .val (.int p1), .val (.int p2), .val (.int p3), .val (.int (own_f1 p0 p1)), .val (.int (own_f2 p0 p1)), .val (.int (own_f1 p2 p3)), .val (.int (own_f2 p2 p3)), .val (.ref b9), .val (.ref b21), .unset] [(.int (own_f1 p2 p3)), (.int (own_f1 p0 p1))])) rfl (by rw [hml]; rfl) (argsL := [(.int (own_f1 p0 p1)), (.int (own_f1 p2 p3))]) (rest := []) (lenOf own_pd1 rfl) rfl (by show 2 * 0 + _ ≤ _; exact Nat.le_of_eq rfl) (hb hby at_66) (fun _ _ => ⟨rfl, rfl, Nat.le_of_ble_eq_true rfl, Nat.le_of_ble_eq_true rfl⟩)
  dsimp only [Pt.U, Pt.locs, Pt.cells, Pt.slots] at X35 l35 y35 z35 st35 hQ35
  subst l35 y35 z35
  obtain ⟨rfl, N35q, ee35⟩ := hQ35
  have N36 := Fr.app N33 N35q
  refine og_of st35 ?_
  show OG p e below _ _ (T35.setTop (mkF m 69 #[.val (.int p0), .val (.int p1), .val (.int p2), .val (.int p3), .val (.int (own_f1 p0 p1)), .val (.int (own_f2 p0 p1)), .val (.int (own_f1 p2 p3)), .val (.int (own_f2 p2 p3)), .val (.ref b9), .val (.ref b21), .unset] [(.int (own_f2 (own_f1 p0 p1) (own_f1 p2 p3)))]))
  refine o_iload X35 hx rfl (hb hby at_69) rfl ?_
  refine o_iload X35 hx rfl (hb hby at_71) rfl ?_
  obtain ⟨_, _, ⟨T37, L37, k37, n37⟩, -, X37, ⟨Lc37, hQ37, l37, y37, z37⟩, st37⟩ := Jvm.LawKit.callS X35 hx (y := (⟨"java/lang/Math", "min", "(II)I"⟩ : MethodName)) hown (mvT hZ (hw _ (List.mem_of_getElem? (i := 0) rfl))) (mvT hZ (hw _ (List.mem_of_getElem? (i := 1) rfl))) (mvT hZ (hw _ (List.mem_of_getElem? (i := 2) rfl))) (mvT hZ (hw _ (List.mem_of_getElem? (i := 3) rfl))) (by decide) (backOf (W := 1) (own_rm1 l Z aA hw [] (own_f2 p0 p1) (own_f2 p2 p3) T27.heap n0 (Nat.le_trans (Nat.le_trans (Nat.le_trans (Nat.le_trans (Nat.le_trans (Nat.le_trans Z0 E9.1) E11.1) K13.1) E21.1) E25.1) K27.1)) hZ (hw _ (List.mem_of_getElem? (i := 3) rfl)) (hw _ (List.mem_of_getElem? (i := 2) rfl)) (by decide) (by decide)) (g := (mkF m 73 #[.val (.int p0), .val (.int p1), .val (.int p2), .val (.int p3), .val (.int (own_f1 p0 p1)), .val (.int (own_f2 p0 p1)), .val (.int (own_f1 p2 p3)), .val (.int (own_f2 p2 p3)), .val (.ref b9), .val (.ref b21), .unset] [(.int (own_f2 p2 p3)), (.int (own_f2 p0 p1)), (.int (own_f2 (own_f1 p0 p1) (own_f1 p2 p3)))])) rfl (by rw [hml]; rfl) (argsL := [(.int (own_f2 p0 p1)), (.int (own_f2 p2 p3))]) (rest := [(.int (own_f2 (own_f1 p0 p1) (own_f1 p2 p3)))]) (lenOf own_pd1 rfl) rfl (by show 2 * 0 + _ ≤ _; exact Nat.le_of_eq rfl) (hb hby at_73) (fun _ _ => ⟨rfl, ee35, Nat.le_of_ble_eq_true rfl, Nat.le_of_ble_eq_true rfl⟩)
  dsimp only [Pt.U, Pt.locs, Pt.cells, Pt.slots] at X37 l37 y37 z37 st37 hQ37
  subst l37 y37 z37
  obtain ⟨rfl, N37q, ee37⟩ := hQ37
  have N38 := Fr.app N36 N37q
  refine og_of st37 ?_
  show OG p e below _ _ (T37.setTop (mkF m 76 #[.val (.int p0), .val (.int p1), .val (.int p2), .val (.int p3), .val (.int (own_f1 p0 p1)), .val (.int (own_f2 p0 p1)), .val (.int (own_f1 p2 p3)), .val (.int (own_f2 p2 p3)), .val (.ref b9), .val (.ref b21), .unset] [(.int (own_f1 (own_f2 p0 p1) (own_f2 p2 p3))), (.int (own_f2 (own_f1 p0 p1) (own_f1 p2 p3)))]))
  obtain ⟨ph40, hph40⟩ : ∃ z : Int32, (if (own_f1 (own_f2 p0 p1) (own_f2 p2 p3)) < (own_f2 (own_f1 p0 p1) (own_f1 p2 p3)) then (0 : Int32) else (1 : Int32)) = z := ⟨_, rfl⟩
  have J41 : OG p e below (FEW s room_1.cells room_1.slots) (own_Q0 Z p0 p1 p2 p3 h0 n0) (T37.setTop (mkF m 84 #[.val (.int p0), .val (.int p1), .val (.int p2), .val (.int p3), .val (.int (own_f1 p0 p1)), .val (.int (own_f2 p0 p1)), .val (.int (own_f1 p2 p3)), .val (.int (own_f2 p2 p3)), .val (.ref b9), .val (.ref b21), .unset] [(.int ph40)])) := by
    refine o_istore X37 hx rfl (hb hby at_84) (L' := #[.val (.int p0), .val (.int p1), .val (.int p2), .val (.int p3), .val (.int (own_f1 p0 p1)), .val (.int (own_f2 p0 p1)), .val (.int (own_f1 p2 p3)), .val (.int (own_f2 p2 p3)), .val (.ref b9), .val (.ref b21), .val (.int ph40)]) rfl ?_
    refine o_aload X37 hx rfl (hb hby at_86) rfl rfl ?_
    refine o_aload X37 hx rfl (hb hby at_88) rfl rfl ?_
    have Fc43 : Fld Z T27.heap b9 "com/example/fact4/fact4/model/TimeExpression" "from" "I" (.int (own_f1 p0 p1)) := ((Fld.ext E25 (Fld.ext E21 f13_1)).keep K27 (ninS ne23 nin0))
    have Fc44 : Fld Z T27.heap b9 "com/example/fact4/fact4/model/TimeExpression" "to" "I" (.int (own_f2 p0 p1)) := ((Fld.ext E25 (Fld.ext E21 f13_2)).keep K27 (ninS ne23 nin0))
    have Fc45 : Exa Z T27.heap b9 "com/example/fact4/fact4/model/TimeExpression" := ((Exa.ext E25 (Exa.ext E21 Fc22)).keep K27)
    obtain ⟨cq42, kq42, q42a, q42b, q42c⟩ := isOf hZ ee37 Fc45
    obtain ⟨_, _, ⟨T42, L42, k42, n42⟩, -, X42, ⟨Lc42, hQ42, l42, y42, z42⟩, st42⟩ := X37.virtualBack hx (y := (⟨"com/example/fact4/fact4/model/TimeExpression", "overlaps", "(Lcom/example/fact4/fact4/model/TimeExpression;)Z"⟩ : MethodName)) (z := (⟨"com/example/fact4/fact4/model/TimeExpression", "overlaps", "(Lcom/example/fact4/fact4/model/TimeExpression;)Z"⟩ : MethodName)) hown (mvT hZ (hw _ (List.mem_of_getElem? (i := 38) rfl))) (mvT hZ (hw _ (List.mem_of_getElem? (i := 39) rfl))) (notFace_of_selects (args := #[]) (mvT hZ (hw _ (List.mem_of_getElem? (i := 41) rfl)))) (mvT hZ (hw _ (List.mem_of_getElem? (i := 41) rfl))) (mvT hZ (hw _ (List.mem_of_getElem? (i := 40) rfl))) (by decide) (backOf (W := 0) (own_rm6 l Z aA hw [] b9 b21 (own_f1 p0 p1) (own_f2 p0 p1) (own_f1 p2 p3) (own_f2 p2 p3) T27.heap n0 (Nat.le_trans (Nat.le_trans (Nat.le_trans (Nat.le_trans (Nat.le_trans (Nat.le_trans Z0 E9.1) E11.1) K13.1) E21.1) E25.1) K27.1) Fc43 Fc44 f27_1 f27_2) hZ (hw _ (List.mem_of_getElem? (i := 42) rfl)) (hw _ (List.mem_of_getElem? (i := 9) rfl)) (by decide) (by decide)) q42a q42c (g := (mkF m 90 #[.val (.int p0), .val (.int p1), .val (.int p2), .val (.int p3), .val (.int (own_f1 p0 p1)), .val (.int (own_f2 p0 p1)), .val (.int (own_f1 p2 p3)), .val (.int (own_f2 p2 p3)), .val (.ref b9), .val (.ref b21), .val (.int ph40)] [(.ref b21), (.ref b9)])) rfl (by rw [hml]; rfl) (Steps.refl _) (argsL := [(.ref b21)]) (rest := []) (lenOf own_pd3 rfl) rfl (by show 2 * 0 + _ ≤ _; exact Nat.le_of_eq rfl) (hb hby at_90) (fun _ _ => ⟨rfl, ee37, Nat.le_of_ble_eq_true rfl, Nat.le_of_ble_eq_true rfl⟩)
    dsimp only [Pt.U, Pt.locs, Pt.cells, Pt.slots] at X42 l42 y42 z42 st42 hQ42
    subst l42 y42 z42
    obtain ⟨rfl, N42q, ee42⟩ := hQ42
    have N46 := Fr.app N38 N42q
    refine og_tr st42 ?_
    show OG p e below _ _ (T42.setTop (mkF m 93 #[.val (.int p0), .val (.int p1), .val (.int p2), .val (.int p3), .val (.int (own_f1 p0 p1)), .val (.int (own_f2 p0 p1)), .val (.int (own_f1 p2 p3)), .val (.int (own_f2 p2 p3)), .val (.ref b9), .val (.ref b21), .val (.int ph40)] [(.int (own_f6 b9 b21 (own_f1 p0 p1) (own_f2 p0 p1) (own_f1 p2 p3) (own_f2 p2 p3)))]))
    refine o_iload X42 hx rfl (hb hby at_93) rfl ?_
    have hk47 : (own_f6 b9 b21 (own_f1 p0 p1) (own_f2 p0 p1) (own_f1 p2 p3) (own_f2 p2 p3)) = ph40 := by rw [← hph40]; exact own_ov _ _ _ _ _ _ (own_mm _ _) (own_mm _ _)
    refine o_icmpN (pc' := 98) X42 hx rfl (hb hby at_95) (teq hk47).2 ?_
    refine o_aload X42 hx rfl (hb hby at_98) rfl rfl ?_
    refine o_aload X42 hx rfl (hb hby at_100) rfl rfl ?_
    have Fc49 : Exa Z T27.heap b21 "com/example/fact4/fact4/model/TimeExpression" := (Fc28.keep K27)
    obtain ⟨cq48, kq48, q48a, q48b, q48c⟩ := isOf hZ ee42 Fc49
    obtain ⟨_, _, ⟨T48, L48, k48, n48⟩, -, X48, ⟨Lc48, hQ48, l48, y48, z48⟩, st48⟩ := X42.virtualBack hx (y := (⟨"com/example/fact4/fact4/model/TimeExpression", "overlaps", "(Lcom/example/fact4/fact4/model/TimeExpression;)Z"⟩ : MethodName)) (z := (⟨"com/example/fact4/fact4/model/TimeExpression", "overlaps", "(Lcom/example/fact4/fact4/model/TimeExpression;)Z"⟩ : MethodName)) hown (mvT hZ (hw _ (List.mem_of_getElem? (i := 38) rfl))) (mvT hZ (hw _ (List.mem_of_getElem? (i := 39) rfl))) (notFace_of_selects (args := #[]) (mvT hZ (hw _ (List.mem_of_getElem? (i := 41) rfl)))) (mvT hZ (hw _ (List.mem_of_getElem? (i := 41) rfl))) (mvT hZ (hw _ (List.mem_of_getElem? (i := 40) rfl))) (by decide) (backOf (W := 0) (own_rm6 l Z aA hw [] b21 b9 (own_f1 p2 p3) (own_f2 p2 p3) (own_f1 p0 p1) (own_f2 p0 p1) T27.heap n0 (Nat.le_trans (Nat.le_trans (Nat.le_trans (Nat.le_trans (Nat.le_trans (Nat.le_trans Z0 E9.1) E11.1) K13.1) E21.1) E25.1) K27.1) f27_1 f27_2 Fc43 Fc44) hZ (hw _ (List.mem_of_getElem? (i := 42) rfl)) (hw _ (List.mem_of_getElem? (i := 9) rfl)) (by decide) (by decide)) q48a q48c (g := (mkF m 102 #[.val (.int p0), .val (.int p1), .val (.int p2), .val (.int p3), .val (.int (own_f1 p0 p1)), .val (.int (own_f2 p0 p1)), .val (.int (own_f1 p2 p3)), .val (.int (own_f2 p2 p3)), .val (.ref b9), .val (.ref b21), .val (.int ph40)] [(.ref b9), (.ref b21)])) rfl (by rw [hml]; rfl) (Steps.refl _) (argsL := [(.ref b9)]) (rest := []) (lenOf own_pd3 rfl) rfl (by show 2 * 0 + _ ≤ _; exact Nat.le_of_eq rfl) (hb hby at_102) (fun _ _ => ⟨rfl, ee42, Nat.le_of_ble_eq_true rfl, Nat.le_of_ble_eq_true rfl⟩)
    dsimp only [Pt.U, Pt.locs, Pt.cells, Pt.slots] at X48 l48 y48 z48 st48 hQ48
    subst l48 y48 z48
    obtain ⟨rfl, N48q, ee48⟩ := hQ48
    have N50 := Fr.app N46 N48q
    refine og_tr st48 ?_
    show OG p e below _ _ (T48.setTop (mkF m 105 #[.val (.int p0), .val (.int p1), .val (.int p2), .val (.int p3), .val (.int (own_f1 p0 p1)), .val (.int (own_f2 p0 p1)), .val (.int (own_f1 p2 p3)), .val (.int (own_f2 p2 p3)), .val (.ref b9), .val (.ref b21), .val (.int ph40)] [(.int (own_f6 b21 b9 (own_f1 p2 p3) (own_f2 p2 p3) (own_f1 p0 p1) (own_f2 p0 p1)))]))
    refine o_iload X48 hx rfl (hb hby at_105) rfl ?_
    have hk51 : (own_f6 b21 b9 (own_f1 p2 p3) (own_f2 p2 p3) (own_f1 p0 p1) (own_f2 p0 p1)) = ph40 := by rw [← hph40]; exact own_ov2 _ _ _ _ _ _ (own_mm _ _) (own_mm _ _)
    refine o_icmpN (pc' := 110) X48 hx rfl (hb hby at_107) (teq hk51).2 ?_
    refine o_iconst (z := (1 : Int32)) X48 hx rfl (hb hby at_110) (by decide) ?_
    refine o_goto (pc' := 115) X48 hx (hb hby at_111) (by decide) (by decide) ?_
    subst hph40
    exact o_retB X48 hx Bd.returns (own_lvW X48 hlk hS25 (by rw [ee48]; exact (Nat.le_trans hk25 K27.1)) (by decide) (by decide)) (hb hby at_115) (by decide) ⟨rfl, N50⟩
  by_cases hc52 : (own_f1 (own_f2 p0 p1) (own_f2 p2 p3)) < (own_f2 (own_f1 p0 p1) (own_f1 p2 p3))
  · skip
    refine o_icmpY (pc' := 83) X37 hx (hb hby at_76) (tlt hc52).2.2.1 (by decide) (by decide) ?_
    refine o_iconst (z := (0 : Int32)) X37 hx rfl (hb hby at_83) (by decide) ?_
    have q53 : ph40 = (0 : Int32) := by
      rw [← hph40]
      simp only [if_pos hc52]
    rw [q53] at J41
    exact J41
  · skip
    refine o_icmpN (pc' := 79) X37 hx rfl (hb hby at_76) (flt hc52).2.2.1 ?_
    refine o_iconst (z := (1 : Int32)) X37 hx rfl (hb hby at_79) (by decide) ?_
    refine o_goto (pc' := 84) X37 hx (hb hby at_80) (by decide) (by decide) ?_
    have q54 : ph40 = (1 : Int32) := by
      rw [← hph40]
      simp only [if_neg hc52]
    rw [q54] at J41
    exact J41
set_option maxRecDepth 65536 in
set_option maxHeartbeats 40000000 in
theorem own_comes {Post : Tables → Env → Array Value → State → Outcome → State → Prop} (hpost : ∀ tb e args s v u, (limb_1_1.after args s (.returned v) u = true ∧ limb_1_2.after args s (.returned v) u = true ∧ True) → ReturnedEndW s (.returned v) u (Jvm.fieldLocs frame_1_writes args s ++ Jvm.arrayLocs frame_1_arrays args s ++ Jvm.staticLocs frame_1_statics s) 16 2176 → Post tb e args s (.returned v) u) :
    ArmFor flags0 classFile x code maxLocals ret World_1 tables_1 room_1 Calls_1 rest_1 Pre_1 Post := by
  intro l hfl _ _ p e ha hc hk s m args below hf hA hF happ hP
  obtain ⟨hcalls, hrest, hpre⟩ := hP
  obtain ⟨-, -, -, hnamed, -, -, -, hat⟩ := (Spec.applies_iff hf).mp happ
  obtain ⟨hg, hn⟩ := and_e (Cond.before_iff.mp (show (Jvm.Cond.and given_1 narrow_1).before args s = true from hpre))
  obtain ⟨g0, gr0⟩ := and_e hg
  obtain ⟨gi0, gr1⟩ := and_e gr0
  obtain ⟨gi1, gr2⟩ := and_e gr1
  obtain ⟨gi2, gr3⟩ := and_e gr2
  have gi3 := gr3
  obtain ⟨w0, w1, w2, w3, rfl⟩ : ∃ w0 w1 w2 w3 : Value, args = #[w0, w1, w2, w3] := by
    have hs : args.size = 4 := by simpa [Cond.value, given_1] using g0
    obtain ⟨L⟩ := args
    match L, hs with
    | [w0, w1, w2, w3], _ => exact ⟨w0, w1, w2, w3, rfl⟩
  have hw := fun d (hd : d ∈ tables_1) => atoms_spec (ws := Jvm.Cond.code x code maxLocals ret :: tables_1) hat d (List.mem_cons_of_mem _ hd)
  have hfit : Fit s := fun {y c} hc i hi => by
    obtain ⟨ha, rfl⟩ := Array.getElem?_eq_some_iff.mp hc
    have q := List.all_eq_true.mp ((Array.all_eq_true_iff_forall_mem.mp hF) _ (Array.getElem_mem ha)) i (List.mem_range.mpr hi)
    simpa [Array.getElem?_eq_getElem hi] using q
  obtain ⟨i0, ei0⟩ := is_v gi0
  obtain rfl : w0 = (.int i0) := Option.some.inj ei0
  obtain ⟨i1, ei1⟩ := is_v gi1
  obtain rfl : w1 = (.int i1) := Option.some.inj ei1
  obtain ⟨i2, ei2⟩ := is_v gi2
  obtain rfl : w2 = (.int i2) := Option.some.inj ei2
  obtain ⟨i3, ei3⟩ := is_v gi3
  obtain rfl : w3 = (.int i3) := Option.some.inj ei3
  obtain ⟨n, o, h1, h2, h3, _, L, rfl, ⟨rfl, N⟩, hq⟩ := own_rm0 l s _ hw tables_1 i0 i1 i2 i3  s.heap s.heap.size (Nat.le_refl _)  p e ha hc hk s m _ below hf ((Spec.applies_iff_loose hf).mp happ).1 ⟨rfl, State.Warmed39.refl s, rfl⟩ trivial
  refine ⟨n, _, h1, h2, h3, hpost _ _ _ _ _ _ ⟨Cond.after_iff.mpr rfl, Cond.after_iff.mpr (eq_i res_at (Term.int_eval (1)) rfl), trivial⟩ ⟨hq.1, hq.2.1, hq.2.2.1, (hq.2.2.2.sift fun y hy => Or.inr (N y hy)).mono (by decide) (by decide)⟩⟩
theorem main_1_1 : Claimed_1_1 := own_comes fun _ _ _ _ _ _ h hF => ⟨h.1, hF⟩
theorem main_1_2 : Claimed_1_2 := own_comes fun _ _ _ _ _ _ h hF => ⟨h.2.1, hF⟩
end Jvm.Pilot.@@N@@
namespace Jvm.Pilot.@@N@@
open Jvm Jvm.ClassFile Sem Op Lib Jvm.Free Jvm.Stand Jvm.Pilot.@@N@@.Jvm.D
/-! MADE BY PROGRAM (witnessworld.py) out of the Statement's table words and the real class files: 16 classes; the members and pool entries that the words name. The judged class is class 1, her method 1. -/
namespace start1
open Jvm.ClassFile
def u (s : String) : CpInfo := .utf8 (stringToUtf16 s)
/-- a pool by its gaps: so many unusable entries, then the entry; so many at the end -/
def gap : Nat → List CpInfo → List CpInfo
  | 0, r => r
  | n + 1, r => .unusable :: gap n r
def poolList (es : List (Nat × CpInfo)) (last : Nat) : List CpInfo := es.foldr (fun e r => gap e.1 (e.2 :: r)) (gap last [])
def pool (es : List (Nat × CpInfo)) (last : Nat) : Array CpInfo := ⟨poolList es last⟩
def fileOf (pool : Array CpInfo) (this : Nat) (attrs : Array Attribute := #[]) (ms : Array MethodInfo := #[]) (fl : Nat := 33) (sup : Nat := 0) (ifs : Array Nat := #[]) (fds : Array FieldInfo := #[]) : ClassFile where
  minorVersion := 0
  majorVersion := 65
  constantPool := pool
  accessFlags := fl
  thisClass := this
  superClass := sup
  interfaces := ifs
  fields := fds
  methods := ms
  attributes := attrs
def plain (name : String) (sup : Option ClassId) : Class where
  name := name
  kind := .ordinary
  loader := none
  accessFlags := 33
  super := sup
  interfaces := #[]
  cf := none
  fields := #[]
  methods := #[]
  instanceTypes := #[]
  staticTypes := #[]
  resolved := #[]
  callSites := []
  init := .initialized
  statics := none
  mirror := none

def pool0 : Array CpInfo := pool [(5, u "<init>"), (0, u "()V"), (1, .class_ 10), (1, u "java/lang/Object")] 113

def k0c0 : Code := { maxStack := 0, maxLocals := 1, code := object_method_1_code, exceptionTable := #[], attributes := #[] }
def k0m0 : Method := { name := "<init>", desc := "()V", sig := { parameters := [], returnType := none }, accessFlags := 1, code := some k0c0 }
/-- java/lang/Object -/
def k0 : Class := { plain "java/lang/Object" none with
  accessFlags := 33
  interfaces := #[]
  cf := some (fileOf pool0 8 #[] #[{ accessFlags := 1, nameIndex := 5, descriptorIndex := 6, attributes := #[] }] 33 0 #[] #[])
  fields := #[]
  methods := #[k0m0]
  instanceTypes := #[]
  staticTypes := #[]
  resolved := Array.replicate 124 none
  statics := none }

def pool1 : Array CpInfo := pool [(2, .class_ 4), (1, u "java/lang/Object"), (0, u "<init>"), (0, u "()V"), (0, .methodref 8 9), (0, .class_ 10), (0, .nameAndType 11 12), (0, u "java/lang/Math"), (0, u "min"), (0, u "(II)I"), (0, .methodref 8 14), (0, .nameAndType 15 12), (0, u "max"), (0, .class_ 17), (0, u "com/example/fact4/fact4/model/TimeExpression"), (0, .string 19), (0, u "x"), (0, .methodref 16 21), (0, .nameAndType 5 22), (0, u "(Ljava/lang/String;III)V"), (0, .string 24), (0, u "y"), (0, .methodref 16 26), (0, .nameAndType 27 28), (0, u "overlaps"), (0, u "(Lcom/example/fact4/fact4/model/TimeExpression;)Z"), (0, .class_ 30), (0, u "com/example/fact4/fact4/model/TimeExpressionOverlapsPinLaw"), (2, u "law"), (0, u "(IIII)Z")] 3

def k1m0 : Method := { name := "<init>", desc := "()V", sig := { parameters := [], returnType := none }, accessFlags := 1, code := none }
def k1c1 : Code := { maxStack := 6, maxLocals := 11, code := code, exceptionTable := #[], attributes := #[] }
def k1m1 : Method := { name := "law", desc := "(IIII)Z", sig := { parameters := [.int, .int, .int, .int], returnType := some .boolean }, accessFlags := 9, code := some k1c1 }
/-- com/example/fact4/fact4/model/TimeExpressionOverlapsPinLaw -/
def k1 : Class := { plain "com/example/fact4/fact4/model/TimeExpressionOverlapsPinLaw" (some 0) with
  accessFlags := 49
  interfaces := #[]
  cf := some (fileOf pool1 29 #[] #[{ accessFlags := 1, nameIndex := 5, descriptorIndex := 6, attributes := #[] }, { accessFlags := 9, nameIndex := 33, descriptorIndex := 34, attributes := #[] }] 49 2 #[] #[])
  fields := #[]
  methods := #[k1m0, k1m1]
  instanceTypes := #[]
  staticTypes := #[]
  resolved := Array.replicate 38 none
  statics := none }

def pool2 : Array CpInfo := pool [(1, .class_ 2), (0, u "java/lang/Math"), (1, .class_ 6), (1, u "java/lang/Object"), (0, u "<init>"), (0, u "()V"), (89, .class_ 100), (1, u "java/lang/Math$RandomNumberGeneratorHolder"), (71, u "negativeZeroFloatBits"), (0, u "J"), (2, u "negativeZeroDoubleBits"), (21, u "max"), (2, u "min"), (43, u "$assertionsDisabled"), (0, u "Z"), (88, u "(II)I"), (2, u "twoToTheDoubleScaleDown"), (0, u "D"), (4, u "twoToTheDoubleScaleUp"), (9, u "E"), (3, u "PI"), (2, u "TAU"), (2, u "DEGREES_TO_RADIANS"), (0, u "RADIANS_TO_DEGREES")] 94

def k2m0 : Method := { name := "<init>", desc := "()V", sig := { parameters := [], returnType := none }, accessFlags := 2, code := none }
def k2c1 : Code := { maxStack := 2, maxLocals := 2, code := jdk_29_method_65_code, exceptionTable := #[], attributes := #[] }
def k2m1 : Method := { name := "max", desc := "(II)I", sig := { parameters := [.int, .int], returnType := some .int }, accessFlags := 9, code := some k2c1 }
def k2c2 : Code := { maxStack := 2, maxLocals := 2, code := jdk_29_method_69_code, exceptionTable := #[], attributes := #[] }
def k2m2 : Method := { name := "min", desc := "(II)I", sig := { parameters := [.int, .int], returnType := some .int }, accessFlags := 9, code := some k2c2 }
/-- java/lang/Math -/
def k2 : Class := { plain "java/lang/Math" (some 0) with
  accessFlags := 49
  interfaces := #[]
  cf := some (fileOf pool2 1 #[.nestMembers #[98]] #[{ accessFlags := 2, nameIndex := 7, descriptorIndex := 8, attributes := #[] }, { accessFlags := 9, nameIndex := 198, descriptorIndex := 335, attributes := #[] }, { accessFlags := 9, nameIndex := 201, descriptorIndex := 335, attributes := #[] }] 49 4 #[] #[{ accessFlags := 25, nameIndex := 354, descriptorIndex := 339, attributes := #[] }, { accessFlags := 25, nameIndex := 358, descriptorIndex := 339, attributes := #[] }, { accessFlags := 25, nameIndex := 361, descriptorIndex := 339, attributes := #[] }, { accessFlags := 26, nameIndex := 364, descriptorIndex := 339, attributes := #[] }, { accessFlags := 26, nameIndex := 365, descriptorIndex := 339, attributes := #[] }, { accessFlags := 26, nameIndex := 172, descriptorIndex := 173, attributes := #[] }, { accessFlags := 26, nameIndex := 176, descriptorIndex := 173, attributes := #[] }, { accessFlags := 8, nameIndex := 344, descriptorIndex := 339, attributes := #[] }, { accessFlags := 8, nameIndex := 338, descriptorIndex := 339, attributes := #[] }, { accessFlags := 4120, nameIndex := 245, descriptorIndex := 246, attributes := #[] }])
  fields := #[{ name := "E", type := .double, accessFlags := 25, slot := 0, constantValue := 0 }, { name := "PI", type := .double, accessFlags := 25, slot := 1, constantValue := 0 }, { name := "TAU", type := .double, accessFlags := 25, slot := 2, constantValue := 0 }, { name := "DEGREES_TO_RADIANS", type := .double, accessFlags := 26, slot := 3, constantValue := 0 }, { name := "RADIANS_TO_DEGREES", type := .double, accessFlags := 26, slot := 4, constantValue := 0 }, { name := "negativeZeroFloatBits", type := .long, accessFlags := 26, slot := 5, constantValue := 0 }, { name := "negativeZeroDoubleBits", type := .long, accessFlags := 26, slot := 6, constantValue := 0 }, { name := "twoToTheDoubleScaleUp", type := .double, accessFlags := 8, slot := 7, constantValue := 0 }, { name := "twoToTheDoubleScaleDown", type := .double, accessFlags := 8, slot := 8, constantValue := 0 }, { name := "$assertionsDisabled", type := .boolean, accessFlags := 4120, slot := 9, constantValue := 0 }]
  methods := #[k2m0, k2m1, k2m2]
  instanceTypes := #[]
  staticTypes := #[.double, .double, .double, .double, .double, .long, .long, .double, .double, .boolean]
  resolved := Array.replicate 460 none
  statics := none }

def pool3 : Array CpInfo := pool [(1, .methodref 2 3), (0, .class_ 4), (0, .nameAndType 5 6), (0, u "java/lang/Object"), (0, u "<init>"), (0, u "()V"), (0, .class_ 8), (0, u "java/lang/Record")] 13

def k3c0 : Code := { maxStack := 1, maxLocals := 1, code := jdk_30_method_1_code, exceptionTable := #[], attributes := #[] }
def k3m0 : Method := { name := "<init>", desc := "()V", sig := { parameters := [], returnType := none }, accessFlags := 4, code := some k3c0 }
/-- java/lang/Record -/
def k3 : Class := { plain "java/lang/Record" (some 0) with
  accessFlags := 1057
  interfaces := #[]
  cf := some (fileOf pool3 7 #[] #[{ accessFlags := 4, nameIndex := 5, descriptorIndex := 6, attributes := #[] }] 1057 2 #[] #[])
  fields := #[]
  methods := #[k3m0]
  instanceTypes := #[]
  staticTypes := #[]
  resolved := Array.replicate 22 none
  statics := none }

def pool4 : Array CpInfo := pool [(1, .methodref 2 3), (0, .class_ 4), (0, .nameAndType 5 6), (0, u "java/lang/Record"), (0, u "<init>"), (0, u "()V"), (0, .fieldref 8 9), (0, .class_ 10), (0, .nameAndType 11 12), (0, u "com/example/fact4/fact4/model/TimeExpression"), (0, u "text"), (0, u "Ljava/lang/String;"), (0, .fieldref 8 14), (0, .nameAndType 15 16), (0, u "from"), (0, u "I"), (0, .fieldref 8 18), (0, .nameAndType 19 16), (0, u "to"), (0, .fieldref 8 21), (0, .nameAndType 22 16), (0, u "agreedFrom"), (12, u "(Ljava/lang/String;III)V"), (3, u "overlaps"), (0, u "(Lcom/example/fact4/fact4/model/TimeExpression;)Z")] 27

def k4c0 : Code := { maxStack := 2, maxLocals := 5, code := prog_45_method_1_code, exceptionTable := #[], attributes := #[] }
def k4m0 : Method := { name := "<init>", desc := "(Ljava/lang/String;III)V", sig := { parameters := [(.object "java/lang/String"), .int, .int, .int], returnType := none }, accessFlags := 1, code := some k4c0 }
def k4c1 : Code := { maxStack := 2, maxLocals := 2, code := prog_45_method_2_code, exceptionTable := #[], attributes := #[] }
def k4m1 : Method := { name := "overlaps", desc := "(Lcom/example/fact4/fact4/model/TimeExpression;)Z", sig := { parameters := [(.object "com/example/fact4/fact4/model/TimeExpression")], returnType := some .boolean }, accessFlags := 1, code := some k4c1 }
/-- com/example/fact4/fact4/model/TimeExpression -/
def k4 : Class := { plain "com/example/fact4/fact4/model/TimeExpression" (some 3) with
  accessFlags := 49
  interfaces := #[]
  cf := some (fileOf pool4 8 #[] #[{ accessFlags := 1, nameIndex := 5, descriptorIndex := 35, attributes := #[] }, { accessFlags := 1, nameIndex := 39, descriptorIndex := 40, attributes := #[] }] 49 2 #[] #[{ accessFlags := 18, nameIndex := 11, descriptorIndex := 12, attributes := #[] }, { accessFlags := 18, nameIndex := 15, descriptorIndex := 16, attributes := #[] }, { accessFlags := 18, nameIndex := 19, descriptorIndex := 16, attributes := #[] }, { accessFlags := 18, nameIndex := 22, descriptorIndex := 16, attributes := #[] }])
  fields := #[{ name := "text", type := (.object "java/lang/String"), accessFlags := 18, slot := 0, constantValue := 0 }, { name := "from", type := .int, accessFlags := 18, slot := 1, constantValue := 0 }, { name := "to", type := .int, accessFlags := 18, slot := 2, constantValue := 0 }, { name := "agreedFrom", type := .int, accessFlags := 18, slot := 3, constantValue := 0 }]
  methods := #[k4m0, k4m1]
  instanceTypes := #[(.object "java/lang/String"), .int, .int, .int]
  staticTypes := #[]
  resolved := Array.replicate 68 none
  statics := none }

def pool5 : Array CpInfo := pool [(1, .class_ 2), (0, u "java/io/Serializable"), (0, .class_ 4), (0, u "java/lang/Object")] 2

/-- java/io/Serializable -/
def k5 : Class := { plain "java/io/Serializable" (some 0) with
  accessFlags := 1537
  interfaces := #[]
  cf := some (fileOf pool5 1 #[] #[] 1537 3 #[] #[])
  fields := #[]
  methods := #[]
  instanceTypes := #[]
  staticTypes := #[]
  resolved := Array.replicate 7 none
  statics := none }

def pool6 : Array CpInfo := pool [(1, .class_ 2), (0, u "java/lang/Comparable"), (0, .class_ 4), (0, u "java/lang/Object")] 7

/-- java/lang/Comparable -/
def k6 : Class := { plain "java/lang/Comparable" (some 0) with
  accessFlags := 1537
  interfaces := #[]
  cf := some (fileOf pool6 1 #[] #[] 1537 3 #[] #[])
  fields := #[]
  methods := #[]
  instanceTypes := #[]
  staticTypes := #[]
  resolved := Array.replicate 12 none
  statics := none }

def pool7 : Array CpInfo := pool [(2, .class_ 4), (1, u "java/lang/CharSequence"), (42, .class_ 48), (0, u "java/lang/CharSequence$1CodePointIterator"), (10, .class_ 60), (0, u "java/lang/CharSequence$1CharIterator"), (5, .class_ 67), (0, u "java/lang/Object")] 63

/-- java/lang/CharSequence -/
def k7 : Class := { plain "java/lang/CharSequence" (some 0) with
  accessFlags := 1537
  interfaces := #[]
  cf := some (fileOf pool7 2 #[.nestMembers #[47, 59]] #[] 1537 66 #[] #[])
  fields := #[]
  methods := #[]
  instanceTypes := #[]
  staticTypes := #[]
  resolved := Array.replicate 131 none
  statics := none }

def pool8 : Array CpInfo := pool [(1, .class_ 2), (0, u "java/lang/constant/Constable"), (0, .class_ 4), (0, u "java/lang/Object")] 6

/-- java/lang/constant/Constable -/
def k8 : Class := { plain "java/lang/constant/Constable" (some 0) with
  accessFlags := 1537
  interfaces := #[]
  cf := some (fileOf pool8 1 #[] #[] 1537 3 #[] #[])
  fields := #[]
  methods := #[]
  instanceTypes := #[]
  staticTypes := #[]
  resolved := Array.replicate 11 none
  statics := none }

def pool9 : Array CpInfo := pool [(1, .class_ 2), (0, u "java/lang/constant/ConstantDesc"), (0, .class_ 4), (0, u "java/lang/Object")] 32

/-- java/lang/constant/ConstantDesc -/
def k9 : Class := { plain "java/lang/constant/ConstantDesc" (some 0) with
  accessFlags := 1537
  interfaces := #[]
  cf := some (fileOf pool9 1 #[] #[] 1537 3 #[] #[])
  fields := #[]
  methods := #[]
  instanceTypes := #[]
  staticTypes := #[]
  resolved := Array.replicate 37 none
  statics := none }

def pool10 : Array CpInfo := pool [(2, .class_ 4), (1, u "java/lang/Object"), (0, u "<init>"), (0, u "()V"), (3, .class_ 12), (1, u "java/lang/String"), (0, u "value"), (0, u "[B"), (2, u "coder"), (0, u "B"), (2, u "hash"), (0, u "I"), (2, u "hashIsZero"), (0, u "Z"), (13, u "COMPACT_STRINGS"), (534, .class_ 576), (0, u "java/lang/CharSequence"), (22, u "CASE_INSENSITIVE_ORDER"), (0, u "Ljava/util/Comparator;"), (500, u "serialPersistentFields"), (0, u "[Ljava/io/ObjectStreamField;"), (0, .class_ 1104), (0, u "java/lang/String$CaseInsensitiveComparator"), (1, .class_ 1107), (0, u "java/io/Serializable"), (0, .class_ 1109), (0, u "java/lang/Comparable"), (0, .class_ 1111), (0, u "java/lang/constant/Constable"), (0, .class_ 1113), (0, u "java/lang/constant/ConstantDesc"), (2, u "serialVersionUID"), (0, u "J"), (3, u "REPL"), (0, u "C"), (2, u "LATIN1"), (1, u "UTF16")] 323

def k10m0 : Method := { name := "<init>", desc := "()V", sig := { parameters := [], returnType := none }, accessFlags := 1, code := none }
/-- java/lang/String -/
def k10 : Class := { plain "java/lang/String" (some 0) with
  accessFlags := 49
  interfaces := #[5, 6, 7, 8, 9]
  cf := some (fileOf pool10 10 #[.nestMembers #[1103]] #[{ accessFlags := 1, nameIndex := 5, descriptorIndex := 6, attributes := #[] }] 49 2 #[1106, 1108, 575, 1110, 1112] #[{ accessFlags := 18, nameIndex := 13, descriptorIndex := 14, attributes := #[] }, { accessFlags := 18, nameIndex := 17, descriptorIndex := 18, attributes := #[] }, { accessFlags := 2, nameIndex := 21, descriptorIndex := 22, attributes := #[] }, { accessFlags := 2, nameIndex := 25, descriptorIndex := 26, attributes := #[] }, { accessFlags := 26, nameIndex := 1116, descriptorIndex := 1117, attributes := #[] }, { accessFlags := 24, nameIndex := 40, descriptorIndex := 26, attributes := #[] }, { accessFlags := 26, nameIndex := 1101, descriptorIndex := 1102, attributes := #[] }, { accessFlags := 26, nameIndex := 1121, descriptorIndex := 1122, attributes := #[] }, { accessFlags := 25, nameIndex := 599, descriptorIndex := 600, attributes := #[] }, { accessFlags := 24, nameIndex := 1125, descriptorIndex := 18, attributes := #[] }, { accessFlags := 24, nameIndex := 1127, descriptorIndex := 18, attributes := #[] }])
  fields := #[{ name := "value", type := (.array .byte), accessFlags := 18, slot := 0, constantValue := 0 }, { name := "coder", type := .byte, accessFlags := 18, slot := 1, constantValue := 0 }, { name := "hash", type := .int, accessFlags := 2, slot := 2, constantValue := 0 }, { name := "hashIsZero", type := .boolean, accessFlags := 2, slot := 3, constantValue := 0 }, { name := "serialVersionUID", type := .long, accessFlags := 26, slot := 0, constantValue := 0 }, { name := "COMPACT_STRINGS", type := .boolean, accessFlags := 24, slot := 1, constantValue := 0 }, { name := "serialPersistentFields", type := (.array (.object "java/io/ObjectStreamField")), accessFlags := 26, slot := 2, constantValue := 0 }, { name := "REPL", type := .char, accessFlags := 26, slot := 3, constantValue := 0 }, { name := "CASE_INSENSITIVE_ORDER", type := (.object "java/util/Comparator"), accessFlags := 25, slot := 4, constantValue := 0 }, { name := "LATIN1", type := .byte, accessFlags := 24, slot := 5, constantValue := 0 }, { name := "UTF16", type := .byte, accessFlags := 24, slot := 6, constantValue := 0 }]
  methods := #[k10m0]
  instanceTypes := #[(.array .byte), .byte, .int, .boolean]
  staticTypes := #[.long, .boolean, (.array (.object "java/io/ObjectStreamField")), .char, (.object "java/util/Comparator"), .byte, .byte]
  resolved := Array.replicate 1451 none
  statics := none }

def pool11 : Array CpInfo := pool [(1, u "java/lang/Cloneable"), (0, .class_ 1), (0, u "java/lang/Object"), (0, .class_ 3)] 3

/-- java/lang/Cloneable -/
def k11 : Class := { plain "java/lang/Cloneable" (some 0) with
  accessFlags := 1537
  interfaces := #[]
  cf := some (fileOf pool11 2 #[] #[] 1537 4 #[] #[])
  fields := #[]
  methods := #[]
  instanceTypes := #[]
  staticTypes := #[]
  resolved := Array.replicate 8 none
  statics := none }

/-- the primitive byte -/
def k12 : Class := { plain "byte" none with kind := .primitive 'B', accessFlags := 0x411 }
/-- [B -/
def k13 : Class := { plain "[B" (some 0) with kind := .array 12 .byte, interfaces := #[11, 5], accessFlags := 1041 }

/-- the primitive int -/
def k14 : Class := { plain "int" none with kind := .primitive 'I', accessFlags := 0x411 }
/-- [I -/
def k15 : Class := { plain "[I" (some 0) with kind := .array 14 .int, interfaces := #[11, 5], accessFlags := 1041 }

def heap : Heap := #[]
def classes : Array Class := #[k0, k1, k2, k3, k4, k5, k6, k7, k8, k9, k10, k11, k12, k13, k14, k15]
def interned : List (Array UInt16 × Addr) := []
def slotsUsed : Nat := 0
def theMethod : MethodId := ⟨1, 1⟩
def args0 : Array Value := #[.int 0, .int 1, .int 2, .int 3]
def aboutOver (below : List Frame) : State where
  vm := { classes := classes, interned := interned.toArray }
  heap := heap
  slotsUsed := slotsUsed
  threads := #[{ frames := .invoking theMethod args0 :: below }]
def below0 : List Frame := [.native { method := ⟨0, 0⟩, args := #[] }]
def about1 : State := aboutOver below0
def p0 : Program := .bare "" "" ""
def e0 : Env := launch0.env 0 0 0
theorem w_frames : about1.frames = Frame.invoking theMethod args0 :: below0 := rfl
set_option maxRecDepth 65536 in
theorem w_args : argsFit about1.vm theMethod args0 = true := by decide +kernel
set_option maxRecDepth 65536 in
theorem w_heap : heapFits about1 = true := by decide +kernel
set_option maxRecDepth 65536 in
theorem w_runnable : about1.curStatus? = some .runnable := by decide +kernel
set_option maxRecDepth 65536 in
theorem w_alone : about1.alone = true := by decide +kernel
set_option maxRecDepth 65536 in
theorem w_named : about1.methodNamed? x = some theMethod := by decide +kernel
set_option maxRecDepth 65536 in
theorem w_hears : about1.hears theMethod below0 = true := by decide +kernel
set_option maxRecDepth 65536 in
theorem w_ripe : about1.ripe theMethod args0 below0 = true := by decide +kernel
theorem w_running : about1.status = .running := rfl
set_option maxRecDepth 65536 in
theorem w_room : about1.hasRoom e0.platform room_1 = true :=
  launch0.hasRoom_least _ room_1 (by decide +kernel) (by decide +kernel) (by decide +kernel) (by decide +kernel) (by decide +kernel) (by decide +kernel)
theorem allAtoms_all (ts : List Jvm.Cond) (a : Array Jvm.Value) (st : Jvm.State) : (allAtoms ts).before a st = ts.all (fun c => c.before a st) := by
  induction ts with
  | nil => rfl
  | cons c t ih =>
    show (Jvm.Cond.and c (allAtoms t)).before a st = _
    rw [Jvm.Cond.before_and, ih, List.all_cons]
def words1 : List Jvm.Cond := Jvm.Cond.code x code maxLocals ret :: tables_1
/-- a 'code' word, met by the world's own term for the bytes: nothing is compared byte by byte -/
theorem code_word {y : MethodName} {bytes : ByteArray} {mx : Nat} {rt : Option FieldType} {a : Array Value} {s : State} {m : MethodId} {meth : Method} {c : Code} (h1 : s.methodNamed? y = some m) (h2 : s.vm.method? m = some meth) (h3 : meth.code = some c) (h4 : c.code = bytes)
    (h5 : (c.maxLocals == mx && c.exceptionTable.isEmpty && decide (c.maxStack ≤ mostOperands) && decide (meth.sig.returnType = rt) && !meth.locks && decide (parseMethodDescriptor y.desc = some meth.sig)) = true) : (Jvm.Cond.code y bytes mx rt).before a s = true := by
  simp only [Bool.and_eq_true, beq_iff_eq, Bool.not_eq_true', decide_eq_true_eq] at h5
  obtain ⟨⟨⟨⟨⟨g1, g2⟩, g3⟩, g4⟩, g5⟩, g6⟩ := h5
  simp [Cond.before, Cond.holds, Cond.value, h1, h2, h3, h4, g1, g2, g3, g4, g5, g6]
def isCode : Jvm.Cond → Bool
  | .code _ _ _ _ => true
  | _ => false
theorem all_split {L : List Jvm.Cond} {P : Jvm.Cond → Bool} (h1 : L.all (fun c => isCode c || P c) = true) (h2 : ∀ c ∈ L.filter isCode, P c = true) : L.all P = true := by
  refine List.all_eq_true.mpr fun c hc => ?_
  have h := List.all_eq_true.mp h1 c hc
  rcases Bool.eq_false_or_eq_true (isCode c) with hi | hi
  · exact h2 c (List.mem_filter.mpr ⟨hc, hi⟩)
  · simpa [hi] using h
set_option maxRecDepth 65536 in
theorem w_c0 : (Jvm.Cond.code x code maxLocals ret).before args0 about1 = true := code_word (m := ⟨1, 1⟩) (meth := k1m1) (c := k1c1) (by decide +kernel) rfl rfl rfl (by decide +kernel)
set_option maxRecDepth 65536 in
theorem w_c1 : (Jvm.Cond.code ({ cls := "java/lang/Math", name := "min", desc := "(II)I" } : Jvm.MethodName) jdk_29_method_69_code (2 : Nat) (Option.some Jvm.ClassFile.FieldType.int)).before args0 about1 = true := code_word (m := ⟨2, 2⟩) (meth := k2m2) (c := k2c2) (by decide +kernel) rfl rfl rfl (by decide +kernel)
set_option maxRecDepth 65536 in
theorem w_c2 : (Jvm.Cond.code ({ cls := "java/lang/Math", name := "max", desc := "(II)I" } : Jvm.MethodName) jdk_29_method_65_code (2 : Nat) (Option.some Jvm.ClassFile.FieldType.int)).before args0 about1 = true := code_word (m := ⟨2, 1⟩) (meth := k2m1) (c := k2c1) (by decide +kernel) rfl rfl rfl (by decide +kernel)
set_option maxRecDepth 65536 in
theorem w_c3 : (Jvm.Cond.code ({ cls := "com/example/fact4/fact4/model/TimeExpression", name := "<init>", desc := "(Ljava/lang/String;III)V" } : Jvm.MethodName) prog_45_method_1_code (5 : Nat) (Option.none : Option Jvm.ClassFile.FieldType)).before args0 about1 = true := code_word (m := ⟨4, 0⟩) (meth := k4m0) (c := k4c0) (by decide +kernel) rfl rfl rfl (by decide +kernel)
set_option maxRecDepth 65536 in
theorem w_c4 : (Jvm.Cond.code ({ cls := "java/lang/Record", name := "<init>", desc := "()V" } : Jvm.MethodName) jdk_30_method_1_code (1 : Nat) (Option.none : Option Jvm.ClassFile.FieldType)).before args0 about1 = true := code_word (m := ⟨3, 0⟩) (meth := k3m0) (c := k3c0) (by decide +kernel) rfl rfl rfl (by decide +kernel)
set_option maxRecDepth 65536 in
theorem w_c5 : (Jvm.Cond.code ({ cls := "java/lang/Object", name := "<init>", desc := "()V" } : Jvm.MethodName) object_method_1_code (1 : Nat) (Option.none : Option Jvm.ClassFile.FieldType)).before args0 about1 = true := code_word (m := ⟨0, 0⟩) (meth := k0m0) (c := k0c0) (by decide +kernel) rfl rfl rfl (by decide +kernel)
set_option maxRecDepth 65536 in
theorem w_c6 : (Jvm.Cond.code ({ cls := "com/example/fact4/fact4/model/TimeExpression", name := "overlaps", desc := "(Lcom/example/fact4/fact4/model/TimeExpression;)Z" } : Jvm.MethodName) prog_45_method_2_code (2 : Nat) (Option.some Jvm.ClassFile.FieldType.boolean)).before args0 about1 = true := code_word (m := ⟨4, 1⟩) (meth := k4m1) (c := k4c1) (by decide +kernel) rfl rfl rfl (by decide +kernel)
def codes1 : List Jvm.Cond := [Jvm.Cond.code x code maxLocals ret, Jvm.Cond.code ({ cls := "java/lang/Math", name := "min", desc := "(II)I" } : Jvm.MethodName) jdk_29_method_69_code (2 : Nat) (Option.some Jvm.ClassFile.FieldType.int), Jvm.Cond.code ({ cls := "java/lang/Math", name := "max", desc := "(II)I" } : Jvm.MethodName) jdk_29_method_65_code (2 : Nat) (Option.some Jvm.ClassFile.FieldType.int), Jvm.Cond.code ({ cls := "com/example/fact4/fact4/model/TimeExpression", name := "<init>", desc := "(Ljava/lang/String;III)V" } : Jvm.MethodName) prog_45_method_1_code (5 : Nat) (Option.none : Option Jvm.ClassFile.FieldType), Jvm.Cond.code ({ cls := "java/lang/Record", name := "<init>", desc := "()V" } : Jvm.MethodName) jdk_30_method_1_code (1 : Nat) (Option.none : Option Jvm.ClassFile.FieldType), Jvm.Cond.code ({ cls := "java/lang/Object", name := "<init>", desc := "()V" } : Jvm.MethodName) object_method_1_code (1 : Nat) (Option.none : Option Jvm.ClassFile.FieldType), Jvm.Cond.code ({ cls := "com/example/fact4/fact4/model/TimeExpression", name := "overlaps", desc := "(Lcom/example/fact4/fact4/model/TimeExpression;)Z" } : Jvm.MethodName) prog_45_method_2_code (2 : Nat) (Option.some Jvm.ClassFile.FieldType.boolean)]
set_option maxRecDepth 65536 in
theorem codes_eq : words1.filter isCode = codes1 := rfl
theorem w_codes : ∀ c ∈ words1.filter isCode, c.before args0 about1 = true := by
  rw [codes_eq]
  intro c hc
  simp only [codes1, List.mem_cons, List.not_mem_nil, or_false] at hc
  rcases hc with rfl | rfl | rfl | rfl | rfl | rfl | rfl
  · exact w_c0
  · exact w_c1
  · exact w_c2
  · exact w_c3
  · exact w_c4
  · exact w_c5
  · exact w_c6
set_option maxRecDepth 65536 in
theorem w_t1 : (words1.take 24).all (fun c => isCode c || c.before args0 about1) = true := by decide +kernel
set_option maxRecDepth 65536 in
theorem w_t2 : (words1.drop 24).all (fun c => isCode c || c.before args0 about1) = true := by decide +kernel
theorem w_tables : (allAtoms (Jvm.Cond.code x code maxLocals ret :: tables_1)).before args0 about1 = true := by
  rw [allAtoms_all]
  show words1.all (fun c => c.before args0 about1) = true
  refine all_split ?_ w_codes
  rw [← List.take_append_drop 24 words1, List.all_append, w_t1, w_t2]
  rfl
set_option maxRecDepth 65536 in
theorem w_case : (Jvm.Cond.and given_1 narrow_1).before args0 about1 = true := by decide +kernel
theorem w_applies : (headSpec (Jvm.Cond.code x code maxLocals ret :: tables_1) room_1).applies x e0.platform about1 = true :=
  (Spec.applies_iff w_frames).mpr ⟨w_running, w_runnable, w_alone, w_named, w_hears, w_ripe, w_room, w_tables⟩
theorem atStart : AtStart classFile x code maxLocals ret World_1 tables_1 room_1 Calls_1 rest_1 Pre_1 launch0 p0 e0 about1 theMethod args0 below0 :=
  ⟨lists_1, trivial, launch0.admits_env _ _ _, launch0.least_env, fairChoices_fair.cas, fairChoices_fair.clock, w_frames, w_args, w_heap, w_applies, trivial, trivial, w_case⟩
end start1
theorem witness_1 : WitnessClaimed_1 := ⟨start1.p0, start1.e0, start1.about1, start1.theMethod, start1.args0, start1.below0, start1.atStart⟩
end Jvm.Pilot.@@N@@

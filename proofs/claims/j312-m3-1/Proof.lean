import JvmDerived
import JvmDerived.Pilot.@@N@@Statement
import JvmDerived.Pilot.@@N@@Code
set_option linter.unusedVariables false
set_option linter.unusedSimpArgs false
namespace Jvm.RoadKit
open Sem ClassFile Op Lib Jvm.Stand Jvm.Free Jvm.LawKit
section Own
variable {p : Program} {l : Launch} {e : Env} {R : Room} {s : State} {m : MethodId} {args : Array Value} {below : List Frame} {meth : Method} {c : Code} {T : State} {locs : List Loc} {cells slots : Nat} {Q : Option Value → Heap → List Loc → Prop} {Φ : Outcome → State → List Loc → Prop} {k n : Nat} {pc pc' : Nat} {L L' : Array Slot} {S : List Value}
def OG (p : Program) (e : Env) (below : List Frame) (Φ : Outcome → State → List Loc → Prop) (Q : Option Value → Heap → List Loc → Prop) (t : State) : Prop :=
  ∃ s₂ o, Steps p.tables e below t s₂ ∧ s₂.status = .running ∧ Ended s₂ below o ∧ ∃ v L, o = .returned v ∧ Q v s₂.heap L ∧ Φ o s₂ L
abbrev FE (s : State) (k n : Nat) : Outcome → State → List Loc → Prop := fun o t L => FrameEnd s o t L k n
abbrev FEW (s : State) (k n : Nat) : Outcome → State → List Loc → Prop := fun o t L => ReturnedEndW s o t L k n
theorem og_of {t t' : State} (st : ∀ g, Steps p.tables e below t' g → Steps p.tables e below t g) (G : OG p e below Φ Q t') : OG p e below Φ Q t := by
  obtain ⟨s₂, o, h, r⟩ := G; exact ⟨s₂, o, st _ h, r⟩
theorem og_tr {t t' : State} (st : Steps p.tables e below t t') (G : OG p e below Φ Q t') : OG p e below Φ Q t := og_of (fun _ k => st.trans k) G
def Lv (e : Env) (below : List Frame) (Φ : Outcome → State → List Loc → Prop) (m : MethodId) (meth : Method) (T : State) (locs : List Loc) : Prop :=
  ∀ v : Option Value, (meth.sig.returnType = none → v = none) → ∃ fs, (∀ (f : JFrame) (acts : List Action), f.method = m → f.locked = none → f.entered = [] → (doReturn e (T.setTop f) acts v).1 = T.setFrames fs) ∧ (T.setFrames fs).status = .running ∧ Ended (T.setFrames fs) below (.returned v) ∧ Φ (.returned v) (T.setFrames fs) locs
theorem own_lv (X : Stand p l e R s m args below meth c T locs cells slots) (hlk : meth.locks = false) (hk : cells ≤ k) (hn : slots ≤ n) : Lv e below (FE s k n) m meth T locs := fun v hv => by
  obtain ⟨fs, hr, hrun, hended, hW, hsame⟩ := X.leave (v := v) hv hlk
  exact ⟨fs, hr, hrun, hended, ⟨_, rfl⟩, hW, hsame.mono hk hn⟩
theorem own_lvW {vm₁ : Vm} {q : Nat} (X : Stand p l e R (s.setVm vm₁) m args below meth c T locs cells slots) (hlk : meth.locks = false) (hS : s.Since vm₁ q) (hq : q ≤ T.heap.size) (hk : cells ≤ k) (hn : slots ≤ n) : Lv e below (FEW s k n) m meth T locs := fun v hv => by
  obtain ⟨fs, hr, hrun, hended, h1, h2, h3, h4⟩ := X.leaveW hS hq (v := v) hv hlk
  exact ⟨fs, hr, hrun, hended, h1, h2, h3, h4.mono hk hn⟩
theorem og_end (hE : Lv e below Φ m meth T locs) {v : Option Value} (hv : meth.sig.returnType = none → v = none) {g : JFrame}
    (st : ∀ fs, (∀ (f : JFrame) (acts : List Action), f.method = m → f.locked = none → f.entered = [] → (doReturn e (T.setTop f) acts v).1 = T.setFrames fs) → Steps p.tables e below (T.setTop g) (T.setFrames fs))
    (hQ : Q v T.heap locs) : OG p e below Φ Q (T.setTop g) := by
  obtain ⟨fs, hr, hrun, hended, hF⟩ := hE v hv
  exact ⟨_, _, st fs hr, hrun, hended, _, _, rfl, hQ, hF⟩
theorem own_mono (X : Stand p l e R s m args below meth c T locs cells slots) {cells' slots' : Nat} (hc : cells ≤ cells') (hs : slots ≤ slots') : Stand p l e R s m args below meth c T locs cells' slots' :=
  ⟨X.admits, X.cas, X.clock, X.frames, X.room, X.hears, X.method, X.code, X.here, X.tail, X.warmed, X.limits, X.bytes, X.same.mono hc hs⟩
theorem retI (X : Stand p l e R s m args below meth c T locs cells slots) (hx : p.tables.exec = Jvm.exec) {pc : Nat} {Ls : Array Slot} {z : Int32} {rest : List Value} (hret : meth.sig.returnType = some .int) (hd : decode c.code pc = .ok (.ireturn, 1)) {fs : List Frame}
    (hl : ∀ (f : JFrame) (acts : List Action), f.method = m → f.locked = none → f.entered = [] → (doReturn e (T.setTop f) acts (some (.int z))).1 = T.setFrames fs) : Steps p.tables e below (T.setTop (mkF m pc Ls (.int z :: rest))) (T.setFrames fs) := by
  have hm' : T.vm.method? m = some meth := X.method'
  have hn : narrow .int (.int z) = .int z := rfl
  show Steps p.tables e below (T.setTop { method := m, pc := pc, locals := Ls, stack := _ :: rest, locked := none }) _
  jvm_step X.here [X.here.top, hx, hd, hm', hret, hn]
  first | (intro acts; rw [hl _ acts rfl rfl rfl]) | rw [hl _ _ rfl rfl rfl]
  exact Steps.refl _
theorem o_retI (X : Stand p l e R s m args below meth c T locs cells slots) (hx : p.tables.exec = Jvm.exec) (hret : meth.sig.returnType = some .int) (hE : Lv e below Φ m meth T locs) (hd : decode c.code pc = .ok (.ireturn, 1)) {z : Int32} (hQ : Q (some (.int z)) T.heap locs) : OG p e below Φ Q (T.setTop (mkF m pc L (.int z :: S))) :=
  og_end hE (fun h => by rw [hret] at h; cases h) (fun fs hr => retI X hx hret hd hr) hQ
theorem o_retN (X : Stand p l e R s m args below meth c T locs cells slots) (hx : p.tables.exec = Jvm.exec) {t : FieldType} (hret : meth.sig.returnType = some t) (ht : t = .boolean ∨ t = .byte ∨ t = .char ∨ t = .short) (hE : Lv e below Φ m meth T locs) (hd : decode c.code pc = .ok (.ireturn, 1)) {z : Int32} (hQ : Q (some (.int (nar t z))) T.heap locs) : OG p e below Φ Q (T.setTop (mkF m pc L (.int z :: S))) :=
  og_end hE (fun h => by rw [hret] at h; cases h) (fun fs hr => retN X hx hret ht hd hr) hQ
theorem o_retB (X : Stand p l e R s m args below meth c T locs cells slots) (hx : p.tables.exec = Jvm.exec) (hret : meth.sig.returnType = some .boolean) (hE : Lv e below Φ m meth T locs) (hd : decode c.code pc = .ok (.ireturn, 1)) {z : Int32} (hz : z = 0 ∨ z = 1) (hQ : Q (some (.int z)) T.heap locs) : OG p e below Φ Q (T.setTop (mkF m pc L (.int z :: S))) :=
  o_retN X hx hret (Or.inl rfl) hE hd (by have q : nar .boolean z = z := by { rcases hz with rfl | rfl <;> rfl }; rw [q]; exact hQ)
theorem o_retL (X : Stand p l e R s m args below meth c T locs cells slots) (hx : p.tables.exec = Jvm.exec) (hret : meth.sig.returnType = some .long) (hE : Lv e below Φ m meth T locs) (hd : decode c.code pc = .ok (.lreturn, 1)) {z : Int64} (hQ : Q (some (.long z)) T.heap locs) : OG p e below Φ Q (T.setTop (mkF m pc L (.long z :: S))) :=
  og_end hE (fun h => by rw [hret] at h; cases h) (fun fs hr => retOut X hx hret rfl (Or.inr (Or.inl ⟨rfl, rfl, z, rfl⟩)) hd hr) hQ
theorem o_retA (X : Stand p l e R s m args below meth c T locs cells slots) (hx : p.tables.exec = Jvm.exec) {t : FieldType} (hret : meth.sig.returnType = some t) (ht : t.isReference = true) (hE : Lv e below Φ m meth T locs) (hd : decode c.code pc = .ok (.areturn, 1)) {w : Value} (hw : w.isRef = true) (hnw : narrow t w = w) (hQ : Q (some w) T.heap locs) : OG p e below Φ Q (T.setTop (mkF m pc L (w :: S))) :=
  og_end hE (fun h => by rw [hret] at h; cases h) (fun fs hr => retOut X hx hret hnw (Or.inr (Or.inr (Or.inr (Or.inr ⟨rfl, ht, hw⟩)))) hd hr) hQ
theorem o_ret0 (X : Stand p l e R s m args below meth c T locs cells slots) (hx : p.tables.exec = Jvm.exec) (hret : meth.sig.returnType = none) (hE : Lv e below Φ m meth T locs) (hd : decode c.code pc = .ok (.return_, 1)) (hQ : Q none T.heap locs) : OG p e below Φ Q (T.setTop (mkF m pc L [])) :=
  og_end hE (fun _ => rfl) (fun fs hr => X.returnOut hx hret hd hr) hQ
theorem lcY_eq {x y : Int64} (h : x = y) : ifCond.holds .eq (lcmpW x y) = true ∧ ifCond.holds .ne (lcmpW x y) = false := ⟨(if0 _ _).trans (teq ((lw_eq x y).mpr h)).1, (if0 _ _).trans (teq ((lw_eq x y).mpr h)).2⟩
theorem lcN_eq {x y : Int64} (h : ¬ x = y) : ifCond.holds .eq (lcmpW x y) = false ∧ ifCond.holds .ne (lcmpW x y) = true := ⟨(if0 _ _).trans (feq (mt (lw_eq x y).mp h)).1, (if0 _ _).trans (feq (mt (lw_eq x y).mp h)).2⟩
theorem lcY_lt {x y : Int64} (h : x < y) : ifCond.holds .lt (lcmpW x y) = true ∧ ifCond.holds .ge (lcmpW x y) = false := ⟨(if0 _ _).trans (tlt ((lw_lt x y).mpr h)).1, (if0 _ _).trans (tlt ((lw_lt x y).mpr h)).2.1⟩
theorem lcN_lt {x y : Int64} (h : ¬ x < y) : ifCond.holds .lt (lcmpW x y) = false ∧ ifCond.holds .ge (lcmpW x y) = true := ⟨(if0 _ _).trans (flt (mt (lw_lt x y).mp h)).1, (if0 _ _).trans (flt (mt (lw_lt x y).mp h)).2.1⟩
theorem lcY_gt {x y : Int64} (h : y < x) : ifCond.holds .gt (lcmpW x y) = true ∧ ifCond.holds .le (lcmpW x y) = false := ⟨(if0 _ _).trans (tlt ((lw_gt x y).mpr h)).2.2.1, (if0 _ _).trans (tlt ((lw_gt x y).mpr h)).2.2.2⟩
theorem lcN_gt {x y : Int64} (h : ¬ y < x) : ifCond.holds .gt (lcmpW x y) = false ∧ ifCond.holds .le (lcmpW x y) = true := ⟨(if0 _ _).trans (flt (mt (lw_gt x y).mp h)).2.2.1, (if0 _ _).trans (flt (mt (lw_gt x y).mp h)).2.2.2⟩
theorem o_iloadN (X : Stand p l e R s m args below meth c T locs cells slots) (hx : p.tables.exec = Jvm.exec) {i : Fin 4} {v : Int32} (hp : pc + 1 = pc') (hd : decode c.code pc = .ok (.iload_n i, 1)) (hl : L[i.val]? = some (.val (.int v))) (G : OG p e below Φ Q (T.setTop (mkF m pc' L (.int v :: S)))) : OG p e below Φ Q (T.setTop (mkF m pc L S)) := by
  subst hp; exact og_of (fun _ st => XS.iloadN X.here hx rfl hd hl st) G
theorem o_iload (X : Stand p l e R s m args below meth c T locs cells slots) (hx : p.tables.exec = Jvm.exec) {i : Nat} {v : Int32} (hp : pc + 2 = pc') (hd : decode c.code pc = .ok (.iload i, 2)) (hl : L[i]? = some (.val (.int v))) (G : OG p e below Φ Q (T.setTop (mkF m pc' L (.int v :: S)))) : OG p e below Φ Q (T.setTop (mkF m pc L S)) := by
  subst hp; exact og_of (fun _ st => XS.iload X.here hx rfl hd hl st) G
theorem o_istoreN (X : Stand p l e R s m args below meth c T locs cells slots) (hx : p.tables.exec = Jvm.exec) {i : Fin 4} {v : Int32} (hp : pc + 1 = pc') (hd : decode c.code pc = .ok (.istore_n i, 1)) (hl : storeLocals L i.val (.int v) = some L') (G : OG p e below Φ Q (T.setTop (mkF m pc' L' S))) : OG p e below Φ Q (T.setTop (mkF m pc L (.int v :: S))) := by
  subst hp; exact og_of (fun _ st => XS.istoreN X.here hx rfl hd rfl hl st) G
theorem o_istore (X : Stand p l e R s m args below meth c T locs cells slots) (hx : p.tables.exec = Jvm.exec) {i : Nat} {v : Int32} (hp : pc + 2 = pc') (hd : decode c.code pc = .ok (.istore i, 2)) (hl : storeLocals L i (.int v) = some L') (G : OG p e below Φ Q (T.setTop (mkF m pc' L' S))) : OG p e below Φ Q (T.setTop (mkF m pc L (.int v :: S))) := by
  subst hp; exact og_of (fun _ st => XS.istore X.here hx rfl hd rfl hl st) G
theorem o_lloadN (X : Stand p l e R s m args below meth c T locs cells slots) (hx : p.tables.exec = Jvm.exec) {i : Fin 4} {v : Int64} (hp : pc + 1 = pc') (hd : decode c.code pc = .ok (.lload_n i, 1)) (hl : L[i.val]? = some (.val (.long v))) (G : OG p e below Φ Q (T.setTop (mkF m pc' L (.long v :: S)))) : OG p e below Φ Q (T.setTop (mkF m pc L S)) := by
  subst hp; exact og_of (fun _ st => XS.lloadN X.here hx rfl hd hl st) G
theorem o_lload (X : Stand p l e R s m args below meth c T locs cells slots) (hx : p.tables.exec = Jvm.exec) {i : Nat} {v : Int64} (hp : pc + 2 = pc') (hd : decode c.code pc = .ok (.lload i, 2)) (hl : L[i]? = some (.val (.long v))) (G : OG p e below Φ Q (T.setTop (mkF m pc' L (.long v :: S)))) : OG p e below Φ Q (T.setTop (mkF m pc L S)) := by
  subst hp; exact og_of (fun _ st => XS.lload X.here hx rfl hd hl st) G
theorem o_lstoreN (X : Stand p l e R s m args below meth c T locs cells slots) (hx : p.tables.exec = Jvm.exec) {i : Fin 4} {v : Int64} (hp : pc + 1 = pc') (hd : decode c.code pc = .ok (.lstore_n i, 1)) (hl : storeLocals L i.val (.long v) = some L') (G : OG p e below Φ Q (T.setTop (mkF m pc' L' S))) : OG p e below Φ Q (T.setTop (mkF m pc L (.long v :: S))) := by
  subst hp; exact og_of (fun _ st => XS.lstoreN X.here hx rfl hd rfl hl st) G
theorem o_lstore (X : Stand p l e R s m args below meth c T locs cells slots) (hx : p.tables.exec = Jvm.exec) {i : Nat} {v : Int64} (hp : pc + 2 = pc') (hd : decode c.code pc = .ok (.lstore i, 2)) (hl : storeLocals L i (.long v) = some L') (G : OG p e below Φ Q (T.setTop (mkF m pc' L' S))) : OG p e below Φ Q (T.setTop (mkF m pc L (.long v :: S))) := by
  subst hp; exact og_of (fun _ st => XS.lstore X.here hx rfl hd rfl hl st) G
theorem o_aloadN (X : Stand p l e R s m args below meth c T locs cells slots) (hx : p.tables.exec = Jvm.exec) {i : Fin 4} {v : Value} (hp : pc + 1 = pc') (hd : decode c.code pc = .ok (.aload_n i, 1)) (hl : L[i.val]? = some (.val v)) (hv : v.isRef = true) (G : OG p e below Φ Q (T.setTop (mkF m pc' L (v :: S)))) : OG p e below Φ Q (T.setTop (mkF m pc L S)) := by
  subst hp; exact og_of (fun _ st => XS.aloadN X.here hx rfl hd hl hv st) G
theorem o_aload (X : Stand p l e R s m args below meth c T locs cells slots) (hx : p.tables.exec = Jvm.exec) {i : Nat} {v : Value} (hp : pc + 2 = pc') (hd : decode c.code pc = .ok (.aload i, 2)) (hl : L[i]? = some (.val v)) (hv : v.isRef = true) (G : OG p e below Φ Q (T.setTop (mkF m pc' L (v :: S)))) : OG p e below Φ Q (T.setTop (mkF m pc L S)) := by
  subst hp; exact og_of (fun _ st => XS.aload X.here hx rfl hd hl hv st) G
theorem o_astoreN (X : Stand p l e R s m args below meth c T locs cells slots) (hx : p.tables.exec = Jvm.exec) {i : Fin 4} {v : Value} (hp : pc + 1 = pc') (hd : decode c.code pc = .ok (.astore_n i, 1)) (hv : v.isRef = true) (hl : storeLocals L i.val v = some L') (G : OG p e below Φ Q (T.setTop (mkF m pc' L' S))) : OG p e below Φ Q (T.setTop (mkF m pc L (v :: S))) := by
  subst hp; exact og_of (fun _ st => XS.astoreN X.here hx rfl hd rfl hv hl st) G
theorem o_astore (X : Stand p l e R s m args below meth c T locs cells slots) (hx : p.tables.exec = Jvm.exec) {i : Nat} {v : Value} (hp : pc + 2 = pc') (hd : decode c.code pc = .ok (.astore i, 2)) (hv : v.isRef = true) (hl : storeLocals L i v = some L') (G : OG p e below Φ Q (T.setTop (mkF m pc' L' S))) : OG p e below Φ Q (T.setTop (mkF m pc L (v :: S))) := by
  subst hp; exact og_of (fun _ st => XS.astore X.here hx rfl hd rfl hv hl st) G
theorem o_iconst (X : Stand p l e R s m args below meth c T locs cells slots) (hx : p.tables.exec = Jvm.exec) {i : Int} {z : Int32} (hp : pc + 1 = pc') (hd : decode c.code pc = .ok (.iconst i, 1)) (hz : Int32.ofInt i = z) (G : OG p e below Φ Q (T.setTop (mkF m pc' L (.int z :: S)))) : OG p e below Φ Q (T.setTop (mkF m pc L S)) := by
  subst hp hz; exact og_of (fun _ st => XS.iconst X.here hx rfl hd st) G
theorem o_bipush (X : Stand p l e R s m args below meth c T locs cells slots) (hx : p.tables.exec = Jvm.exec) {i : Int} {z : Int32} (hp : pc + 2 = pc') (hd : decode c.code pc = .ok (.bipush i, 2)) (hz : (Int8.ofInt i).toInt32 = z) (G : OG p e below Φ Q (T.setTop (mkF m pc' L (.int z :: S)))) : OG p e below Φ Q (T.setTop (mkF m pc L S)) := by
  subst hp hz; exact og_of (fun _ st => XS.bipush X.here hx rfl hd st) G
theorem o_sipush (X : Stand p l e R s m args below meth c T locs cells slots) (hx : p.tables.exec = Jvm.exec) {i : Int} {z : Int32} (hp : pc + 3 = pc') (hd : decode c.code pc = .ok (.sipush i, 3)) (hz : (Int16.ofInt i).toInt32 = z) (G : OG p e below Φ Q (T.setTop (mkF m pc' L (.int z :: S)))) : OG p e below Φ Q (T.setTop (mkF m pc L S)) := by
  subst hp hz; exact og_of (fun _ st => XS.sipush X.here hx rfl hd st) G
theorem o_lconst (X : Stand p l e R s m args below meth c T locs cells slots) (hx : p.tables.exec = Jvm.exec) {i : Fin 2} {z : Int64} (hp : pc + 1 = pc') (hd : decode c.code pc = .ok (.lconst i, 1)) (hz : Int64.ofNat i = z) (G : OG p e below Φ Q (T.setTop (mkF m pc' L (.long z :: S)))) : OG p e below Φ Q (T.setTop (mkF m pc L S)) := by
  subst hp hz; exact og_of (fun _ st => XS.lconst X.here hx rfl hd st) G
theorem o_aconst_null (X : Stand p l e R s m args below meth c T locs cells slots) (hx : p.tables.exec = Jvm.exec) (hp : pc + 1 = pc') (hd : decode c.code pc = .ok (.aconst_null, 1))  (G : OG p e below Φ Q (T.setTop (mkF m pc' L (.null :: S)))) : OG p e below Φ Q (T.setTop (mkF m pc L S)) := by
  subst hp; exact og_of (fun _ st => XS.aconstNull X.here hx rfl hd st) G
theorem o_iadd (X : Stand p l e R s m args below meth c T locs cells slots) (hx : p.tables.exec = Jvm.exec) {x : Int32} {y : Int32} {z : Int32} (hp : pc + 1 = pc') (hd : decode c.code pc = .ok (.iadd, 1)) (hz : x + y = z) (G : OG p e below Φ Q (T.setTop (mkF m pc' L (.int z :: S)))) : OG p e below Φ Q (T.setTop (mkF m pc L (.int y :: .int x :: S))) := by
  subst hp hz; exact og_of (fun _ st => XS.iadd X.here hx rfl hd rfl st) G
theorem o_ladd (X : Stand p l e R s m args below meth c T locs cells slots) (hx : p.tables.exec = Jvm.exec) {x : Int64} {y : Int64} {z : Int64} (hp : pc + 1 = pc') (hd : decode c.code pc = .ok (.ladd, 1)) (hz : x + y = z) (G : OG p e below Φ Q (T.setTop (mkF m pc' L (.long z :: S)))) : OG p e below Φ Q (T.setTop (mkF m pc L (.long y :: .long x :: S))) := by
  subst hp hz; exact og_of (fun _ st => XS.ladd X.here hx rfl hd rfl st) G
theorem o_isub (X : Stand p l e R s m args below meth c T locs cells slots) (hx : p.tables.exec = Jvm.exec) {x : Int32} {y : Int32} {z : Int32} (hp : pc + 1 = pc') (hd : decode c.code pc = .ok (.isub, 1)) (hz : x - y = z) (G : OG p e below Φ Q (T.setTop (mkF m pc' L (.int z :: S)))) : OG p e below Φ Q (T.setTop (mkF m pc L (.int y :: .int x :: S))) := by
  subst hp hz; exact og_of (fun _ st => XS.isub X.here hx rfl hd rfl st) G
theorem o_lsub (X : Stand p l e R s m args below meth c T locs cells slots) (hx : p.tables.exec = Jvm.exec) {x : Int64} {y : Int64} {z : Int64} (hp : pc + 1 = pc') (hd : decode c.code pc = .ok (.lsub, 1)) (hz : x - y = z) (G : OG p e below Φ Q (T.setTop (mkF m pc' L (.long z :: S)))) : OG p e below Φ Q (T.setTop (mkF m pc L (.long y :: .long x :: S))) := by
  subst hp hz; exact og_of (fun _ st => XS.lsub X.here hx rfl hd rfl st) G
theorem o_imul (X : Stand p l e R s m args below meth c T locs cells slots) (hx : p.tables.exec = Jvm.exec) {x : Int32} {y : Int32} {z : Int32} (hp : pc + 1 = pc') (hd : decode c.code pc = .ok (.imul, 1)) (hz : x * y = z) (G : OG p e below Φ Q (T.setTop (mkF m pc' L (.int z :: S)))) : OG p e below Φ Q (T.setTop (mkF m pc L (.int y :: .int x :: S))) := by
  subst hp hz; exact og_of (fun _ st => XS.imul X.here hx rfl hd rfl st) G
theorem o_lmul (X : Stand p l e R s m args below meth c T locs cells slots) (hx : p.tables.exec = Jvm.exec) {x : Int64} {y : Int64} {z : Int64} (hp : pc + 1 = pc') (hd : decode c.code pc = .ok (.lmul, 1)) (hz : x * y = z) (G : OG p e below Φ Q (T.setTop (mkF m pc' L (.long z :: S)))) : OG p e below Φ Q (T.setTop (mkF m pc L (.long y :: .long x :: S))) := by
  subst hp hz; exact og_of (fun _ st => XS.lmul X.here hx rfl hd rfl st) G
theorem o_iand (X : Stand p l e R s m args below meth c T locs cells slots) (hx : p.tables.exec = Jvm.exec) {x : Int32} {y : Int32} {z : Int32} (hp : pc + 1 = pc') (hd : decode c.code pc = .ok (.iand, 1)) (hz : x &&& y = z) (G : OG p e below Φ Q (T.setTop (mkF m pc' L (.int z :: S)))) : OG p e below Φ Q (T.setTop (mkF m pc L (.int y :: .int x :: S))) := by
  subst hp hz; exact og_of (fun _ st => XS.iand X.here hx rfl hd rfl st) G
theorem o_land (X : Stand p l e R s m args below meth c T locs cells slots) (hx : p.tables.exec = Jvm.exec) {x : Int64} {y : Int64} {z : Int64} (hp : pc + 1 = pc') (hd : decode c.code pc = .ok (.land, 1)) (hz : x &&& y = z) (G : OG p e below Φ Q (T.setTop (mkF m pc' L (.long z :: S)))) : OG p e below Φ Q (T.setTop (mkF m pc L (.long y :: .long x :: S))) := by
  subst hp hz; exact og_of (fun _ st => XS.land X.here hx rfl hd rfl st) G
theorem o_ior (X : Stand p l e R s m args below meth c T locs cells slots) (hx : p.tables.exec = Jvm.exec) {x : Int32} {y : Int32} {z : Int32} (hp : pc + 1 = pc') (hd : decode c.code pc = .ok (.ior, 1)) (hz : x ||| y = z) (G : OG p e below Φ Q (T.setTop (mkF m pc' L (.int z :: S)))) : OG p e below Φ Q (T.setTop (mkF m pc L (.int y :: .int x :: S))) := by
  subst hp hz; exact og_of (fun _ st => XS.ior X.here hx rfl hd rfl st) G
theorem o_lor (X : Stand p l e R s m args below meth c T locs cells slots) (hx : p.tables.exec = Jvm.exec) {x : Int64} {y : Int64} {z : Int64} (hp : pc + 1 = pc') (hd : decode c.code pc = .ok (.lor, 1)) (hz : x ||| y = z) (G : OG p e below Φ Q (T.setTop (mkF m pc' L (.long z :: S)))) : OG p e below Φ Q (T.setTop (mkF m pc L (.long y :: .long x :: S))) := by
  subst hp hz; exact og_of (fun _ st => XS.lor X.here hx rfl hd rfl st) G
theorem o_ixor (X : Stand p l e R s m args below meth c T locs cells slots) (hx : p.tables.exec = Jvm.exec) {x : Int32} {y : Int32} {z : Int32} (hp : pc + 1 = pc') (hd : decode c.code pc = .ok (.ixor, 1)) (hz : x ^^^ y = z) (G : OG p e below Φ Q (T.setTop (mkF m pc' L (.int z :: S)))) : OG p e below Φ Q (T.setTop (mkF m pc L (.int y :: .int x :: S))) := by
  subst hp hz; exact og_of (fun _ st => XS.ixor X.here hx rfl hd rfl st) G
theorem o_lxor (X : Stand p l e R s m args below meth c T locs cells slots) (hx : p.tables.exec = Jvm.exec) {x : Int64} {y : Int64} {z : Int64} (hp : pc + 1 = pc') (hd : decode c.code pc = .ok (.lxor, 1)) (hz : x ^^^ y = z) (G : OG p e below Φ Q (T.setTop (mkF m pc' L (.long z :: S)))) : OG p e below Φ Q (T.setTop (mkF m pc L (.long y :: .long x :: S))) := by
  subst hp hz; exact og_of (fun _ st => XS.lxor X.here hx rfl hd rfl st) G
theorem o_ishl (X : Stand p l e R s m args below meth c T locs cells slots) (hx : p.tables.exec = Jvm.exec) {x : Int32} {y : Int32} {z : Int32} (hp : pc + 1 = pc') (hd : decode c.code pc = .ok (.ishl, 1)) (hz : x <<< (y &&& 31) = z) (G : OG p e below Φ Q (T.setTop (mkF m pc' L (.int z :: S)))) : OG p e below Φ Q (T.setTop (mkF m pc L (.int y :: .int x :: S))) := by
  subst hp hz; exact og_of (fun _ st => XS.ishl X.here hx rfl hd rfl st) G
theorem o_ishr (X : Stand p l e R s m args below meth c T locs cells slots) (hx : p.tables.exec = Jvm.exec) {x : Int32} {y : Int32} {z : Int32} (hp : pc + 1 = pc') (hd : decode c.code pc = .ok (.ishr, 1)) (hz : x >>> (y &&& 31) = z) (G : OG p e below Φ Q (T.setTop (mkF m pc' L (.int z :: S)))) : OG p e below Φ Q (T.setTop (mkF m pc L (.int y :: .int x :: S))) := by
  subst hp hz; exact og_of (fun _ st => XS.ishr X.here hx rfl hd rfl st) G
theorem o_iushr (X : Stand p l e R s m args below meth c T locs cells slots) (hx : p.tables.exec = Jvm.exec) {x : Int32} {y : Int32} {z : Int32} (hp : pc + 1 = pc') (hd : decode c.code pc = .ok (.iushr, 1)) (hz : (x.toUInt32 >>> (y &&& 31).toUInt32).toInt32 = z) (G : OG p e below Φ Q (T.setTop (mkF m pc' L (.int z :: S)))) : OG p e below Φ Q (T.setTop (mkF m pc L (.int y :: .int x :: S))) := by
  subst hp hz; exact og_of (fun _ st => XS.iushr X.here hx rfl hd rfl st) G
theorem o_lshl (X : Stand p l e R s m args below meth c T locs cells slots) (hx : p.tables.exec = Jvm.exec) {x : Int64} {y : Int32} {z : Int64} (hp : pc + 1 = pc') (hd : decode c.code pc = .ok (.lshl, 1)) (hz : x <<< (y &&& 0x3f).toInt64 = z) (G : OG p e below Φ Q (T.setTop (mkF m pc' L (.long z :: S)))) : OG p e below Φ Q (T.setTop (mkF m pc L (.int y :: .long x :: S))) := by
  subst hp hz; exact og_of (fun _ st => XS.lshl X.here hx rfl hd rfl st) G
theorem o_lshr (X : Stand p l e R s m args below meth c T locs cells slots) (hx : p.tables.exec = Jvm.exec) {x : Int64} {y : Int32} {z : Int64} (hp : pc + 1 = pc') (hd : decode c.code pc = .ok (.lshr, 1)) (hz : x >>> (y &&& 0x3f).toInt64 = z) (G : OG p e below Φ Q (T.setTop (mkF m pc' L (.long z :: S)))) : OG p e below Φ Q (T.setTop (mkF m pc L (.int y :: .long x :: S))) := by
  subst hp hz; exact og_of (fun _ st => XS.lshr X.here hx rfl hd rfl st) G
theorem o_lushr (X : Stand p l e R s m args below meth c T locs cells slots) (hx : p.tables.exec = Jvm.exec) {x : Int64} {y : Int32} {z : Int64} (hp : pc + 1 = pc') (hd : decode c.code pc = .ok (.lushr, 1)) (hz : (x.toUInt64 >>> (y &&& 0x3f).toInt64.toUInt64).toInt64 = z) (G : OG p e below Φ Q (T.setTop (mkF m pc' L (.long z :: S)))) : OG p e below Φ Q (T.setTop (mkF m pc L (.int y :: .long x :: S))) := by
  subst hp hz; exact og_of (fun _ st => XS.lushr X.here hx rfl hd rfl st) G
theorem o_idiv (X : Stand p l e R s m args below meth c T locs cells slots) (hx : p.tables.exec = Jvm.exec) {x : Int32} {y : Int32} {z : Int32} (hp : pc + 1 = pc') (hd : decode c.code pc = .ok (.idiv, 1)) (hz : x / y = z) (hy : y ≠ 0) (G : OG p e below Φ Q (T.setTop (mkF m pc' L (.int z :: S)))) : OG p e below Φ Q (T.setTop (mkF m pc L (.int y :: .int x :: S))) := by
  subst hp hz; exact og_of (fun _ st => XS.idiv X.here hx rfl hd rfl hy st) G
theorem o_ldiv (X : Stand p l e R s m args below meth c T locs cells slots) (hx : p.tables.exec = Jvm.exec) {x : Int64} {y : Int64} {z : Int64} (hp : pc + 1 = pc') (hd : decode c.code pc = .ok (.ldiv, 1)) (hz : x / y = z) (hy : y ≠ 0) (G : OG p e below Φ Q (T.setTop (mkF m pc' L (.long z :: S)))) : OG p e below Φ Q (T.setTop (mkF m pc L (.long y :: .long x :: S))) := by
  subst hp hz; exact og_of (fun _ st => XS.ldiv X.here hx rfl hd rfl hy st) G
theorem o_irem (X : Stand p l e R s m args below meth c T locs cells slots) (hx : p.tables.exec = Jvm.exec) {x y z : Int32} (hp : pc + 1 = pc') (hd : decode c.code pc = .ok (.irem, 1)) (hz : x % y = z) (hy : y ≠ 0) (G : OG p e below Φ Q (T.setTop (mkF m pc' L (.int z :: S)))) : OG p e below Φ Q (T.setTop (mkF m pc L (.int y :: .int x :: S))) := by
  subst hp hz; exact og_of (fun _ st => XS.irem X.here hx rfl hd rfl hy (by rw [irem_eq_mod x y]; exact st)) G
theorem o_lrem (X : Stand p l e R s m args below meth c T locs cells slots) (hx : p.tables.exec = Jvm.exec) {x y z : Int64} (hp : pc + 1 = pc') (hd : decode c.code pc = .ok (.lrem, 1)) (hz : x % y = z) (hy : y ≠ 0) (G : OG p e below Φ Q (T.setTop (mkF m pc' L (.long z :: S)))) : OG p e below Φ Q (T.setTop (mkF m pc L (.long y :: .long x :: S))) := by
  subst hp hz; exact og_of (fun _ st => XS.lrem X.here hx rfl hd rfl hy (by rw [lrem_mod x y]; exact st)) G
theorem o_ineg (X : Stand p l e R s m args below meth c T locs cells slots) (hx : p.tables.exec = Jvm.exec) {x : Int32} {z : Int32} (hp : pc + 1 = pc') (hd : decode c.code pc = .ok (.ineg, 1)) (hz : -x = z) (G : OG p e below Φ Q (T.setTop (mkF m pc' L (.int z :: S)))) : OG p e below Φ Q (T.setTop (mkF m pc L (.int x :: S))) := by
  subst hp hz; exact og_of (fun _ st => XS.ineg X.here hx rfl hd rfl st) G
theorem o_lneg (X : Stand p l e R s m args below meth c T locs cells slots) (hx : p.tables.exec = Jvm.exec) {x : Int64} {z : Int64} (hp : pc + 1 = pc') (hd : decode c.code pc = .ok (.lneg, 1)) (hz : -x = z) (G : OG p e below Φ Q (T.setTop (mkF m pc' L (.long z :: S)))) : OG p e below Φ Q (T.setTop (mkF m pc L (.long x :: S))) := by
  subst hp hz; exact og_of (fun _ st => XS.lneg X.here hx rfl hd rfl st) G
theorem o_i2l (X : Stand p l e R s m args below meth c T locs cells slots) (hx : p.tables.exec = Jvm.exec) {x : Int32} {z : Int64} (hp : pc + 1 = pc') (hd : decode c.code pc = .ok (.i2l, 1)) (hz : x.toInt64 = z) (G : OG p e below Φ Q (T.setTop (mkF m pc' L (.long z :: S)))) : OG p e below Φ Q (T.setTop (mkF m pc L (.int x :: S))) := by
  subst hp hz; exact og_of (fun _ st => XS.i2l X.here hx rfl hd rfl st) G
theorem o_l2i (X : Stand p l e R s m args below meth c T locs cells slots) (hx : p.tables.exec = Jvm.exec) {x : Int64} {z : Int32} (hp : pc + 1 = pc') (hd : decode c.code pc = .ok (.l2i, 1)) (hz : x.toInt32 = z) (G : OG p e below Φ Q (T.setTop (mkF m pc' L (.int z :: S)))) : OG p e below Φ Q (T.setTop (mkF m pc L (.long x :: S))) := by
  subst hp hz; exact og_of (fun _ st => XS.l2i X.here hx rfl hd rfl st) G
theorem o_i2b (X : Stand p l e R s m args below meth c T locs cells slots) (hx : p.tables.exec = Jvm.exec) {x : Int32} {z : Int32} (hp : pc + 1 = pc') (hd : decode c.code pc = .ok (.i2b, 1)) (hz : x.toInt8.toInt32 = z) (G : OG p e below Φ Q (T.setTop (mkF m pc' L (.int z :: S)))) : OG p e below Φ Q (T.setTop (mkF m pc L (.int x :: S))) := by
  subst hp hz; exact og_of (fun _ st => XS.i2b X.here hx rfl hd rfl st) G
theorem o_i2s (X : Stand p l e R s m args below meth c T locs cells slots) (hx : p.tables.exec = Jvm.exec) {x : Int32} {z : Int32} (hp : pc + 1 = pc') (hd : decode c.code pc = .ok (.i2s, 1)) (hz : x.toInt16.toInt32 = z) (G : OG p e below Φ Q (T.setTop (mkF m pc' L (.int z :: S)))) : OG p e below Φ Q (T.setTop (mkF m pc L (.int x :: S))) := by
  subst hp hz; exact og_of (fun _ st => XS.i2s X.here hx rfl hd rfl st) G
theorem o_i2c (X : Stand p l e R s m args below meth c T locs cells slots) (hx : p.tables.exec = Jvm.exec) {x : Int32} {z : Int32} (hp : pc + 1 = pc') (hd : decode c.code pc = .ok (.i2c, 1)) (hz : x.toUInt32.toUInt16.toUInt32.toInt32 = z) (G : OG p e below Φ Q (T.setTop (mkF m pc' L (.int z :: S)))) : OG p e below Φ Q (T.setTop (mkF m pc L (.int x :: S))) := by
  subst hp hz; exact og_of (fun _ st => XS.i2c X.here hx rfl hd rfl st) G
theorem o_lcmp (X : Stand p l e R s m args below meth c T locs cells slots) (hx : p.tables.exec = Jvm.exec) {x y : Int64} (hp : pc + 1 = pc') (hd : decode c.code pc = .ok (.lcmp, 1))  (G : OG p e below Φ Q (T.setTop (mkF m pc' L (.int (lcmpW x y) :: S)))) : OG p e below Φ Q (T.setTop (mkF m pc L (.long y :: .long x :: S))) := by
  subst hp; exact og_of (fun _ st => XS.lcmp X.here hx rfl hd rfl st) G
theorem o_dup (X : Stand p l e R s m args below meth c T locs cells slots) (hx : p.tables.exec = Jvm.exec) {v : Value} (hp : pc + 1 = pc') (hd : decode c.code pc = .ok (.dup, 1)) (hc : v.category = 1) (G : OG p e below Φ Q (T.setTop (mkF m pc' L (v :: v :: S)))) : OG p e below Φ Q (T.setTop (mkF m pc L (v :: S))) := by
  subst hp; exact og_of (fun _ st => XS.dup X.here hx rfl hd rfl hc st) G
theorem o_pop (X : Stand p l e R s m args below meth c T locs cells slots) (hx : p.tables.exec = Jvm.exec) {v : Value} (hp : pc + 1 = pc') (hd : decode c.code pc = .ok (.pop, 1)) (hc : v.category = 1) (G : OG p e below Φ Q (T.setTop (mkF m pc' L S))) : OG p e below Φ Q (T.setTop (mkF m pc L (v :: S))) := by
  subst hp; exact og_of (fun _ st => XS.pop X.here hx rfl hd rfl hc st) G
theorem o_dup_x1 (X : Stand p l e R s m args below meth c T locs cells slots) (hx : p.tables.exec = Jvm.exec) {v w : Value} (hp : pc + 1 = pc') (hd : decode c.code pc = .ok (.dup_x1, 1)) (hc : v.category = 1) (hc2 : w.category = 1) (G : OG p e below Φ Q (T.setTop (mkF m pc' L (v :: w :: v :: S)))) : OG p e below Φ Q (T.setTop (mkF m pc L (v :: w :: S))) := by
  subst hp; exact og_of (fun _ st => XS.dupX1 X.here hx rfl hd rfl hc hc2 st) G
theorem o_dup2 (X : Stand p l e R s m args below meth c T locs cells slots) (hx : p.tables.exec = Jvm.exec) {v w : Value} (hp : pc + 1 = pc') (hd : decode c.code pc = .ok (.dup2, 1)) (hc : v.category = 1) (hc2 : w.category = 1) (G : OG p e below Φ Q (T.setTop (mkF m pc' L (v :: w :: v :: w :: S)))) : OG p e below Φ Q (T.setTop (mkF m pc L (v :: w :: S))) := by
  subst hp; exact og_of (fun _ st => XT.dup2 X.here hx rfl hd rfl hc hc2 st) G
theorem o_dup2L (X : Stand p l e R s m args below meth c T locs cells slots) (hx : p.tables.exec = Jvm.exec) {v : Int64} (hp : pc + 1 = pc') (hd : decode c.code pc = .ok (.dup2, 1))  (G : OG p e below Φ Q (T.setTop (mkF m pc' L (.long v :: .long v :: S)))) : OG p e below Φ Q (T.setTop (mkF m pc L (.long v :: S))) := by
  subst hp; exact og_of (fun _ st => XT.dup2L X.here hx rfl hd rfl st) G
theorem o_dup_x2 (X : Stand p l e R s m args below meth c T locs cells slots) (hx : p.tables.exec = Jvm.exec) {u v w : Value} (hp : pc + 1 = pc') (hd : decode c.code pc = .ok (.dup_x2, 1)) (hu : u.category = 1) (hv : v.category = 1) (hw : w.category = 1) (G : OG p e below Φ Q (T.setTop (mkF m pc' L (u :: v :: w :: u :: S)))) : OG p e below Φ Q (T.setTop (mkF m pc L (u :: v :: w :: S))) := by
  subst hp; refine og_of (fun _ st => ?_) G
  jvm_step X.here [X.here.top, hx, hd, hu, hv, hw]
  exact st
theorem o_iinc (X : Stand p l e R s m args below meth c T locs cells slots) (hx : p.tables.exec = Jvm.exec) {i : Nat} {cst : Int} {x z : Int32} (hp : pc + 3 = pc') (hd : decode c.code pc = .ok (.iinc i cst, 3)) (hl : L[i]? = some (.val (.int x))) (hz : x + Int32.ofInt cst = z) (hl' : storeLocals L i (.int z) = some L') (G : OG p e below Φ Q (T.setTop (mkF m pc' L' S))) : OG p e below Φ Q (T.setTop (mkF m pc L S)) := by
  subst hp hz; exact og_of (fun _ st => XS.iinc X.here hx rfl hd hl hl' st) G
theorem o_goto (X : Stand p l e R s m args below meth c T locs cells slots) (hx : p.tables.exec = Jvm.exec) {o : Int} (hd : decode c.code pc = .ok (.goto o, 3)) (ho : 0 ≤ (pc : Int) + o) (hp : ((pc : Int) + o).toNat = pc') (G : OG p e below Φ Q (T.setTop (mkF m pc' L S))) : OG p e below Φ Q (T.setTop (mkF m pc L S)) := og_of (fun _ st => XS.goto X.here hx rfl rfl hd ho hp st) G
theorem o_ifY (X : Stand p l e R s m args below meth c T locs cells slots) (hx : p.tables.exec = Jvm.exec) {cd : ClassFile.Cond} {x : Int32} {o : Int} (hd : decode c.code pc = .ok (.ifCond cd o, 3)) (hc : ifCond.holds cd x = true) (ho : 0 ≤ (pc : Int) + o) (hp : ((pc : Int) + o).toNat = pc') (G : OG p e below Φ Q (T.setTop (mkF m pc' L S))) : OG p e below Φ Q (T.setTop (mkF m pc L (.int x :: S))) := og_of (fun _ st => XS.ifYes X.here hx rfl rfl hd rfl hc ho hp st) G
theorem o_ifN (X : Stand p l e R s m args below meth c T locs cells slots) (hx : p.tables.exec = Jvm.exec) {cd : ClassFile.Cond} {x : Int32} {o : Int} (hp : pc + 3 = pc') (hd : decode c.code pc = .ok (.ifCond cd o, 3)) (hc : ifCond.holds cd x = false) (G : OG p e below Φ Q (T.setTop (mkF m pc' L S))) : OG p e below Φ Q (T.setTop (mkF m pc L (.int x :: S))) := by
  subst hp; exact og_of (fun _ st => XS.ifNo X.here hx rfl hd rfl hc st) G
theorem o_icmpY (X : Stand p l e R s m args below meth c T locs cells slots) (hx : p.tables.exec = Jvm.exec) {cd : ClassFile.Cond} {x y : Int32} {o : Int} (hd : decode c.code pc = .ok (.if_icmp cd o, 3)) (hc : if_icmp.holds cd x y = true) (ho : 0 ≤ (pc : Int) + o) (hp : ((pc : Int) + o).toNat = pc') (G : OG p e below Φ Q (T.setTop (mkF m pc' L S))) : OG p e below Φ Q (T.setTop (mkF m pc L (.int y :: .int x :: S))) := og_of (fun _ st => XS.icmpYes X.here hx rfl rfl hd rfl hc ho hp st) G
theorem o_icmpN (X : Stand p l e R s m args below meth c T locs cells slots) (hx : p.tables.exec = Jvm.exec) {cd : ClassFile.Cond} {x y : Int32} {o : Int} (hp : pc + 3 = pc') (hd : decode c.code pc = .ok (.if_icmp cd o, 3)) (hc : if_icmp.holds cd x y = false) (G : OG p e below Φ Q (T.setTop (mkF m pc' L S))) : OG p e below Φ Q (T.setTop (mkF m pc L (.int y :: .int x :: S))) := by
  subst hp; exact og_of (fun _ st => XS.icmpNo X.here hx rfl hd rfl hc st) G
theorem o_ifnullY (X : Stand p l e R s m args below meth c T locs cells slots) (hx : p.tables.exec = Jvm.exec) {o : Int} (hd : decode c.code pc = .ok (.ifnull o, 3)) (ho : 0 ≤ (pc : Int) + o) (hp : ((pc : Int) + o).toNat = pc') (G : OG p e below Φ Q (T.setTop (mkF m pc' L S))) : OG p e below Φ Q (T.setTop (mkF m pc L (.null :: S))) := og_of (fun _ st => XS.ifnullYes X.here hx rfl rfl hd rfl ho hp st) G
theorem o_ifnullN (X : Stand p l e R s m args below meth c T locs cells slots) (hx : p.tables.exec = Jvm.exec) {o : Int} {a : Addr} (hp : pc + 3 = pc') (hd : decode c.code pc = .ok (.ifnull o, 3)) (G : OG p e below Φ Q (T.setTop (mkF m pc' L S))) : OG p e below Φ Q (T.setTop (mkF m pc L (.ref a :: S))) := by
  subst hp; exact og_of (fun _ st => XS.ifnullNo X.here hx rfl hd rfl st) G
theorem o_ifnonnullY (X : Stand p l e R s m args below meth c T locs cells slots) (hx : p.tables.exec = Jvm.exec) {o : Int} {a : Addr} (hd : decode c.code pc = .ok (.ifnonnull o, 3)) (ho : 0 ≤ (pc : Int) + o) (hp : ((pc : Int) + o).toNat = pc') (G : OG p e below Φ Q (T.setTop (mkF m pc' L S))) : OG p e below Φ Q (T.setTop (mkF m pc L (.ref a :: S))) := og_of (fun _ st => XS.ifnonnullYes X.here hx rfl rfl hd rfl ho hp st) G
theorem o_ifnonnullN (X : Stand p l e R s m args below meth c T locs cells slots) (hx : p.tables.exec = Jvm.exec) {o : Int} (hp : pc + 3 = pc') (hd : decode c.code pc = .ok (.ifnonnull o, 3)) (G : OG p e below Φ Q (T.setTop (mkF m pc' L S))) : OG p e below Φ Q (T.setTop (mkF m pc L (.null :: S))) := by
  subst hp; exact og_of (fun _ st => XS.ifnonnullNo X.here hx rfl hd rfl st) G
theorem o_acmpY (X : Stand p l e R s m args below meth c T locs cells slots) (hx : p.tables.exec = Jvm.exec) {cd : ClassFile.ACond} {a b : Addr} {o : Int} (hd : decode c.code pc = .ok (.if_acmp cd o, 3)) (hc : if_acmp.holds cd (some a) (some b) = true) (ho : 0 ≤ (pc : Int) + o) (hp : ((pc : Int) + o).toNat = pc') (G : OG p e below Φ Q (T.setTop (mkF m pc' L S))) : OG p e below Φ Q (T.setTop (mkF m pc L (.ref b :: .ref a :: S))) := og_of (fun _ st => XS.acmpYes X.here hx rfl rfl hd rfl hc ho hp st) G
theorem o_acmpN (X : Stand p l e R s m args below meth c T locs cells slots) (hx : p.tables.exec = Jvm.exec) {cd : ClassFile.ACond} {a b : Addr} {o : Int} (hp : pc + 3 = pc') (hd : decode c.code pc = .ok (.if_acmp cd o, 3)) (hc : if_acmp.holds cd (some a) (some b) = false) (G : OG p e below Φ Q (T.setTop (mkF m pc' L S))) : OG p e below Φ Q (T.setTop (mkF m pc L (.ref b :: .ref a :: S))) := by
  subst hp; exact og_of (fun _ st => XS.acmpNo X.here hx rfl hd rfl hc st) G
theorem o_ldcI (X : Stand p l e R s m args below meth c T locs cells slots) (hx : p.tables.exec = Jvm.exec) {Z : State} {a0 : Array Value} {own : String} {i : Nat} {v : Int32} (hp : pc + 2 = pc') (hd : decode c.code pc = .ok (.ldc i, 2)) (hZ : Z.Warmed39 s.vm) (hown : s.vm.findClass own = some m.cls) (w : (Cond.constant own i v).before a0 Z = true) (G : OG p e below Φ Q (T.setTop (mkF m pc' L (.int v :: S)))) : OG p e below Φ Q (T.setTop (mkF m pc L S)) := by
  subst hp; exact og_of (X.ldcInt hx hown (mvT hZ w) (g := mkF m pc L S) rfl hd) G
theorem o_ldcwI (X : Stand p l e R s m args below meth c T locs cells slots) (hx : p.tables.exec = Jvm.exec) {Z : State} {a0 : Array Value} {own : String} {i : Nat} {v : Int32} (hp : pc + 3 = pc') (hd : decode c.code pc = .ok (.ldc_w i, 3)) (hZ : Z.Warmed39 s.vm) (hown : s.vm.findClass own = some m.cls) (w : (Cond.constant own i v).before a0 Z = true) (G : OG p e below Φ Q (T.setTop (mkF m pc' L (.int v :: S)))) : OG p e below Φ Q (T.setTop (mkF m pc L S)) := by
  subst hp; exact og_of (X.ldcwInt hx hown (mvT hZ w) (g := mkF m pc L S) rfl hd) G
theorem o_ldc2L (X : Stand p l e R s m args below meth c T locs cells slots) (hx : p.tables.exec = Jvm.exec) {Z : State} {a0 : Array Value} {own : String} {i : Nat} {v : Int64} (hp : pc + 3 = pc') (hd : decode c.code pc = .ok (.ldc2_w i, 3)) (hZ : Z.Warmed39 s.vm) (hown : s.vm.findClass own = some m.cls) (w : (Cond.constantLong own i v).before a0 Z = true) (G : OG p e below Φ Q (T.setTop (mkF m pc' L (.long v :: S)))) : OG p e below Φ Q (T.setTop (mkF m pc L S)) := by
  subst hp; exact og_of (X.ldc2Long hx hown (mvT hZ w) (g := mkF m pc L S) rfl hd) G
theorem own_mvM {Z : State} {a0 : Array Value} {own host : String} {y : MethodName} {index : Nat} (hZ : Z.Warmed39 s.vm) (w : (Cond.methodLinkNest own index y host).before a0 Z = true) : (Cond.methodLinkNest own index y host).before args s = true := (Cond.methodLinkNest_wide hZ w :)
theorem own_catI (v : Int32) : (Value.int v).category = 1 := rfl
theorem own_catL (v : Int64) : (Value.long v).category = 2 := rfl
theorem own_catR (a : Addr) : (Value.ref a).category = 1 := rfl
theorem own_cat {x : Value} (h : x.isRef = true) : x.category = 1 := by cases x <;> simp_all [Value.isRef, Value.category]
theorem own_narR {x : Value} (h : x.isRef = true) (t : FieldType) : narrow t x = x := by rcases ref_cases h with rfl | ⟨a, rfl⟩ <;> cases t <;> rfl
theorem own_fitR {x : Value} {C : String} (h : x.isRef = true) : fits (.object C) x = true := by rcases ref_cases h with rfl | ⟨a, rfl⟩ <;> rfl
theorem own_selp {Z : State} {a0 : Array Value} {y : MethodName} {q : Nat} (hZ : Z.Warmed39 s.vm) (wi : (Cond.instantiable y.cls q).before a0 Z = true) (hp : (Cond.privateMethod y).before a0 Z = true) (hi : (Cond.instanceMethod y).before a0 Z = true) (hy : y.cls ≠ "java/lang/invoke/MethodHandle" ∧ y.cls ≠ "java/lang/invoke/VarHandle") : (Cond.selects y.cls y y).before args s = true := by
  have wi' : (Cond.instantiable y.cls q).before args s = true := mv hZ wi
  obtain ⟨cc, kk, h1, h2, -, h4, -⟩ := Cond.instantiable_spec wi'
  have hni : kk.isInterface = false := by simp only [Bool.or_eq_false_iff] at h4; exact h4.1
  exact selects_self_of_private h1 h2 hni (Cond.privateMethod_at (mvP hZ hp (args := args))) (mv hZ hi) hy
theorem own_staK {Z : State} {h h' : Heap} {C nn d : String} {v : Value} (F : Sta Z h C nn d v) (K : Keep h h' []) : Sta Z h' C nn d v := by
  obtain ⟨cf, i, k, f, st, cell, h1, h2, h3, h4, h5, r⟩ := F
  exact ⟨cf, i, k, f, st, cell, h1, h2, h3, h4, K.2.1 _ _ h5 (fun q => nomatch q), r⟩
end Own
end Jvm.RoadKit
namespace Jvm.Pilot.@@N@@
open Jvm Jvm.ClassFile Sem Op Lib Jvm.Free Jvm.Stand Jvm.LawKit Jvm.RoadKit Bundle Jvm.Pilot.@@N@@.Jvm.D
theorem own_strW {a0 : Array Value} {Z : State} (hw : ∀ d ∈ tables_1, d.before a0 Z = true) : ∀ d ∈ Bundle.stringAtoms, d.before a0 Z = true := fun d hd => by
  simp only [Bundle.stringAtoms, List.mem_cons, List.not_mem_nil, or_false] at hd
  rcases hd with rfl | rfl | rfl | rfl | rfl | rfl | rfl
  · exact (hw _ (List.mem_of_getElem? (i := 6) rfl))
  · exact (hw _ (List.mem_of_getElem? (i := 14) rfl))
  · exact (hw _ (List.mem_of_getElem? (i := 18) rfl))
  · exact (hw _ (List.mem_of_getElem? (i := 27) rfl))
  · exact (hw _ (List.mem_of_getElem? (i := 29) rfl))
  · exact (hw _ (List.mem_of_getElem? (i := 44) rfl))
  · exact (hw _ (List.mem_of_getElem? (i := 45) rfl))
def own_S (Z : State) (h : Heap) (x : Value) : Prop := x = .null ∨ ∃ a, x = .ref a ∧ Exa Z h a "java/lang/String"
theorem own_S_map {Z : State} {h h' : Heap} {x : Value} (f : ∀ a C, Exa Z h a C → Exa Z h' a C) (p : own_S Z h x) : own_S Z h' x := by
  rcases p with p | ⟨a, p, E⟩
  · exact Or.inl p
  · exact Or.inr ⟨a, p, f _ _ E⟩
def own_C (Z : State) (h : Heap) (arr : Addr) : Prop := ∃ cl : Cell, Arr Z h arr cl (.object "java/lang/Integer") ∧ cl.slots.size = 256 ∧ ∀ i, i < 256 → ∃ y, cl.slots[i]? = some (.ref y) ∧ Exa Z h y "java/lang/Integer" ∧ Fld Z h y "java/lang/Integer" "value" "I" (.int (i.toInt32 - 128))
theorem own_C_keep {Z : State} {h h' : Heap} {arr : Addr} (C : own_C Z h arr) (K : Keep h h' []) : own_C Z h' arr := by
  obtain ⟨cl, A, hs, he⟩ := C
  exact ⟨cl, ⟨K.2.1 _ _ A.1 nin0, A.2⟩, hs, fun i hi => by obtain ⟨y, h1, h2, h3⟩ := he i hi; exact ⟨y, h1, h2.keep K, h3.keep K nin0⟩⟩
theorem own_c8 (z : Int32) : ¬ ((255 : Int32) < ((z &&& (255 : Int32)).toUInt32.toUInt16.toUInt32.toInt32)) := by
  have a := c_mask z 255 8 (by decide) (by decide)
  have b := c_i2c (z &&& (255 : Int32))
  have o : (255 : Int32).toInt = 255 := rfl
  rw [Int32.lt_iff_toInt_lt, o]; omega
theorem own_d3_0 : decode jdk_43_method_3_code 0 = .ok (.iload_n 0, 1) := by decide +kernel
theorem own_d3_1 : decode jdk_43_method_3_code 1 = .ok (.sipush 255, 3) := by decide +kernel
theorem own_d3_4 : decode jdk_43_method_3_code 4 = .ok (.if_icmp .gt 7, 3) := by decide +kernel
theorem own_d3_7 : decode jdk_43_method_3_code 7 = .ok (.iconst 1, 1) := by decide +kernel
theorem own_d3_8 : decode jdk_43_method_3_code 8 = .ok (.goto 4, 3) := by decide +kernel
theorem own_d3_11 : decode jdk_43_method_3_code 11 = .ok (.iconst 0, 1) := by decide +kernel
theorem own_d3_12 : decode jdk_43_method_3_code 12 = .ok (.ireturn, 1) := by decide +kernel
def own_f3 (p0 : Int32) : Int32 := (if (255 : Int32) < p0 then (0 : Int32) else (1 : Int32))
theorem own_ef3 (m : MethodId) (p0 : Int32) : entryFrame m #[(.int p0)] 1 = mkF m 0 #[.val (.int p0)] [] := by first | (simp [entryFrame, mkF, argsToLocals, Value.category]; done) | rfl
def own_Q3 (Z : State) (p0 : Int32) (h0 : Heap) (n0 : Nat) (v : Option Value) (h : Heap) (L : List Loc) : Prop := v = some (.int (own_f3 p0)) ∧ Fr n0 L ∧ h = h0
theorem own_pn7 : plainName "java/lang/StringLatin1" = true := by first | (simp [plainName, overriddenIn]; done) | decide +kernel
set_option maxRecDepth 65536 in
set_option maxHeartbeats 40000000 in
theorem own_rm3 (l : Launch) (Z : State) (aA : Array Value) (hw : ∀ d ∈ tables_1, d.before aA Z = true) (ws : List Jvm.Cond) (p0 : Int32) (h0 : Heap) (n0 : Nat) (Z0 : n0 ≤ h0.size) :
    MetFree l (⟨"java/lang/StringLatin1", "canEncode", "(C)Z"⟩ : MethodName) (head1 (Jvm.Cond.code (⟨"java/lang/StringLatin1", "canEncode", "(C)Z"⟩ : MethodName) jdk_43_method_3_code 1 (some .boolean) :: ws) ({ frames := 0, cells := 0, slots := 0, locals := 0 } : Room)) (fun a U => a = #[(.int p0)] ∧ Z.Warmed39 U.vm ∧ U.heap = h0) (fun _ _ _ _ _ => True) (fun _ U o U' => ∃ v L, o = .returned v ∧ own_Q3 Z p0 h0 n0 v U'.heap L ∧ FrameEnd U o U' L ({ frames := 0, cells := 0, slots := 0, locals := 0 } : Room).cells ({ frames := 0, cells := 0, slots := 0, locals := 0 } : Room).slots) := by
  refine MetFree.of_bodySF (plainFor_of_name own_pn7) hisR ?_
  intro p e s m args below meth c s₁ Bd hml0 hP hK
  obtain ⟨rfl, hZ, hh⟩ := hP
  have hx := Bd.exec
  have hby := Bd.bytes
  have hlk : meth.locks = false := Bd.notSynchronized
  have hml : c.maxLocals = 1 := hml0
  have hown : s.vm.findClass "java/lang/StringLatin1" = some m.cls := findClass_of_methodNamed Bd.named
  have hnm := (name_of_methodNamed Bd.named Bd.method).1
  have X0 : Stand p l e ({ frames := 0, cells := 0, slots := 0, locals := 0 } : Room) s m #[(.int p0)] below meth c s₁ [] 0 0 := Stand.of_body Bd
  have e0 : s₁.heap = h0 := by rw [← hh, Bd.state]; rfl
  have N0 := Fr.nil n0
  show OG p e below (FE s ({ frames := 0, cells := 0, slots := 0, locals := 0 } : Room).cells ({ frames := 0, cells := 0, slots := 0, locals := 0 } : Room).slots) (own_Q3 Z p0 h0 n0) (s₁.setTop (entryFrame m #[(.int p0)] 1))
  refine og_of (fun _ k => castTop (own_ef3 m p0) k) ?_
  refine o_iloadN X0 hx rfl (hb hby own_d3_0) rfl ?_
  refine o_sipush (z := (255 : Int32)) X0 hx rfl (hb hby own_d3_1) (by decide) ?_
  by_cases hc1 : (255 : Int32) < p0
  · skip
    refine o_icmpY (pc' := 11) X0 hx (hb hby own_d3_4) (tlt hc1).2.2.1 (by decide) (by decide) ?_
    refine o_iconst (z := (0 : Int32)) X0 hx rfl (hb hby own_d3_11) (by decide) ?_
    exact o_retB X0 hx Bd.returns (own_lv X0 hlk (by decide +kernel) (by decide +kernel)) (hb hby own_d3_12) (by decide) ⟨(by rw [own_f3, if_pos hc1]), N0, e0⟩
  · skip
    refine o_icmpN (pc' := 7) X0 hx rfl (hb hby own_d3_4) (flt hc1).2.2.1 ?_
    refine o_iconst (z := (1 : Int32)) X0 hx rfl (hb hby own_d3_7) (by decide) ?_
    refine o_goto (pc' := 12) X0 hx (hb hby own_d3_8) (by decide) (by decide) ?_
    exact o_retB X0 hx Bd.returns (own_lv X0 hlk (by decide +kernel) (by decide +kernel)) (hb hby own_d3_12) (by decide) ⟨(by rw [own_f3, if_neg hc1]), N0, e0⟩
theorem own_d4_0 : decode jdk_43_method_46_code 0 = .ok (.iconst 1, 1) := by decide +kernel
theorem own_d4_1 : decode jdk_43_method_46_code 1 = .ok (.newarray .byte, 2) := by decide +kernel
theorem own_d4_3 : decode jdk_43_method_46_code 3 = .ok (.dup, 1) := by decide +kernel
theorem own_d4_4 : decode jdk_43_method_46_code 4 = .ok (.iconst 0, 1) := by decide +kernel
theorem own_d4_5 : decode jdk_43_method_46_code 5 = .ok (.iload_n 0, 1) := by decide +kernel
theorem own_d4_6 : decode jdk_43_method_46_code 6 = .ok (.i2b, 1) := by decide +kernel
theorem own_d4_7 : decode jdk_43_method_46_code 7 = .ok (.bastore, 1) := by decide +kernel
theorem own_d4_8 : decode jdk_43_method_46_code 8 = .ok (.areturn, 1) := by decide +kernel
theorem own_ef4 (m : MethodId) (p0 : Int32) : entryFrame m #[(.int p0)] 1 = mkF m 0 #[.val (.int p0)] [] := by first | (simp [entryFrame, mkF, argsToLocals, Value.category]; done) | rfl
def own_Q4 (Z : State) (p0 : Int32) (h0 : Heap) (n0 : Nat) (v : Option Value) (h : Heap) (L : List Loc) : Prop := ∃ (b : Addr), v = some (.ref b) ∧ Fr n0 L ∧ Keep h0 h [] ∧ h0.size ≤ b
set_option maxRecDepth 65536 in
set_option maxHeartbeats 40000000 in
theorem own_rm4 (l : Launch) (Z : State) (aA : Array Value) (hw : ∀ d ∈ tables_1, d.before aA Z = true) (ws : List Jvm.Cond) (p0 : Int32) (h0 : Heap) (n0 : Nat) (Z0 : n0 ≤ h0.size) :
    MetFree l (⟨"java/lang/StringLatin1", "toBytes", "(C)[B"⟩ : MethodName) (head1 (Jvm.Cond.code (⟨"java/lang/StringLatin1", "toBytes", "(C)[B"⟩ : MethodName) jdk_43_method_46_code 1 (some (.array .byte)) :: ws) ({ frames := 0, cells := 1, slots := 1, locals := 0 } : Room)) (fun a U => a = #[(.int p0)] ∧ Z.Warmed39 U.vm ∧ U.heap = h0) (fun _ _ _ _ _ => True) (fun _ U o U' => ∃ v L, o = .returned v ∧ own_Q4 Z p0 h0 n0 v U'.heap L ∧ FrameEnd U o U' L ({ frames := 0, cells := 1, slots := 1, locals := 0 } : Room).cells ({ frames := 0, cells := 1, slots := 1, locals := 0 } : Room).slots) := by
  refine MetFree.of_bodySF (plainFor_of_name own_pn7) hisR ?_
  intro p e s m args below meth c s₁ Bd hml0 hP hK
  obtain ⟨rfl, hZ, hh⟩ := hP
  have hx := Bd.exec
  have hby := Bd.bytes
  have hlk : meth.locks = false := Bd.notSynchronized
  have hml : c.maxLocals = 1 := hml0
  have hown : s.vm.findClass "java/lang/StringLatin1" = some m.cls := findClass_of_methodNamed Bd.named
  have hnm := (name_of_methodNamed Bd.named Bd.method).1
  have X0 : Stand p l e ({ frames := 0, cells := 1, slots := 1, locals := 0 } : Room) s m #[(.int p0)] below meth c s₁ [] 0 0 := Stand.of_body Bd
  have e0 : s₁.heap = h0 := by rw [← hh, Bd.state]; rfl
  have N0 := Fr.nil n0
  show OG p e below (FE s ({ frames := 0, cells := 1, slots := 1, locals := 0 } : Room).cells ({ frames := 0, cells := 1, slots := 1, locals := 0 } : Room).slots) (own_Q4 Z p0 h0 n0) (s₁.setTop (entryFrame m #[(.int p0)] 1))
  refine og_of (fun _ k => castTop (own_ef4 m p0) k) ?_
  refine o_iconst (z := (1 : Int32)) X0 hx rfl (hb hby own_d4_0) (by decide) ?_
  obtain ⟨T1, h1, k_b1, X1, e1, E1, A1, st1⟩ := newP X0 hx hZ (hw _ (List.mem_of_getElem? (i := 18) rfl)) e0 (g := (mkF m 1 #[.val (.int p0)] [(.int (1 : Int32))])) rfl (hb hby own_d4_1) rfl (by decide +kernel) (cap := 1) (by decide +kernel) (by decide +kernel) (by decide +kernel) (by decide +kernel)
  obtain ⟨b1, g1⟩ : ∃ z, z = h0.size := ⟨_, rfl⟩
  rw [← g1] at A1 st1
  have gn1 : n0 ≤ b1 := Nat.le_trans Z0 (Nat.le_of_eq g1.symm)
  have sz1 : h0.size ≤ b1 := Nat.le_trans (Keep.refl h0 []).1 (Nat.le_of_eq g1.symm)
  have Kp2 : Keep h0 h1 [] := (Keep.refl h0 []).ext E1
  have V1 : Arv Z h1 b1 k_b1 .byte (1 : Int32) [(.int (0 : Int32))] (.int (0 : Int32)) := (Arv.new A1 (by decide)).pad (pad_rep [] (.int (0 : Int32)) 1)
  refine og_of st1 ?_
  show OG p e below _ _ (T1.setTop (mkF m 3 #[.val (.int p0)] [(.ref b1)]))
  refine o_dup X1 hx rfl (hb hby own_d4_3) rfl ?_
  refine o_iconst (z := (0 : Int32)) X1 hx rfl (hb hby own_d4_4) (by decide) ?_
  refine o_iloadN X1 hx rfl (hb hby own_d4_5) rfl ?_
  obtain ⟨z3, hz3⟩ : ∃ z : Int32, p0.toInt8.toInt32 = z := ⟨_, rfl⟩
  refine o_i2b (z := z3) X1 hx rfl (hb hby own_d4_6) hz3 ?_
  obtain ⟨clv4, Arv4, qv4, Sv4, Nv4, Hv4, Gv4⟩ := id V1
  have hin5 : ¬ ((0 : Int32) < 0 ∨ clv4.slots.size ≤ ((0 : Int32)).toNatClampNeg) := inb_of Sv4 ⟨by decide, by decide⟩
  obtain ⟨T5, h5, X5, e5, W5, st5⟩ := stB X1 hx hZ e1 Arv4 (j := (0 : Int32)) hin5 (g := (mkF m 7 #[.val (.int p0)] [(.int z3), (.int (0 : Int32)), (.ref b1), (.ref b1)])) rfl rfl (hb hby own_d4_7)
  have V5 : Arv Z h5 b1 k_b1 .byte (1 : Int32) [(.int (nar .byte z3))] (.int (0 : Int32)) := Arv.set Arv4 qv4 Sv4 Nv4 Hv4 Gv4 (fits_nar_byte _) W5 0 rfl (Nat.le_of_ble_eq_true rfl)
  have N5 := Fr.snoc X5 N0 gn1
  have Kp6 : Keep h0 h5 [] := Kp2.wr W5 (Or.inr sz1)
  refine og_of st5 ?_
  show OG p e below _ _ (T5.setTop (mkF m 8 #[.val (.int p0)] [(.ref b1)]))
  subst hz3
  exact o_retA X5 hx Bd.returns rfl (own_lv X5 hlk (by decide +kernel) (by decide +kernel)) (hb hby own_d4_8) rfl rfl ⟨b1, rfl, N5, (by rw [e5]; exact Kp6), sz1⟩
theorem own_d5_0 : decode jdk_42_method_151_code 0 = .ok (.aload_n 0, 1) := by decide +kernel
theorem own_d5_1 : decode jdk_42_method_151_code 1 = .ok (.invokespecial 1, 3) := by decide +kernel
theorem own_d5_4 : decode jdk_42_method_151_code 4 = .ok (.aload_n 0, 1) := by decide +kernel
theorem own_d5_5 : decode jdk_42_method_151_code 5 = .ok (.aload_n 1, 1) := by decide +kernel
theorem own_d5_6 : decode jdk_42_method_151_code 6 = .ok (.putfield 9, 3) := by decide +kernel
theorem own_d5_9 : decode jdk_42_method_151_code 9 = .ok (.aload_n 0, 1) := by decide +kernel
theorem own_d5_10 : decode jdk_42_method_151_code 10 = .ok (.iload_n 2, 1) := by decide +kernel
theorem own_d5_11 : decode jdk_42_method_151_code 11 = .ok (.putfield 15, 3) := by decide +kernel
theorem own_d5_14 : decode jdk_42_method_151_code 14 = .ok (.return_, 1) := by decide +kernel
theorem own_ef5 (m : MethodId) (a0 : Addr) (a1 : Addr) : entryFrame m #[(.ref a0), (.ref a1), (.int (0 : Int32))] 3 = mkF m 0 #[.val (.ref a0), .val (.ref a1), .val (.int (0 : Int32))] [] := by first | (simp [entryFrame, mkF, argsToLocals, Value.category]; done) | rfl
def own_Q5 (Z : State) (a0 : Addr) (a1 : Addr) (h0 : Heap) (n0 : Nat) (v : Option Value) (h : Heap) (L : List Loc) : Prop := v = none ∧ Fr n0 L ∧ Keep h0 h [a0] ∧ Fld Z h a0 "java/lang/String" "value" "[B" (.ref a1) ∧ Fld Z h a0 "java/lang/String" "coder" "B" (.int (0 : Int32))
theorem own_pn25 : plainName "java/lang/String" = true := by first | (simp [plainName, overriddenIn]; done) | decide +kernel
set_option maxRecDepth 65536 in
set_option maxHeartbeats 40000000 in
theorem own_rm5 (l : Launch) (Z : State) (aA : Array Value) (hw : ∀ d ∈ tables_1, d.before aA Z = true) (ws : List Jvm.Cond) (a0 : Addr) (a1 : Addr) (h0 : Heap) (n0 : Nat) (Z0 : n0 ≤ h0.size) (pre0 : Exa Z h0 a0 "java/lang/String") (pre1 : n0 ≤ a0) (pre2 : Fld Z h0 a0 "java/lang/String" "value" "[B" .null) (pre3 : Fld Z h0 a0 "java/lang/String" "coder" "B" (.int (0 : Int32))) :
    MetFree l (⟨"java/lang/String", "<init>", "([BB)V"⟩ : MethodName) (head1 (Jvm.Cond.code (⟨"java/lang/String", "<init>", "([BB)V"⟩ : MethodName) jdk_42_method_151_code 3 none :: ws) ({ frames := 1, cells := 0, slots := 0, locals := 12 } : Room)) (fun a U => a = #[(.ref a0), (.ref a1), (.int (0 : Int32))] ∧ Z.Warmed39 U.vm ∧ U.heap = h0) (fun _ _ _ _ _ => True) (fun _ U o U' => ∃ v L, o = .returned v ∧ own_Q5 Z a0 a1 h0 n0 v U'.heap L ∧ FrameEnd U o U' L ({ frames := 1, cells := 0, slots := 0, locals := 12 } : Room).cells ({ frames := 1, cells := 0, slots := 0, locals := 12 } : Room).slots) := by
  refine MetFree.of_bodySF (plainFor_of_name own_pn25) hisR ?_
  intro p e s m args below meth c s₁ Bd hml0 hP hK
  obtain ⟨rfl, hZ, hh⟩ := hP
  have hx := Bd.exec
  have hby := Bd.bytes
  have hlk : meth.locks = false := Bd.notSynchronized
  have hml : c.maxLocals = 3 := hml0
  have hown : s.vm.findClass "java/lang/String" = some m.cls := findClass_of_methodNamed Bd.named
  have hnm := (name_of_methodNamed Bd.named Bd.method).1
  have X0 : Stand p l e ({ frames := 1, cells := 0, slots := 0, locals := 12 } : Room) s m #[(.ref a0), (.ref a1), (.int (0 : Int32))] below meth c s₁ [] 0 0 := Stand.of_body Bd
  have e0 : s₁.heap = h0 := by rw [← hh, Bd.state]; rfl
  have N0 := Fr.nil n0
  show OG p e below (FE s ({ frames := 1, cells := 0, slots := 0, locals := 12 } : Room).cells ({ frames := 1, cells := 0, slots := 0, locals := 12 } : Room).slots) (own_Q5 Z a0 a1 h0 n0) (s₁.setTop (entryFrame m #[(.ref a0), (.ref a1), (.int (0 : Int32))] 3))
  refine og_of (fun _ k => castTop (own_ef5 m a0 a1) k) ?_
  refine o_aloadN X0 hx rfl (hb hby own_d5_0) rfl rfl ?_
  obtain ⟨T1, X1, e1, st1⟩ := initO X0 hx hZ hown (hw _ (List.mem_of_getElem? (i := 23) rfl)) (hw _ (List.mem_of_getElem? (i := 24) rfl)) (hw _ (List.mem_of_getElem? (i := 25) rfl)) e0 (g := (mkF m 1 #[.val (.ref a0), .val (.ref a1), .val (.int (0 : Int32))] [(.ref a0)])) rfl (by rw [hml]; rfl) rfl (hb hby own_d5_1) (by decide) (W := 0) (by show 2 * 0 + _ ≤ _; exact Nat.le_of_eq rfl) (by decide)
  refine og_of st1 ?_
  show OG p e below _ _ (T1.setTop (mkF m 4 #[.val (.ref a0), .val (.ref a1), .val (.int (0 : Int32))] []))
  refine o_aloadN X1 hx rfl (hb hby own_d5_4) rfl rfl ?_
  refine o_aloadN X1 hx rfl (hb hby own_d5_5) rfl rfl ?_
  obtain ⟨T2, h2, X2, e2, W2, st2⟩ := putF X1 hx hZ hown (host := "") (Or.inl (hw _ (List.mem_of_getElem? (i := 26) rfl))) Via.refl e1 pre2 pre0 (Or.inr ⟨(hw _ (List.mem_of_getElem? (i := 27) rfl)), rfl, hnm⟩) (hw _ (List.mem_of_getElem? (i := 14) rfl)) (ty := (.array .byte)) (by decide) rfl rfl (g := (mkF m 6 #[.val (.ref a0), .val (.ref a1), .val (.int (0 : Int32))] [(.ref a1), (.ref a0)])) rfl rfl (hb hby own_d5_6)
  have Fw2 := pre2.same W2
  have N2 := Fr.snoc X2 N0 pre1
  have Kp3 : Keep h0 h2 [a0] := (Keep.refl h0 [a0]).wr W2 (Or.inl (List.mem_of_getElem? (i := 0) rfl))
  refine og_of st2 ?_
  show OG p e below _ _ (T2.setTop (mkF m 9 #[.val (.ref a0), .val (.ref a1), .val (.int (0 : Int32))] []))
  refine o_aloadN X2 hx rfl (hb hby own_d5_9) rfl rfl ?_
  refine o_iloadN X2 hx rfl (hb hby own_d5_10) rfl ?_
  have Fc4 : Exa Z h2 a0 "java/lang/String" := (Exa.wr W2 pre0)
  have Fc5 : Fld Z h2 a0 "java/lang/String" "coder" "B" (.int (0 : Int32)) := (Fld.other W2 pre3 (Or.inr (slot_ne (Or.inr (hw _ (List.mem_of_getElem? (i := 29) rfl))) (Or.inr (hw _ (List.mem_of_getElem? (i := 27) rfl))) (by decide) (t := .byte) (t' := (.array .byte)) (by decide) (by decide))))
  obtain ⟨T6, h6, X6, e6, W6, st6⟩ := putFN X2 hx hZ hown (hw _ (List.mem_of_getElem? (i := 28) rfl)) Via.refl e2 Fc5 Fc4 (Or.inr ⟨(hw _ (List.mem_of_getElem? (i := 29) rfl)), rfl, hnm⟩) (hw _ (List.mem_of_getElem? (i := 14) rfl)) (ty := .byte) (v' := (.int (0 : Int32))) (by decide) rfl rfl (g := (mkF m 11 #[.val (.ref a0), .val (.ref a1), .val (.int (0 : Int32))] [(.int (0 : Int32)), (.ref a0)])) rfl rfl (hb hby own_d5_11)
  have Fw6 := Fc5.same W6
  have N6 := Fr.snoc X6 N2 pre1
  have Kp7 : Keep h0 h6 [a0] := Kp3.wr W6 (Or.inl (List.mem_of_getElem? (i := 0) rfl))
  refine og_of st6 ?_
  show OG p e below _ _ (T6.setTop (mkF m 14 #[.val (.ref a0), .val (.ref a1), .val (.int (0 : Int32))] []))
  have Fc8 : Fld Z h6 a0 "java/lang/String" "value" "[B" (.ref a1) := (Fld.other W6 Fw2 (Or.inr (slot_ne (Or.inr (hw _ (List.mem_of_getElem? (i := 27) rfl))) (Or.inr (hw _ (List.mem_of_getElem? (i := 29) rfl))) (by decide) (t := (.array .byte)) (t' := .byte) (by decide) (by decide))))
  exact o_ret0 X6 hx Bd.returns (own_lv X6 hlk (by decide +kernel) (by decide +kernel)) (hb hby own_d5_14) ⟨rfl, N6, (by rw [e6]; exact Kp7), (by rw [e6]; exact Fc8), (by rw [e6]; exact Fw6)⟩
theorem own_pd0 : parseMethodDescriptor "(C)Z" = some ⟨[.char], some .boolean⟩ := by decide +kernel
theorem own_pd1 : parseMethodDescriptor "(C)[B" = some ⟨[.char], some (.array .byte)⟩ := by decide +kernel
theorem own_pd2 : parseMethodDescriptor "([BB)V" = some ⟨[(.array .byte), .byte], none⟩ := by decide +kernel
theorem own_d2_0 : decode jdk_42_method_139_code 0 = .ok (.getstatic 38, 3) := by decide +kernel
theorem own_d2_3 : decode jdk_42_method_139_code 3 = .ok (.ifCond .eq 23, 3) := by decide +kernel
theorem own_d2_6 : decode jdk_42_method_139_code 6 = .ok (.iload_n 0, 1) := by decide +kernel
theorem own_d2_7 : decode jdk_42_method_139_code 7 = .ok (.invokestatic 1015, 3) := by decide +kernel
theorem own_d2_10 : decode jdk_42_method_139_code 10 = .ok (.ifCond .eq 16, 3) := by decide +kernel
theorem own_d2_13 : decode jdk_42_method_139_code 13 = .ok (.new 10, 3) := by decide +kernel
theorem own_d2_16 : decode jdk_42_method_139_code 16 = .ok (.dup, 1) := by decide +kernel
theorem own_d2_17 : decode jdk_42_method_139_code 17 = .ok (.iload_n 0, 1) := by decide +kernel
theorem own_d2_18 : decode jdk_42_method_139_code 18 = .ok (.invokestatic 1018, 3) := by decide +kernel
theorem own_d2_21 : decode jdk_42_method_139_code 21 = .ok (.iconst 0, 1) := by decide +kernel
theorem own_d2_22 : decode jdk_42_method_139_code 22 = .ok (.invokespecial 209, 3) := by decide +kernel
theorem own_d2_25 : decode jdk_42_method_139_code 25 = .ok (.areturn, 1) := by decide +kernel
theorem own_ef2 (m : MethodId) (p0 : Int32) : entryFrame m #[(.int p0)] 1 = mkF m 0 #[.val (.int p0)] [] := by first | (simp [entryFrame, mkF, argsToLocals, Value.category]; done) | rfl
def own_Q2 (Z : State) (p0 : Int32) (cs : Int32) (h0 : Heap) (n0 : Nat) (v : Option Value) (h : Heap) (L : List Loc) : Prop := ∃ (b : Addr), v = some (.ref b) ∧ Fr n0 L ∧ Keep h0 h [] ∧ h0.size ≤ b ∧ Exa Z h b "java/lang/String"
set_option maxRecDepth 65536 in
set_option maxHeartbeats 40000000 in
theorem own_rm2 (l : Launch) (Z : State) (aA : Array Value) (hw : ∀ d ∈ tables_1, d.before aA Z = true) (ws : List Jvm.Cond) (p0 : Int32) (cs : Int32) (h0 : Heap) (n0 : Nat) (Z0 : n0 ≤ h0.size) (pre0 : Sta Z h0 "java/lang/String" "COMPACT_STRINGS" "Z" (.int cs)) (hcs : ¬ (cs = (0 : Int32))) (hc : ¬ ((255 : Int32) < p0)) :
    MetFree l (⟨"java/lang/String", "valueOf", "(C)Ljava/lang/String;"⟩ : MethodName) (head1 (Jvm.Cond.code (⟨"java/lang/String", "valueOf", "(C)Ljava/lang/String;"⟩ : MethodName) jdk_42_method_139_code 1 (some (.object "java/lang/String")) :: ws) ({ frames := 2, cells := 2, slots := 5, locals := 27 } : Room)) (fun a U => a = #[(.int p0)] ∧ Z.Warmed39 U.vm ∧ U.heap = h0) (fun _ _ _ _ _ => True) (fun _ U o U' => ∃ v L, o = .returned v ∧ own_Q2 Z p0 cs h0 n0 v U'.heap L ∧ FrameEnd U o U' L ({ frames := 2, cells := 2, slots := 5, locals := 27 } : Room).cells ({ frames := 2, cells := 2, slots := 5, locals := 27 } : Room).slots) := by
  refine MetFree.of_bodySF (plainFor_of_name own_pn25) hisR ?_
  intro p e s m args below meth c s₁ Bd hml0 hP hK
  obtain ⟨rfl, hZ, hh⟩ := hP
  have hx := Bd.exec
  have hby := Bd.bytes
  have hlk : meth.locks = false := Bd.notSynchronized
  have hml : c.maxLocals = 1 := hml0
  have hown : s.vm.findClass "java/lang/String" = some m.cls := findClass_of_methodNamed Bd.named
  have hnm := (name_of_methodNamed Bd.named Bd.method).1
  have X0 : Stand p l e ({ frames := 2, cells := 2, slots := 5, locals := 27 } : Room) s m #[(.int p0)] below meth c s₁ [] 0 0 := Stand.of_body Bd
  have e0 : s₁.heap = h0 := by rw [← hh, Bd.state]; rfl
  have N0 := Fr.nil n0
  show OG p e below (FE s ({ frames := 2, cells := 2, slots := 5, locals := 27 } : Room).cells ({ frames := 2, cells := 2, slots := 5, locals := 27 } : Room).slots) (own_Q2 Z p0 cs h0 n0) (s₁.setTop (entryFrame m #[(.int p0)] 1))
  refine og_of (fun _ k => castTop (own_ef2 m p0) k) ?_
  obtain ⟨T1, X1, e1, st1⟩ := getS2 X0 hx hZ hown (host := "") (Or.inl (hw _ (List.mem_of_getElem? (i := 8) rfl))) Via.refl e0 pre0 (g := (mkF m 0 #[.val (.int p0)] [])) rfl (hb hby own_d2_0)
  refine og_of st1 ?_
  show OG p e below _ _ (T1.setTop (mkF m 3 #[.val (.int p0)] [(.int cs)]))
  have hk2 : ¬ (cs = (0 : Int32)) := hcs
  refine o_ifN (pc' := 6) X1 hx rfl (hb hby own_d2_3) ((if0 _ _).trans (feq hk2).1) ?_
  refine o_iloadN X1 hx rfl (hb hby own_d2_6) rfl ?_
  obtain ⟨_, _, ⟨T3, L3, k3, n3⟩, -, X3, ⟨Lc3, hQ3, l3, y3, z3⟩, st3⟩ := Jvm.LawKit.callS X1 hx (y := (⟨"java/lang/StringLatin1", "canEncode", "(C)Z"⟩ : MethodName)) hown (mvT hZ (hw _ (List.mem_of_getElem? (i := 9) rfl))) (mvT hZ (hw _ (List.mem_of_getElem? (i := 10) rfl))) (mvT hZ (hw _ (List.mem_of_getElem? (i := 11) rfl))) (mvT hZ (hw _ (List.mem_of_getElem? (i := 12) rfl))) (by decide) (backOf (W := 0) (own_rm3 l Z aA hw [] p0 h0 n0 Z0) hZ (hw _ (List.mem_of_getElem? (i := 12) rfl)) (hw _ (List.mem_of_getElem? (i := 11) rfl)) (by decide) (by decide)) (g := (mkF m 7 #[.val (.int p0)] [(.int p0)])) rfl (by rw [hml]; rfl) (argsL := [(.int p0)]) (rest := []) (lenOf own_pd0 rfl) rfl (by show 2 * 0 + _ ≤ _; exact Nat.le_of_eq rfl) (hb hby own_d2_7) (fun _ _ => ⟨rfl, e1, (by dsimp only [Pt.cells, Pt.slots]; decide +kernel), (by dsimp only [Pt.cells, Pt.slots]; decide +kernel)⟩)
  dsimp only [Pt.U, Pt.locs, Pt.cells, Pt.slots] at X3 l3 y3 z3 st3 hQ3
  rw [l3, y3, z3] at X3
  obtain ⟨rfl, N3q, ee3⟩ := hQ3
  have N4 := Fr.app N0 N3q
  refine og_of st3 ?_
  show OG p e below _ _ (T3.setTop (mkF m 10 #[.val (.int p0)] [(.int (own_f3 p0))]))
  have hk5 : ¬ ((own_f3 p0) = (0 : Int32)) := by unfold own_f3; rw [if_neg hc]; decide
  refine o_ifN (pc' := 13) X3 hx rfl (hb hby own_d2_10) ((if0 _ _).trans (feq hk5).1) ?_
  obtain ⟨T6, h6, X6, e6, E6, A6, D6, -, st6⟩ := newO X3 hx hZ hown (hw _ (List.mem_of_getElem? (i := 13) rfl)) (hw _ (List.mem_of_getElem? (i := 14) rfl)) (hw _ (List.mem_of_getElem? (i := 6) rfl)) ee3 (g := (mkF m 13 #[.val (.int p0)] [])) rfl (hb hby own_d2_13) (by decide +kernel) (by decide +kernel)
  obtain ⟨b6, g6⟩ : ∃ z, z = h0.size := ⟨_, rfl⟩
  rw [← g6] at A6 D6 st6
  have gn6 : n0 ≤ b6 := Nat.le_trans Z0 (Nat.le_of_eq g6.symm)
  have sz6 : h0.size ≤ b6 := Nat.le_trans (Keep.refl h0 []).1 (Nat.le_of_eq g6.symm)
  have Kp7 : Keep h0 h6 [] := (Keep.refl h0 []).ext E6
  have F6_27 : Fld Z h6 b6 "java/lang/String" "value" "[B" .null := D6 (Or.inr (hw _ (List.mem_of_getElem? (i := 27) rfl))) (ty := (.array .byte)) (by decide)
  have F6_29 : Fld Z h6 b6 "java/lang/String" "coder" "B" (.int (0 : Int32)) := D6 (Or.inr (hw _ (List.mem_of_getElem? (i := 29) rfl))) (ty := .byte) (by decide)
  refine og_of st6 ?_
  show OG p e below _ _ (T6.setTop (mkF m 16 #[.val (.int p0)] [(.ref b6)]))
  refine o_dup X6 hx rfl (hb hby own_d2_16) rfl ?_
  refine o_iloadN X6 hx rfl (hb hby own_d2_17) rfl ?_
  have zz9 := (Nat.le_trans Z0 E6.1)
  obtain ⟨_, _, ⟨T8, L8, k8, n8⟩, -, X8, ⟨Lc8, hQ8, l8, y8, z8⟩, st8⟩ := Jvm.LawKit.callS X6 hx (y := (⟨"java/lang/StringLatin1", "toBytes", "(C)[B"⟩ : MethodName)) hown (mvT hZ (hw _ (List.mem_of_getElem? (i := 15) rfl))) (mvT hZ (hw _ (List.mem_of_getElem? (i := 16) rfl))) (mvT hZ (hw _ (List.mem_of_getElem? (i := 11) rfl))) (mvT hZ (hw _ (List.mem_of_getElem? (i := 17) rfl))) (by decide) (backOf (W := 2) (own_rm4 l Z aA hw [] p0 h6 n0 zz9) hZ (hw _ (List.mem_of_getElem? (i := 17) rfl)) (hw _ (List.mem_of_getElem? (i := 11) rfl)) (by decide) (by decide)) (g := (mkF m 18 #[.val (.int p0)] [(.int p0), (.ref b6), (.ref b6)])) rfl (by rw [hml]; rfl) (argsL := [(.int p0)]) (rest := [(.ref b6), (.ref b6)]) (lenOf own_pd1 rfl) rfl (by show 2 * 0 + _ ≤ _; exact Nat.le_of_eq rfl) (hb hby own_d2_18) (fun _ _ => ⟨rfl, e6, (by dsimp only [Pt.cells, Pt.slots]; decide +kernel), (by dsimp only [Pt.cells, Pt.slots]; decide +kernel)⟩)
  dsimp only [Pt.U, Pt.locs, Pt.cells, Pt.slots] at X8 l8 y8 z8 st8 hQ8
  rw [l8, y8, z8] at X8
  obtain ⟨b8, rfl, N8q, K8, sq8_0⟩ := hQ8
  have ne10 : b6 ≠ b8 := Nat.ne_of_lt (Nat.lt_of_lt_of_le A6.lt sq8_0)
  have gnb8 : n0 ≤ b8 := Nat.le_trans zz9 sq8_0
  have szb8 : h0.size ≤ b8 := Nat.le_trans Kp7.1 sq8_0
  have N11 := Fr.app N4 N8q
  have Kp12 : Keep h0 T8.heap [] := Kp7.trans K8 all0
  refine og_of st8 ?_
  show OG p e below _ _ (T8.setTop (mkF m 21 #[.val (.int p0)] [(.ref b8), (.ref b6), (.ref b6)]))
  refine o_iconst (z := (0 : Int32)) X8 hx rfl (hb hby own_d2_21) (by decide) ?_
  have Fc14 : Exa Z T8.heap b6 "java/lang/String" := (A6.keep K8)
  have Fc15 : Fld Z T8.heap b6 "java/lang/String" "value" "[B" .null := (F6_27.keep K8 nin0)
  have Fc16 : Fld Z T8.heap b6 "java/lang/String" "coder" "B" (.int (0 : Int32)) := (F6_29.keep K8 nin0)
  have zz17 := (Nat.le_trans zz9 K8.1)
  obtain ⟨_, _, ⟨T13, L13, k13, n13⟩, -, X13, ⟨Lc13, hQ13, l13, y13, z13⟩, st13⟩ := X8.specialBack hx (y := (⟨"java/lang/String", "<init>", "([BB)V"⟩ : MethodName)) rfl hown (mvT hZ (hw _ (List.mem_of_getElem? (i := 19) rfl))) (mvT hZ (hw _ (List.mem_of_getElem? (i := 20) rfl))) (mvT hZ (hw _ (List.mem_of_getElem? (i := 22) rfl))) (by decide) (backOf (W := 1) (own_rm5 l Z aA hw [] b6 b8 T8.heap n0 zz17 Fc14 gn6 Fc15 Fc16) hZ (hw _ (List.mem_of_getElem? (i := 22) rfl)) (hw _ (List.mem_of_getElem? (i := 6) rfl)) (by decide) (by decide)) (g := (mkF m 22 #[.val (.int p0)] [(.int (0 : Int32)), (.ref b8), (.ref b6), (.ref b6)])) rfl (by rw [hml]; rfl) (Steps.refl _) (a := b6) (argsL := [(.ref b8), (.int (0 : Int32))]) (rest := [(.ref b6)]) (lenOf own_pd2 rfl) rfl (by show 2 * 0 + _ ≤ _; exact Nat.le_of_eq rfl) (hb hby own_d2_22) (fun _ _ => ⟨rfl, rfl, (by dsimp only [Pt.cells, Pt.slots]; decide +kernel), (by dsimp only [Pt.cells, Pt.slots]; decide +kernel)⟩)
  dsimp only [Pt.U, Pt.locs, Pt.cells, Pt.slots] at X13 l13 y13 z13 st13 hQ13
  rw [l13, y13, z13] at X13
  obtain ⟨rfl, N13q, K13, f13_0, f13_1⟩ := hQ13
  have N18 := Fr.app N11 N13q
  have Kp19 : Keep h0 T13.heap [] := Kp12.trans K13 (allS (Or.inr sz6) all0)
  refine og_tr st13 ?_
  show OG p e below _ _ (T13.setTop (mkF m 25 #[.val (.int p0)] [(.ref b6)]))
  have Fc20 : Exa Z T13.heap b6 "java/lang/String" := (Fc14.keep K13)
  exact o_retA X13 hx Bd.returns rfl (own_lv X13 hlk (by decide +kernel) (by decide +kernel)) (hb hby own_d2_25) rfl rfl ⟨b6, rfl, N18, (Kp19), sz6, Fc20⟩
theorem own_pd3 : parseMethodDescriptor "(C)Ljava/lang/String;" = some ⟨[.char], some (.object "java/lang/String")⟩ := by decide +kernel
theorem own_d1_0 : decode method_3_code 0 = .ok (.iload_n 0, 1) := by decide +kernel
theorem own_d1_1 : decode method_3_code 1 = .ok (.iload_n 1, 1) := by decide +kernel
theorem own_d1_2 : decode method_3_code 2 = .ok (.iushr, 1) := by decide +kernel
theorem own_d1_3 : decode method_3_code 3 = .ok (.istore_n 3, 1) := by decide +kernel
theorem own_d1_4 : decode method_3_code 4 = .ok (.iload_n 2, 1) := by decide +kernel
theorem own_d1_5 : decode method_3_code 5 = .ok (.ifCond .eq 13, 3) := by decide +kernel
theorem own_d1_8 : decode method_3_code 8 = .ok (.iload_n 3, 1) := by decide +kernel
theorem own_d1_9 : decode method_3_code 9 = .ok (.sipush 256, 3) := by decide +kernel
theorem own_d1_12 : decode method_3_code 12 = .ok (.iand, 1) := by decide +kernel
theorem own_d1_13 : decode method_3_code 13 = .ok (.ifCond .ne 5, 3) := by decide +kernel
theorem own_d1_16 : decode method_3_code 16 = .ok (.aconst_null, 1) := by decide +kernel
theorem own_d1_17 : decode method_3_code 17 = .ok (.areturn, 1) := by decide +kernel
theorem own_d1_18 : decode method_3_code 18 = .ok (.iload_n 3, 1) := by decide +kernel
theorem own_d1_19 : decode method_3_code 19 = .ok (.sipush 255, 3) := by decide +kernel
theorem own_d1_22 : decode method_3_code 22 = .ok (.iand, 1) := by decide +kernel
theorem own_d1_23 : decode method_3_code 23 = .ok (.i2c, 1) := by decide +kernel
theorem own_d1_24 : decode method_3_code 24 = .ok (.invokestatic 69, 3) := by decide +kernel
theorem own_d1_27 : decode method_3_code 27 = .ok (.areturn, 1) := by decide +kernel
theorem own_efs1 (m : MethodId) (p0 : Int32) (p1 : Int32) : entryFrame m #[(.int p0), (.int p1), (.int (1 : Int32))] 4 = mkF m 0 #[.val (.int p0), .val (.int p1), .val (.int (1 : Int32)), .unset] [] := by first | (simp [entryFrame, mkF, argsToLocals, Value.category]; done) | rfl
def own_Qs1 (Z : State) (p0 : Int32) (p1 : Int32) (cs : Int32) (h0 : Heap) (n0 : Nat) (v : Option Value) (h : Heap) (L : List Loc) : Prop := ∃  (x : Value), v = some x ∧ Fr n0 L ∧ Keep h0 h [] ∧ x.isRef = true ∧ own_S Z h x
theorem own_pn56 : plainName "com/example/fact4/fact4/model/AnswerRecordWithAnswerPinLaw" = true := by first | (simp [plainName, overriddenIn]; done) | decide +kernel
set_option maxRecDepth 65536 in
set_option maxHeartbeats 40000000 in
theorem own_rms1 (l : Launch) (Z : State) (aA : Array Value) (hw : ∀ d ∈ tables_1, d.before aA Z = true) (ws : List Jvm.Cond) (p0 : Int32) (p1 : Int32) (cs : Int32) (h0 : Heap) (n0 : Nat) (Z0 : n0 ≤ h0.size) (pre0 : Sta Z h0 "java/lang/String" "COMPACT_STRINGS" "Z" (.int cs)) (hcs : ¬ (cs = (0 : Int32))) :
    MetFree l (⟨"com/example/fact4/fact4/model/AnswerRecordWithAnswerPinLaw", "str", "(IIZ)Ljava/lang/String;"⟩ : MethodName) (head1 (Jvm.Cond.code (⟨"com/example/fact4/fact4/model/AnswerRecordWithAnswerPinLaw", "str", "(IIZ)Ljava/lang/String;"⟩ : MethodName) method_3_code 4 (some (.object "java/lang/String")) :: ws) ({ frames := 3, cells := 2, slots := 5, locals := 39 } : Room)) (fun a U => a = #[(.int p0), (.int p1), (.int (1 : Int32))] ∧ Z.Warmed39 U.vm ∧ U.heap = h0) (fun _ _ _ _ _ => True) (fun _ U o U' => ∃ v L, o = .returned v ∧ own_Qs1 Z p0 p1 cs h0 n0 v U'.heap L ∧ FrameEnd U o U' L ({ frames := 3, cells := 2, slots := 5, locals := 39 } : Room).cells ({ frames := 3, cells := 2, slots := 5, locals := 39 } : Room).slots) := by
  refine MetFree.of_bodySF (plainFor_of_name own_pn56) hisR ?_
  intro p e s m args below meth c s₁ Bd hml0 hP hK
  obtain ⟨rfl, hZ, hh⟩ := hP
  have hx := Bd.exec
  have hby := Bd.bytes
  have hlk : meth.locks = false := Bd.notSynchronized
  have hml : c.maxLocals = 4 := hml0
  have hown : s.vm.findClass "com/example/fact4/fact4/model/AnswerRecordWithAnswerPinLaw" = some m.cls := findClass_of_methodNamed Bd.named
  have hnm := (name_of_methodNamed Bd.named Bd.method).1
  have X0 : Stand p l e ({ frames := 3, cells := 2, slots := 5, locals := 39 } : Room) s m #[(.int p0), (.int p1), (.int (1 : Int32))] below meth c s₁ [] 0 0 := Stand.of_body Bd
  have e0 : s₁.heap = h0 := by rw [← hh, Bd.state]; rfl
  have N0 := Fr.nil n0
  show OG p e below (FE s ({ frames := 3, cells := 2, slots := 5, locals := 39 } : Room).cells ({ frames := 3, cells := 2, slots := 5, locals := 39 } : Room).slots) (own_Qs1 Z p0 p1 cs h0 n0) (s₁.setTop (entryFrame m #[(.int p0), (.int p1), (.int (1 : Int32))] 4))
  refine og_of (fun _ k => castTop (own_efs1 m p0 p1) k) ?_
  refine o_iloadN X0 hx rfl (hb hby own_d1_0) rfl ?_
  refine o_iloadN X0 hx rfl (hb hby own_d1_1) rfl ?_
  obtain ⟨z1, hz1⟩ : ∃ z : Int32, (p0.toUInt32 >>> (p1 &&& 31).toUInt32).toInt32 = z := ⟨_, rfl⟩
  refine o_iushr (z := z1) X0 hx rfl (hb hby own_d1_2) hz1 ?_
  refine o_istoreN X0 hx rfl (hb hby own_d1_3) (L' := #[.val (.int p0), .val (.int p1), .val (.int (1 : Int32)), .val (.int z1)]) rfl ?_
  refine o_iloadN X0 hx rfl (hb hby own_d1_4) rfl ?_
  refine o_ifN (pc' := 8) X0 hx rfl (hb hby own_d1_5) ((if0 _ _).trans (feq (by decide : ¬ ((1 : Int32) = (0 : Int32)))).1) ?_
  refine o_iloadN X0 hx rfl (hb hby own_d1_8) rfl ?_
  refine o_sipush (z := (256 : Int32)) X0 hx rfl (hb hby own_d1_9) (by decide) ?_
  obtain ⟨z2, hz2⟩ : ∃ z : Int32, z1 &&& (256 : Int32) = z := ⟨_, rfl⟩
  refine o_iand (z := z2) X0 hx rfl (hb hby own_d1_12) hz2 ?_
  by_cases hc3 : z2 = (0 : Int32)
  · skip
    refine o_ifN (pc' := 16) X0 hx rfl (hb hby own_d1_13) ((if0 _ _).trans (teq hc3).2) ?_
    refine o_aconst_null X0 hx rfl (hb hby own_d1_16) ?_
    subst hz1 hz2
    exact o_retA X0 hx Bd.returns rfl (own_lv X0 hlk (by decide +kernel) (by decide +kernel)) (hb hby own_d1_17) rfl rfl ⟨.null, rfl, N0, (by rw [e0]; exact (Keep.refl h0 [])), rfl, (Or.inl rfl)⟩
  · skip
    refine o_ifY (pc' := 18) X0 hx (hb hby own_d1_13) ((if0 _ _).trans (feq hc3).2) (by decide) (by decide) ?_
    refine o_iloadN X0 hx rfl (hb hby own_d1_18) rfl ?_
    refine o_sipush (z := (255 : Int32)) X0 hx rfl (hb hby own_d1_19) (by decide) ?_
    obtain ⟨z4, hz4⟩ : ∃ z : Int32, z1 &&& (255 : Int32) = z := ⟨_, rfl⟩
    refine o_iand (z := z4) X0 hx rfl (hb hby own_d1_22) hz4 ?_
    obtain ⟨z5, hz5⟩ : ∃ z : Int32, z4.toUInt32.toUInt16.toUInt32.toInt32 = z := ⟨_, rfl⟩
    refine o_i2c (z := z5) X0 hx rfl (hb hby own_d1_23) hz5 ?_
    have hw_7 : ¬ (cs = (0 : Int32)) := hcs
    have hw_8 : ¬ ((255 : Int32) < z5) := by subst hz4 hz5; exact own_c8 _
    obtain ⟨_, _, ⟨T6, L6, k6, n6⟩, -, X6, ⟨Lc6, hQ6, l6, y6, z6⟩, st6⟩ := Jvm.LawKit.callS X0 hx (y := (⟨"java/lang/String", "valueOf", "(C)Ljava/lang/String;"⟩ : MethodName)) hown (mvT hZ (hw _ (List.mem_of_getElem? (i := 4) rfl))) (mvT hZ (hw _ (List.mem_of_getElem? (i := 5) rfl))) (mvT hZ (hw _ (List.mem_of_getElem? (i := 6) rfl))) (mvT hZ (hw _ (List.mem_of_getElem? (i := 7) rfl))) (by decide) (backOf (W := 0) (own_rm2 l Z aA hw [] z5 cs h0 n0 Z0 pre0 hw_7 hw_8) hZ (hw _ (List.mem_of_getElem? (i := 7) rfl)) (hw _ (List.mem_of_getElem? (i := 6) rfl)) (by decide) (by decide)) (g := (mkF m 24 #[.val (.int p0), .val (.int p1), .val (.int (1 : Int32)), .val (.int z1)] [(.int z5)])) rfl (by rw [hml]; rfl) (argsL := [(.int z5)]) (rest := []) (lenOf own_pd3 rfl) rfl (by show 2 * 0 + _ ≤ _; exact Nat.le_of_eq rfl) (hb hby own_d1_24) (fun _ _ => ⟨rfl, e0, (by dsimp only [Pt.cells, Pt.slots]; decide +kernel), (by dsimp only [Pt.cells, Pt.slots]; decide +kernel)⟩)
    dsimp only [Pt.U, Pt.locs, Pt.cells, Pt.slots] at X6 l6 y6 z6 st6 hQ6
    rw [l6, y6, z6] at X6
    obtain ⟨b6, rfl, N6q, K6, sq6_0, f6_0⟩ := hQ6
    have gnb6 : n0 ≤ b6 := Nat.le_trans Z0 sq6_0
    have szb6 : h0.size ≤ b6 := Nat.le_trans (Keep.refl h0 []).1 sq6_0
    have N9 := Fr.app N0 N6q
    have Kp10 : Keep h0 T6.heap [] := (Keep.refl h0 []).trans K6 all0
    refine og_of st6 ?_
    show OG p e below _ _ (T6.setTop (mkF m 27 #[.val (.int p0), .val (.int p1), .val (.int (1 : Int32)), .val (.int z1)] [(.ref b6)]))
    subst hz1 hz2 hz4 hz5
    exact o_retA X6 hx Bd.returns rfl (own_lv X6 hlk (by decide +kernel) (by decide +kernel)) (hb hby own_d1_27) rfl rfl ⟨(.ref b6), rfl, N9, (Kp10), rfl, (Or.inr ⟨b6, rfl, f6_0⟩)⟩
theorem own_efs0 (m : MethodId) (p0 : Int32) (p1 : Int32) : entryFrame m #[(.int p0), (.int p1), (.int (0 : Int32))] 4 = mkF m 0 #[.val (.int p0), .val (.int p1), .val (.int (0 : Int32)), .unset] [] := by first | (simp [entryFrame, mkF, argsToLocals, Value.category]; done) | rfl
def own_Qs0 (Z : State) (p0 : Int32) (p1 : Int32) (cs : Int32) (h0 : Heap) (n0 : Nat) (v : Option Value) (h : Heap) (L : List Loc) : Prop := ∃ (b : Addr), v = some (.ref b) ∧ Fr n0 L ∧ Keep h0 h [] ∧ h0.size ≤ b ∧ Exa Z h b "java/lang/String"
set_option maxRecDepth 65536 in
set_option maxHeartbeats 40000000 in
theorem own_rms0 (l : Launch) (Z : State) (aA : Array Value) (hw : ∀ d ∈ tables_1, d.before aA Z = true) (ws : List Jvm.Cond) (p0 : Int32) (p1 : Int32) (cs : Int32) (h0 : Heap) (n0 : Nat) (Z0 : n0 ≤ h0.size) (pre0 : Sta Z h0 "java/lang/String" "COMPACT_STRINGS" "Z" (.int cs)) (hcs : ¬ (cs = (0 : Int32))) :
    MetFree l (⟨"com/example/fact4/fact4/model/AnswerRecordWithAnswerPinLaw", "str", "(IIZ)Ljava/lang/String;"⟩ : MethodName) (head1 (Jvm.Cond.code (⟨"com/example/fact4/fact4/model/AnswerRecordWithAnswerPinLaw", "str", "(IIZ)Ljava/lang/String;"⟩ : MethodName) method_3_code 4 (some (.object "java/lang/String")) :: ws) ({ frames := 3, cells := 2, slots := 5, locals := 39 } : Room)) (fun a U => a = #[(.int p0), (.int p1), (.int (0 : Int32))] ∧ Z.Warmed39 U.vm ∧ U.heap = h0) (fun _ _ _ _ _ => True) (fun _ U o U' => ∃ v L, o = .returned v ∧ own_Qs0 Z p0 p1 cs h0 n0 v U'.heap L ∧ FrameEnd U o U' L ({ frames := 3, cells := 2, slots := 5, locals := 39 } : Room).cells ({ frames := 3, cells := 2, slots := 5, locals := 39 } : Room).slots) := by
  refine MetFree.of_bodySF (plainFor_of_name own_pn56) hisR ?_
  intro p e s m args below meth c s₁ Bd hml0 hP hK
  obtain ⟨rfl, hZ, hh⟩ := hP
  have hx := Bd.exec
  have hby := Bd.bytes
  have hlk : meth.locks = false := Bd.notSynchronized
  have hml : c.maxLocals = 4 := hml0
  have hown : s.vm.findClass "com/example/fact4/fact4/model/AnswerRecordWithAnswerPinLaw" = some m.cls := findClass_of_methodNamed Bd.named
  have hnm := (name_of_methodNamed Bd.named Bd.method).1
  have X0 : Stand p l e ({ frames := 3, cells := 2, slots := 5, locals := 39 } : Room) s m #[(.int p0), (.int p1), (.int (0 : Int32))] below meth c s₁ [] 0 0 := Stand.of_body Bd
  have e0 : s₁.heap = h0 := by rw [← hh, Bd.state]; rfl
  have N0 := Fr.nil n0
  show OG p e below (FE s ({ frames := 3, cells := 2, slots := 5, locals := 39 } : Room).cells ({ frames := 3, cells := 2, slots := 5, locals := 39 } : Room).slots) (own_Qs0 Z p0 p1 cs h0 n0) (s₁.setTop (entryFrame m #[(.int p0), (.int p1), (.int (0 : Int32))] 4))
  refine og_of (fun _ k => castTop (own_efs0 m p0 p1) k) ?_
  refine o_iloadN X0 hx rfl (hb hby own_d1_0) rfl ?_
  refine o_iloadN X0 hx rfl (hb hby own_d1_1) rfl ?_
  obtain ⟨z1, hz1⟩ : ∃ z : Int32, (p0.toUInt32 >>> (p1 &&& 31).toUInt32).toInt32 = z := ⟨_, rfl⟩
  refine o_iushr (z := z1) X0 hx rfl (hb hby own_d1_2) hz1 ?_
  refine o_istoreN X0 hx rfl (hb hby own_d1_3) (L' := #[.val (.int p0), .val (.int p1), .val (.int (0 : Int32)), .val (.int z1)]) rfl ?_
  refine o_iloadN X0 hx rfl (hb hby own_d1_4) rfl ?_
  refine o_ifY (pc' := 18) X0 hx (hb hby own_d1_5) ((if0 _ _).trans (teq (by decide : ((0 : Int32) = (0 : Int32)))).1) (by decide) (by decide) ?_
  refine o_iloadN X0 hx rfl (hb hby own_d1_18) rfl ?_
  refine o_sipush (z := (255 : Int32)) X0 hx rfl (hb hby own_d1_19) (by decide) ?_
  obtain ⟨z2, hz2⟩ : ∃ z : Int32, z1 &&& (255 : Int32) = z := ⟨_, rfl⟩
  refine o_iand (z := z2) X0 hx rfl (hb hby own_d1_22) hz2 ?_
  obtain ⟨z3, hz3⟩ : ∃ z : Int32, z2.toUInt32.toUInt16.toUInt32.toInt32 = z := ⟨_, rfl⟩
  refine o_i2c (z := z3) X0 hx rfl (hb hby own_d1_23) hz3 ?_
  have hw_5 : ¬ (cs = (0 : Int32)) := hcs
  have hw_6 : ¬ ((255 : Int32) < z3) := by subst hz2 hz3; exact own_c8 _
  obtain ⟨_, _, ⟨T4, L4, k4, n4⟩, -, X4, ⟨Lc4, hQ4, l4, y4, z4⟩, st4⟩ := Jvm.LawKit.callS X0 hx (y := (⟨"java/lang/String", "valueOf", "(C)Ljava/lang/String;"⟩ : MethodName)) hown (mvT hZ (hw _ (List.mem_of_getElem? (i := 4) rfl))) (mvT hZ (hw _ (List.mem_of_getElem? (i := 5) rfl))) (mvT hZ (hw _ (List.mem_of_getElem? (i := 6) rfl))) (mvT hZ (hw _ (List.mem_of_getElem? (i := 7) rfl))) (by decide) (backOf (W := 0) (own_rm2 l Z aA hw [] z3 cs h0 n0 Z0 pre0 hw_5 hw_6) hZ (hw _ (List.mem_of_getElem? (i := 7) rfl)) (hw _ (List.mem_of_getElem? (i := 6) rfl)) (by decide) (by decide)) (g := (mkF m 24 #[.val (.int p0), .val (.int p1), .val (.int (0 : Int32)), .val (.int z1)] [(.int z3)])) rfl (by rw [hml]; rfl) (argsL := [(.int z3)]) (rest := []) (lenOf own_pd3 rfl) rfl (by show 2 * 0 + _ ≤ _; exact Nat.le_of_eq rfl) (hb hby own_d1_24) (fun _ _ => ⟨rfl, e0, (by dsimp only [Pt.cells, Pt.slots]; decide +kernel), (by dsimp only [Pt.cells, Pt.slots]; decide +kernel)⟩)
  dsimp only [Pt.U, Pt.locs, Pt.cells, Pt.slots] at X4 l4 y4 z4 st4 hQ4
  rw [l4, y4, z4] at X4
  obtain ⟨b4, rfl, N4q, K4, sq4_0, f4_0⟩ := hQ4
  have gnb4 : n0 ≤ b4 := Nat.le_trans Z0 sq4_0
  have szb4 : h0.size ≤ b4 := Nat.le_trans (Keep.refl h0 []).1 sq4_0
  have N7 := Fr.app N0 N4q
  have Kp8 : Keep h0 T4.heap [] := (Keep.refl h0 []).trans K4 all0
  refine og_of st4 ?_
  show OG p e below _ _ (T4.setTop (mkF m 27 #[.val (.int p0), .val (.int p1), .val (.int (0 : Int32)), .val (.int z1)] [(.ref b4)]))
  subst hz1 hz2 hz3
  exact o_retA X4 hx Bd.returns rfl (own_lv X4 hlk (by decide +kernel) (by decide +kernel)) (hb hby own_d1_27) rfl rfl ⟨b4, rfl, N7, (Kp8), szb4, f4_0⟩
theorem own_d25_0 : decode jdk_18_method_1_code 0 = .ok (.aload_n 0, 1) := by decide +kernel
theorem own_d25_1 : decode jdk_18_method_1_code 1 = .ok (.invokespecial 1, 3) := by decide +kernel
theorem own_d25_4 : decode jdk_18_method_1_code 4 = .ok (.return_, 1) := by decide +kernel
theorem own_ef25 (m : MethodId) (a0 : Addr) : entryFrame m #[(.ref a0)] 1 = mkF m 0 #[.val (.ref a0)] [] := by first | (simp [entryFrame, mkF, argsToLocals, Value.category]; done) | rfl
def own_Q25 (Z : State) (a0 : Addr) (h0 : Heap) (n0 : Nat) (v : Option Value) (h : Heap) (L : List Loc) : Prop := v = none ∧ Fr n0 L ∧ h = h0
theorem own_pn60 : plainName "java/lang/Number" = true := by first | (simp [plainName, overriddenIn]; done) | decide +kernel
set_option maxRecDepth 65536 in
set_option maxHeartbeats 40000000 in
theorem own_rm25 (l : Launch) (Z : State) (aA : Array Value) (hw : ∀ d ∈ tables_1, d.before aA Z = true) (ws : List Jvm.Cond) (a0 : Addr) (h0 : Heap) (n0 : Nat) (Z0 : n0 ≤ h0.size) :
    MetFree l (⟨"java/lang/Number", "<init>", "()V"⟩ : MethodName) (head1 (Jvm.Cond.code (⟨"java/lang/Number", "<init>", "()V"⟩ : MethodName) jdk_18_method_1_code 1 none :: ws) ({ frames := 1, cells := 0, slots := 0, locals := 12 } : Room)) (fun a U => a = #[(.ref a0)] ∧ Z.Warmed39 U.vm ∧ U.heap = h0) (fun _ _ _ _ _ => True) (fun _ U o U' => ∃ v L, o = .returned v ∧ own_Q25 Z a0 h0 n0 v U'.heap L ∧ FrameEnd U o U' L ({ frames := 1, cells := 0, slots := 0, locals := 12 } : Room).cells ({ frames := 1, cells := 0, slots := 0, locals := 12 } : Room).slots) := by
  refine MetFree.of_bodySF (plainFor_of_name own_pn60) hisR ?_
  intro p e s m args below meth c s₁ Bd hml0 hP hK
  obtain ⟨rfl, hZ, hh⟩ := hP
  have hx := Bd.exec
  have hby := Bd.bytes
  have hlk : meth.locks = false := Bd.notSynchronized
  have hml : c.maxLocals = 1 := hml0
  have hown : s.vm.findClass "java/lang/Number" = some m.cls := findClass_of_methodNamed Bd.named
  have hnm := (name_of_methodNamed Bd.named Bd.method).1
  have X0 : Stand p l e ({ frames := 1, cells := 0, slots := 0, locals := 12 } : Room) s m #[(.ref a0)] below meth c s₁ [] 0 0 := Stand.of_body Bd
  have e0 : s₁.heap = h0 := by rw [← hh, Bd.state]; rfl
  have N0 := Fr.nil n0
  show OG p e below (FE s ({ frames := 1, cells := 0, slots := 0, locals := 12 } : Room).cells ({ frames := 1, cells := 0, slots := 0, locals := 12 } : Room).slots) (own_Q25 Z a0 h0 n0) (s₁.setTop (entryFrame m #[(.ref a0)] 1))
  refine og_of (fun _ k => castTop (own_ef25 m a0) k) ?_
  refine o_aloadN X0 hx rfl (hb hby own_d25_0) rfl rfl ?_
  obtain ⟨T1, X1, e1, st1⟩ := initO X0 hx hZ hown (hw _ (List.mem_of_getElem? (i := 151) rfl)) (hw _ (List.mem_of_getElem? (i := 24) rfl)) (hw _ (List.mem_of_getElem? (i := 25) rfl)) e0 (g := (mkF m 1 #[.val (.ref a0)] [(.ref a0)])) rfl (by rw [hml]; rfl) rfl (hb hby own_d25_1) (by decide) (W := 0) (by show 2 * 0 + _ ≤ _; exact Nat.le_of_eq rfl) (by decide)
  refine og_of st1 ?_
  show OG p e below _ _ (T1.setTop (mkF m 4 #[.val (.ref a0)] []))
  exact o_ret0 X1 hx Bd.returns (own_lv X1 hlk (by decide +kernel) (by decide +kernel)) (hb hby own_d25_4) ⟨rfl, N0, e1⟩
theorem own_d8_0 : decode jdk_30_method_1_code 0 = .ok (.aload_n 0, 1) := by decide +kernel
theorem own_d8_1 : decode jdk_30_method_1_code 1 = .ok (.invokespecial 1, 3) := by decide +kernel
theorem own_d8_4 : decode jdk_30_method_1_code 4 = .ok (.return_, 1) := by decide +kernel
theorem own_ef8 (m : MethodId) (a0 : Addr) : entryFrame m #[(.ref a0)] 1 = mkF m 0 #[.val (.ref a0)] [] := by first | (simp [entryFrame, mkF, argsToLocals, Value.category]; done) | rfl
def own_Q8 (Z : State) (a0 : Addr) (h0 : Heap) (n0 : Nat) (v : Option Value) (h : Heap) (L : List Loc) : Prop := v = none ∧ Fr n0 L ∧ h = h0
theorem own_pn64 : plainName "java/lang/Record" = true := by first | (simp [plainName, overriddenIn]; done) | decide +kernel
set_option maxRecDepth 65536 in
set_option maxHeartbeats 40000000 in
theorem own_rm8 (l : Launch) (Z : State) (aA : Array Value) (hw : ∀ d ∈ tables_1, d.before aA Z = true) (ws : List Jvm.Cond) (a0 : Addr) (h0 : Heap) (n0 : Nat) (Z0 : n0 ≤ h0.size) :
    MetFree l (⟨"java/lang/Record", "<init>", "()V"⟩ : MethodName) (head1 (Jvm.Cond.code (⟨"java/lang/Record", "<init>", "()V"⟩ : MethodName) jdk_30_method_1_code 1 none :: ws) ({ frames := 1, cells := 0, slots := 0, locals := 12 } : Room)) (fun a U => a = #[(.ref a0)] ∧ Z.Warmed39 U.vm ∧ U.heap = h0) (fun _ _ _ _ _ => True) (fun _ U o U' => ∃ v L, o = .returned v ∧ own_Q8 Z a0 h0 n0 v U'.heap L ∧ FrameEnd U o U' L ({ frames := 1, cells := 0, slots := 0, locals := 12 } : Room).cells ({ frames := 1, cells := 0, slots := 0, locals := 12 } : Room).slots) := by
  refine MetFree.of_bodySF (plainFor_of_name own_pn64) hisR ?_
  intro p e s m args below meth c s₁ Bd hml0 hP hK
  obtain ⟨rfl, hZ, hh⟩ := hP
  have hx := Bd.exec
  have hby := Bd.bytes
  have hlk : meth.locks = false := Bd.notSynchronized
  have hml : c.maxLocals = 1 := hml0
  have hown : s.vm.findClass "java/lang/Record" = some m.cls := findClass_of_methodNamed Bd.named
  have hnm := (name_of_methodNamed Bd.named Bd.method).1
  have X0 : Stand p l e ({ frames := 1, cells := 0, slots := 0, locals := 12 } : Room) s m #[(.ref a0)] below meth c s₁ [] 0 0 := Stand.of_body Bd
  have e0 : s₁.heap = h0 := by rw [← hh, Bd.state]; rfl
  have N0 := Fr.nil n0
  show OG p e below (FE s ({ frames := 1, cells := 0, slots := 0, locals := 12 } : Room).cells ({ frames := 1, cells := 0, slots := 0, locals := 12 } : Room).slots) (own_Q8 Z a0 h0 n0) (s₁.setTop (entryFrame m #[(.ref a0)] 1))
  refine og_of (fun _ k => castTop (own_ef8 m a0) k) ?_
  refine o_aloadN X0 hx rfl (hb hby own_d8_0) rfl rfl ?_
  obtain ⟨T1, X1, e1, st1⟩ := initO X0 hx hZ hown (hw _ (List.mem_of_getElem? (i := 42) rfl)) (hw _ (List.mem_of_getElem? (i := 24) rfl)) (hw _ (List.mem_of_getElem? (i := 25) rfl)) e0 (g := (mkF m 1 #[.val (.ref a0)] [(.ref a0)])) rfl (by rw [hml]; rfl) rfl (hb hby own_d8_1) (by decide) (W := 0) (by show 2 * 0 + _ ≤ _; exact Nat.le_of_eq rfl) (by decide)
  refine og_of st1 ?_
  show OG p e below _ _ (T1.setTop (mkF m 4 #[.val (.ref a0)] []))
  exact o_ret0 X1 hx Bd.returns (own_lv X1 hlk (by decide +kernel) (by decide +kernel)) (hb hby own_d8_4) ⟨rfl, N0, e1⟩
theorem own_pd4 : parseMethodDescriptor "()V" = some ⟨[], none⟩ := by decide +kernel
theorem own_d24_0 : decode jdk_33_method_23_code 0 = .ok (.aload_n 0, 1) := by decide +kernel
theorem own_d24_1 : decode jdk_33_method_23_code 1 = .ok (.invokespecial 202, 3) := by decide +kernel
theorem own_d24_4 : decode jdk_33_method_23_code 4 = .ok (.aload_n 0, 1) := by decide +kernel
theorem own_d24_5 : decode jdk_33_method_23_code 5 = .ok (.iload_n 1, 1) := by decide +kernel
theorem own_d24_6 : decode jdk_33_method_23_code 6 = .ok (.putfield 205, 3) := by decide +kernel
theorem own_d24_9 : decode jdk_33_method_23_code 9 = .ok (.return_, 1) := by decide +kernel
theorem own_ef24 (m : MethodId) (a0 : Addr) (p1 : Int32) : entryFrame m #[(.ref a0), (.int p1)] 2 = mkF m 0 #[.val (.ref a0), .val (.int p1)] [] := by first | (simp [entryFrame, mkF, argsToLocals, Value.category]; done) | rfl
def own_Q24 (Z : State) (a0 : Addr) (p1 : Int32) (h0 : Heap) (n0 : Nat) (v : Option Value) (h : Heap) (L : List Loc) : Prop := v = none ∧ Fr n0 L ∧ Keep h0 h [a0] ∧ Fld Z h a0 "java/lang/Integer" "value" "I" (.int p1)
theorem own_pn71 : plainName "java/lang/Integer" = true := by first | (simp [plainName, overriddenIn]; done) | decide +kernel
set_option maxRecDepth 65536 in
set_option maxHeartbeats 40000000 in
theorem own_rm24 (l : Launch) (Z : State) (aA : Array Value) (hw : ∀ d ∈ tables_1, d.before aA Z = true) (ws : List Jvm.Cond) (a0 : Addr) (p1 : Int32) (h0 : Heap) (n0 : Nat) (Z0 : n0 ≤ h0.size) (pre0 : Exa Z h0 a0 "java/lang/Integer") (pre1 : n0 ≤ a0) (pre2 : Fld Z h0 a0 "java/lang/Integer" "value" "I" (.int (0 : Int32))) :
    MetFree l (⟨"java/lang/Integer", "<init>", "(I)V"⟩ : MethodName) (head1 (Jvm.Cond.code (⟨"java/lang/Integer", "<init>", "(I)V"⟩ : MethodName) jdk_33_method_23_code 2 none :: ws) ({ frames := 2, cells := 0, slots := 0, locals := 24 } : Room)) (fun a U => a = #[(.ref a0), (.int p1)] ∧ Z.Warmed39 U.vm ∧ U.heap = h0) (fun _ _ _ _ _ => True) (fun _ U o U' => ∃ v L, o = .returned v ∧ own_Q24 Z a0 p1 h0 n0 v U'.heap L ∧ FrameEnd U o U' L ({ frames := 2, cells := 0, slots := 0, locals := 24 } : Room).cells ({ frames := 2, cells := 0, slots := 0, locals := 24 } : Room).slots) := by
  refine MetFree.of_bodySF (plainFor_of_name own_pn71) hisR ?_
  intro p e s m args below meth c s₁ Bd hml0 hP hK
  obtain ⟨rfl, hZ, hh⟩ := hP
  have hx := Bd.exec
  have hby := Bd.bytes
  have hlk : meth.locks = false := Bd.notSynchronized
  have hml : c.maxLocals = 2 := hml0
  have hown : s.vm.findClass "java/lang/Integer" = some m.cls := findClass_of_methodNamed Bd.named
  have hnm := (name_of_methodNamed Bd.named Bd.method).1
  have X0 : Stand p l e ({ frames := 2, cells := 0, slots := 0, locals := 24 } : Room) s m #[(.ref a0), (.int p1)] below meth c s₁ [] 0 0 := Stand.of_body Bd
  have e0 : s₁.heap = h0 := by rw [← hh, Bd.state]; rfl
  have N0 := Fr.nil n0
  show OG p e below (FE s ({ frames := 2, cells := 0, slots := 0, locals := 24 } : Room).cells ({ frames := 2, cells := 0, slots := 0, locals := 24 } : Room).slots) (own_Q24 Z a0 p1 h0 n0) (s₁.setTop (entryFrame m #[(.ref a0), (.int p1)] 2))
  refine og_of (fun _ k => castTop (own_ef24 m a0 p1) k) ?_
  refine o_aloadN X0 hx rfl (hb hby own_d24_0) rfl rfl ?_
  obtain ⟨_, _, ⟨T1, L1, k1, n1⟩, -, X1, ⟨Lc1, hQ1, l1, y1, z1⟩, st1⟩ := X0.specialBack hx (y := (⟨"java/lang/Number", "<init>", "()V"⟩ : MethodName)) rfl hown (mvT hZ (hw _ (List.mem_of_getElem? (i := 145) rfl))) (mvT hZ (hw _ (List.mem_of_getElem? (i := 146) rfl))) (mvT hZ (hw _ (List.mem_of_getElem? (i := 150) rfl))) (by decide) (backOf (W := 0) (own_rm25 l Z aA hw [] a0 h0 n0 Z0) hZ (hw _ (List.mem_of_getElem? (i := 150) rfl)) (hw _ (List.mem_of_getElem? (i := 149) rfl)) (by decide) (by decide)) (g := (mkF m 1 #[.val (.ref a0), .val (.int p1)] [(.ref a0)])) rfl (by rw [hml]; rfl) (Steps.refl _) (a := a0) (argsL := []) (rest := []) (lenOf own_pd4 rfl) rfl (by show 2 * 0 + _ ≤ _; exact Nat.le_of_eq rfl) (hb hby own_d24_1) (fun _ _ => ⟨rfl, e0, (by dsimp only [Pt.cells, Pt.slots]; decide +kernel), (by dsimp only [Pt.cells, Pt.slots]; decide +kernel)⟩)
  dsimp only [Pt.U, Pt.locs, Pt.cells, Pt.slots] at X1 l1 y1 z1 st1 hQ1
  rw [l1, y1, z1] at X1
  obtain ⟨rfl, N1q, ee1⟩ := hQ1
  have N2 := Fr.app N0 N1q
  refine og_tr st1 ?_
  show OG p e below _ _ (T1.setTop (mkF m 4 #[.val (.ref a0), .val (.int p1)] []))
  refine o_aloadN X1 hx rfl (hb hby own_d24_4) rfl rfl ?_
  refine o_iloadN X1 hx rfl (hb hby own_d24_5) rfl ?_
  obtain ⟨T3, h3, X3, e3, W3, st3⟩ := putF X1 hx hZ hown (host := "") (Or.inl (hw _ (List.mem_of_getElem? (i := 152) rfl))) Via.refl ee1 pre2 pre0 (Or.inr ⟨(hw _ (List.mem_of_getElem? (i := 153) rfl)), rfl, hnm⟩) (hw _ (List.mem_of_getElem? (i := 140) rfl)) (ty := .int) (by decide) rfl rfl (g := (mkF m 6 #[.val (.ref a0), .val (.int p1)] [(.int p1), (.ref a0)])) rfl rfl (hb hby own_d24_6)
  have Fw3 := pre2.same W3
  have N3 := Fr.snoc X3 N2 pre1
  have Kp4 : Keep h0 h3 [a0] := (Keep.refl h0 [a0]).wr W3 (Or.inl (List.mem_of_getElem? (i := 0) rfl))
  refine og_of st3 ?_
  show OG p e below _ _ (T3.setTop (mkF m 9 #[.val (.ref a0), .val (.int p1)] []))
  exact o_ret0 X3 hx Bd.returns (own_lv X3 hlk (by decide +kernel) (by decide +kernel)) (hb hby own_d24_9) ⟨rfl, N3, (by rw [e3]; exact Kp4), (by rw [e3]; exact Fw3)⟩
theorem own_pd5 : parseMethodDescriptor "(I)V" = some ⟨[.int], none⟩ := by decide +kernel
theorem own_d23_0 : decode jdk_33_method_22_code 0 = .ok (.iload_n 0, 1) := by decide +kernel
theorem own_d23_1 : decode jdk_33_method_22_code 1 = .ok (.bipush (-128), 2) := by decide +kernel
theorem own_d23_3 : decode jdk_33_method_22_code 3 = .ok (.if_icmp .lt 20, 3) := by decide +kernel
theorem own_d23_6 : decode jdk_33_method_22_code 6 = .ok (.iload_n 0, 1) := by decide +kernel
theorem own_d23_7 : decode jdk_33_method_22_code 7 = .ok (.getstatic 191, 3) := by decide +kernel
theorem own_d23_10 : decode jdk_33_method_22_code 10 = .ok (.if_icmp .gt 13, 3) := by decide +kernel
theorem own_d23_13 : decode jdk_33_method_22_code 13 = .ok (.getstatic 195, 3) := by decide +kernel
theorem own_d23_16 : decode jdk_33_method_22_code 16 = .ok (.iload_n 0, 1) := by decide +kernel
theorem own_d23_17 : decode jdk_33_method_22_code 17 = .ok (.sipush 128, 3) := by decide +kernel
theorem own_d23_20 : decode jdk_33_method_22_code 20 = .ok (.iadd, 1) := by decide +kernel
theorem own_d23_21 : decode jdk_33_method_22_code 21 = .ok (.aaload, 1) := by decide +kernel
theorem own_d23_22 : decode jdk_33_method_22_code 22 = .ok (.areturn, 1) := by decide +kernel
theorem own_d23_23 : decode jdk_33_method_22_code 23 = .ok (.new 1, 3) := by decide +kernel
theorem own_d23_26 : decode jdk_33_method_22_code 26 = .ok (.dup, 1) := by decide +kernel
theorem own_d23_27 : decode jdk_33_method_22_code 27 = .ok (.iload_n 0, 1) := by decide +kernel
theorem own_d23_28 : decode jdk_33_method_22_code 28 = .ok (.invokespecial 199, 3) := by decide +kernel
theorem own_d23_31 : decode jdk_33_method_22_code 31 = .ok (.areturn, 1) := by decide +kernel
theorem own_ef23 (m : MethodId) (p0 : Int32) : entryFrame m #[(.int p0)] 1 = mkF m 0 #[.val (.int p0)] [] := by first | (simp [entryFrame, mkF, argsToLocals, Value.category]; done) | rfl
def own_Q23 (Z : State) (p0 : Int32) (arr : Addr) (h0 : Heap) (n0 : Nat) (v : Option Value) (h : Heap) (L : List Loc) : Prop := ∃ (b : Addr), v = some (.ref b) ∧ Fr n0 L ∧ Keep h0 h [] ∧ Exa Z h b "java/lang/Integer" ∧ Fld Z h b "java/lang/Integer" "value" "I" (.int p0)
set_option maxRecDepth 65536 in
set_option maxHeartbeats 40000000 in
theorem own_rm23 (l : Launch) (Z : State) (aA : Array Value) (hw : ∀ d ∈ tables_1, d.before aA Z = true) (ws : List Jvm.Cond) (p0 : Int32) (arr : Addr) (h0 : Heap) (n0 : Nat) (Z0 : n0 ≤ h0.size) (pre0 : Sta Z h0 "java/lang/Integer$IntegerCache" "high" "I" (.int (127 : Int32))) (pre1 : Sta Z h0 "java/lang/Integer$IntegerCache" "cache" "[Ljava/lang/Integer;" (.ref arr)) (hC : own_C Z h0 arr) :
    MetFree l (⟨"java/lang/Integer", "valueOf", "(I)Ljava/lang/Integer;"⟩ : MethodName) (head1 (Jvm.Cond.code (⟨"java/lang/Integer", "valueOf", "(I)Ljava/lang/Integer;"⟩ : MethodName) jdk_33_method_22_code 1 (some (.object "java/lang/Integer")) :: ws) ({ frames := 3, cells := 1, slots := 1, locals := 38 } : Room)) (fun a U => a = #[(.int p0)] ∧ Z.Warmed39 U.vm ∧ U.heap = h0) (fun _ _ _ _ _ => True) (fun _ U o U' => ∃ v L, o = .returned v ∧ own_Q23 Z p0 arr h0 n0 v U'.heap L ∧ FrameEnd U o U' L ({ frames := 3, cells := 1, slots := 1, locals := 38 } : Room).cells ({ frames := 3, cells := 1, slots := 1, locals := 38 } : Room).slots) := by
  refine MetFree.of_bodySF (plainFor_of_name own_pn71) hisR ?_
  intro p e s m args below meth c s₁ Bd hml0 hP hK
  obtain ⟨rfl, hZ, hh⟩ := hP
  have hx := Bd.exec
  have hby := Bd.bytes
  have hlk : meth.locks = false := Bd.notSynchronized
  have hml : c.maxLocals = 1 := hml0
  have hown : s.vm.findClass "java/lang/Integer" = some m.cls := findClass_of_methodNamed Bd.named
  have hnm := (name_of_methodNamed Bd.named Bd.method).1
  have X0 : Stand p l e ({ frames := 3, cells := 1, slots := 1, locals := 38 } : Room) s m #[(.int p0)] below meth c s₁ [] 0 0 := Stand.of_body Bd
  have e0 : s₁.heap = h0 := by rw [← hh, Bd.state]; rfl
  have N0 := Fr.nil n0
  show OG p e below (FE s ({ frames := 3, cells := 1, slots := 1, locals := 38 } : Room).cells ({ frames := 3, cells := 1, slots := 1, locals := 38 } : Room).slots) (own_Q23 Z p0 arr h0 n0) (s₁.setTop (entryFrame m #[(.int p0)] 1))
  refine og_of (fun _ k => castTop (own_ef23 m p0) k) ?_
  refine o_iloadN X0 hx rfl (hb hby own_d23_0) rfl ?_
  refine o_bipush (z := (-128 : Int32)) X0 hx rfl (hb hby own_d23_1) (by decide) ?_
  by_cases hc1 : p0 < (-128 : Int32)
  · skip
    refine o_icmpY (pc' := 23) X0 hx (hb hby own_d23_3) (tlt hc1).1 (by decide) (by decide) ?_
    obtain ⟨T2, h2, X2, e2, E2, A2, D2, -, st2⟩ := newO X0 hx hZ hown (hw _ (List.mem_of_getElem? (i := 139) rfl)) (hw _ (List.mem_of_getElem? (i := 140) rfl)) (hw _ (List.mem_of_getElem? (i := 137) rfl)) e0 (g := (mkF m 23 #[.val (.int p0)] [])) rfl (hb hby own_d23_23) (by decide +kernel) (by decide +kernel)
    obtain ⟨b2, g2⟩ : ∃ z, z = h0.size := ⟨_, rfl⟩
    rw [← g2] at A2 D2 st2
    have gn2 : n0 ≤ b2 := Nat.le_trans Z0 (Nat.le_of_eq g2.symm)
    have sz2 : h0.size ≤ b2 := Nat.le_trans (Keep.refl h0 []).1 (Nat.le_of_eq g2.symm)
    have Kp3 : Keep h0 h2 [] := (Keep.refl h0 []).ext E2
    have F2_153 : Fld Z h2 b2 "java/lang/Integer" "value" "I" (.int (0 : Int32)) := D2 (Or.inr (hw _ (List.mem_of_getElem? (i := 153) rfl))) (ty := .int) (by decide)
    refine og_of st2 ?_
    show OG p e below _ _ (T2.setTop (mkF m 26 #[.val (.int p0)] [(.ref b2)]))
    refine o_dup X2 hx rfl (hb hby own_d23_26) rfl ?_
    refine o_iloadN X2 hx rfl (hb hby own_d23_27) rfl ?_
    have zz5 := (Nat.le_trans Z0 E2.1)
    obtain ⟨_, _, ⟨T4, L4, k4, n4⟩, -, X4, ⟨Lc4, hQ4, l4, y4, z4⟩, st4⟩ := X2.specialBack hx (y := (⟨"java/lang/Integer", "<init>", "(I)V"⟩ : MethodName)) rfl hown (mvT hZ (hw _ (List.mem_of_getElem? (i := 141) rfl))) (mvT hZ (hw _ (List.mem_of_getElem? (i := 142) rfl))) (mvT hZ (hw _ (List.mem_of_getElem? (i := 144) rfl))) (by decide) (backOf (W := 1) (own_rm24 l Z aA hw [] b2 p0 h2 n0 zz5 A2 gn2 F2_153) hZ (hw _ (List.mem_of_getElem? (i := 144) rfl)) (hw _ (List.mem_of_getElem? (i := 137) rfl)) (by decide) (by decide)) (g := (mkF m 28 #[.val (.int p0)] [(.int p0), (.ref b2), (.ref b2)])) rfl (by rw [hml]; rfl) (Steps.refl _) (a := b2) (argsL := [(.int p0)]) (rest := [(.ref b2)]) (lenOf own_pd5 rfl) rfl (by show 2 * 0 + _ ≤ _; exact Nat.le_of_eq rfl) (hb hby own_d23_28) (fun _ _ => ⟨rfl, e2, (by dsimp only [Pt.cells, Pt.slots]; decide +kernel), (by dsimp only [Pt.cells, Pt.slots]; decide +kernel)⟩)
    dsimp only [Pt.U, Pt.locs, Pt.cells, Pt.slots] at X4 l4 y4 z4 st4 hQ4
    rw [l4, y4, z4] at X4
    obtain ⟨rfl, N4q, K4, f4_0⟩ := hQ4
    have N6 := Fr.app N0 N4q
    have Kp7 : Keep h0 T4.heap [] := Kp3.trans K4 (allS (Or.inr sz2) all0)
    refine og_tr st4 ?_
    show OG p e below _ _ (T4.setTop (mkF m 31 #[.val (.int p0)] [(.ref b2)]))
    have Fc8 : Exa Z T4.heap b2 "java/lang/Integer" := (A2.keep K4)
    exact o_retA X4 hx Bd.returns rfl (own_lv X4 hlk (by decide +kernel) (by decide +kernel)) (hb hby own_d23_31) rfl rfl ⟨b2, rfl, N6, (Kp7), Fc8, f4_0⟩
  · skip
    refine o_icmpN (pc' := 6) X0 hx rfl (hb hby own_d23_3) (flt hc1).1 ?_
    refine o_iloadN X0 hx rfl (hb hby own_d23_6) rfl ?_
    obtain ⟨T9, X9, e9, st9⟩ := getS2 X0 hx hZ hown (host := "") (Or.inl (hw _ (List.mem_of_getElem? (i := 159) rfl))) Via.refl e0 pre0 (g := (mkF m 7 #[.val (.int p0)] [(.int p0)])) rfl (hb hby own_d23_7)
    refine og_of st9 ?_
    show OG p e below _ _ (T9.setTop (mkF m 10 #[.val (.int p0)] [(.int (127 : Int32)), (.int p0)]))
    by_cases hc10 : (127 : Int32) < p0
    · skip
      refine o_icmpY (pc' := 23) X9 hx (hb hby own_d23_10) (tlt hc10).2.2.1 (by decide) (by decide) ?_
      obtain ⟨T11, h11, X11, e11, E11, A11, D11, -, st11⟩ := newO X9 hx hZ hown (hw _ (List.mem_of_getElem? (i := 139) rfl)) (hw _ (List.mem_of_getElem? (i := 140) rfl)) (hw _ (List.mem_of_getElem? (i := 137) rfl)) e9 (g := (mkF m 23 #[.val (.int p0)] [])) rfl (hb hby own_d23_23) (by decide +kernel) (by decide +kernel)
      obtain ⟨b11, g11⟩ : ∃ z, z = h0.size := ⟨_, rfl⟩
      rw [← g11] at A11 D11 st11
      have gn11 : n0 ≤ b11 := Nat.le_trans Z0 (Nat.le_of_eq g11.symm)
      have sz11 : h0.size ≤ b11 := Nat.le_trans (Keep.refl h0 []).1 (Nat.le_of_eq g11.symm)
      have Kp12 : Keep h0 h11 [] := (Keep.refl h0 []).ext E11
      have F11_153 : Fld Z h11 b11 "java/lang/Integer" "value" "I" (.int (0 : Int32)) := D11 (Or.inr (hw _ (List.mem_of_getElem? (i := 153) rfl))) (ty := .int) (by decide)
      refine og_of st11 ?_
      show OG p e below _ _ (T11.setTop (mkF m 26 #[.val (.int p0)] [(.ref b11)]))
      refine o_dup X11 hx rfl (hb hby own_d23_26) rfl ?_
      refine o_iloadN X11 hx rfl (hb hby own_d23_27) rfl ?_
      have zz14 := (Nat.le_trans Z0 E11.1)
      obtain ⟨_, _, ⟨T13, L13, k13, n13⟩, -, X13, ⟨Lc13, hQ13, l13, y13, z13⟩, st13⟩ := X11.specialBack hx (y := (⟨"java/lang/Integer", "<init>", "(I)V"⟩ : MethodName)) rfl hown (mvT hZ (hw _ (List.mem_of_getElem? (i := 141) rfl))) (mvT hZ (hw _ (List.mem_of_getElem? (i := 142) rfl))) (mvT hZ (hw _ (List.mem_of_getElem? (i := 144) rfl))) (by decide) (backOf (W := 1) (own_rm24 l Z aA hw [] b11 p0 h11 n0 zz14 A11 gn11 F11_153) hZ (hw _ (List.mem_of_getElem? (i := 144) rfl)) (hw _ (List.mem_of_getElem? (i := 137) rfl)) (by decide) (by decide)) (g := (mkF m 28 #[.val (.int p0)] [(.int p0), (.ref b11), (.ref b11)])) rfl (by rw [hml]; rfl) (Steps.refl _) (a := b11) (argsL := [(.int p0)]) (rest := [(.ref b11)]) (lenOf own_pd5 rfl) rfl (by show 2 * 0 + _ ≤ _; exact Nat.le_of_eq rfl) (hb hby own_d23_28) (fun _ _ => ⟨rfl, e11, (by dsimp only [Pt.cells, Pt.slots]; decide +kernel), (by dsimp only [Pt.cells, Pt.slots]; decide +kernel)⟩)
      dsimp only [Pt.U, Pt.locs, Pt.cells, Pt.slots] at X13 l13 y13 z13 st13 hQ13
      rw [l13, y13, z13] at X13
      obtain ⟨rfl, N13q, K13, f13_0⟩ := hQ13
      have N15 := Fr.app N0 N13q
      have Kp16 : Keep h0 T13.heap [] := Kp12.trans K13 (allS (Or.inr sz11) all0)
      refine og_tr st13 ?_
      show OG p e below _ _ (T13.setTop (mkF m 31 #[.val (.int p0)] [(.ref b11)]))
      have Fc17 : Exa Z T13.heap b11 "java/lang/Integer" := (A11.keep K13)
      exact o_retA X13 hx Bd.returns rfl (own_lv X13 hlk (by decide +kernel) (by decide +kernel)) (hb hby own_d23_31) rfl rfl ⟨b11, rfl, N15, (Kp16), Fc17, f13_0⟩
    · skip
      refine o_icmpN (pc' := 13) X9 hx rfl (hb hby own_d23_10) (flt hc10).2.2.1 ?_
      obtain ⟨T18, X18, e18, st18⟩ := getS2 X9 hx hZ hown (host := "") (Or.inl (hw _ (List.mem_of_getElem? (i := 161) rfl))) Via.refl e9 pre1 (g := (mkF m 13 #[.val (.int p0)] [])) rfl (hb hby own_d23_13)
      refine og_of st18 ?_
      show OG p e below _ _ (T18.setTop (mkF m 16 #[.val (.int p0)] [(.ref arr)]))
      refine o_iloadN X18 hx rfl (hb hby own_d23_16) rfl ?_
      refine o_sipush (z := (128 : Int32)) X18 hx rfl (hb hby own_d23_17) (by decide) ?_
      obtain ⟨z19, hz19⟩ : ∃ z : Int32, p0 + (128 : Int32) = z := ⟨_, rfl⟩
      refine o_iadd (z := z19) X18 hx rfl (hb hby own_d23_20) hz19 ?_
      obtain ⟨cl20, hA20, hs20, he20⟩ := id hC
      have hix20 := Jvm.Free.IntBox.place_ok p0 hc1 hc10
      have hvl20 := Jvm.Free.IntBox.place_val p0 hc1 hc10
      rw [show p0 + 128 = z19 from hz19] at hix20 hvl20
      have hin20 : ¬ (z19 < 0 ∨ cl20.slots.size ≤ z19.toNatClampNeg) := by rw [hs20]; exact hix20.1
      obtain ⟨y20, hy20, Ey20, Fy20⟩ := he20 _ hix20.2
      rw [hvl20] at Fy20
      refine og_of (X18.aaload hx (j := z19) (v := .ref y20) (by rw [e18]; exact hA20.1) (State.isArrayOf_alike hZ.alike hA20.2.1) rfl hA20.2.2 hin20 hy20 (g := (mkF m 21 #[.val (.int p0)] [(.int z19), (.ref arr)])) rfl rfl (hb hby own_d23_21)) ?_
      show OG p e below _ _ (T18.setTop (mkF m 22 #[.val (.int p0)] [(.ref y20)]))
      subst hz19
      exact o_retA X18 hx Bd.returns rfl (own_lv X18 hlk (by decide +kernel) (by decide +kernel)) (hb hby own_d23_22) rfl rfl ⟨y20, rfl, N0, (by rw [e18]; exact (Keep.refl h0 [])), (by rw [e18]; exact Ey20), (by rw [e18]; exact Fy20)⟩
theorem own_d9_0 : decode jdk_31_method_11_code 0 = .ok (.aload_n 0, 1) := by decide +kernel
theorem own_d9_1 : decode jdk_31_method_11_code 1 = .ok (.ifnonnull 12, 3) := by decide +kernel
theorem own_d9_13 : decode jdk_31_method_11_code 13 = .ok (.aload_n 0, 1) := by decide +kernel
theorem own_d9_14 : decode jdk_31_method_11_code 14 = .ok (.areturn, 1) := by decide +kernel
theorem own_ef9 (m : MethodId) (a0 : Addr) (a1 : Addr) : entryFrame m #[(.ref a0), (.ref a1)] 2 = mkF m 0 #[.val (.ref a0), .val (.ref a1)] [] := by first | (simp [entryFrame, mkF, argsToLocals, Value.category]; done) | rfl
def own_Q9 (Z : State) (a0 : Addr) (a1 : Addr) (h0 : Heap) (n0 : Nat) (v : Option Value) (h : Heap) (L : List Loc) : Prop := v = some (.ref a0) ∧ Fr n0 L ∧ h = h0
theorem own_pn93 : plainName "java/util/Objects" = true := by first | (simp [plainName, overriddenIn]; done) | decide +kernel
set_option maxRecDepth 65536 in
set_option maxHeartbeats 40000000 in
theorem own_rm9 (l : Launch) (Z : State) (aA : Array Value) (hw : ∀ d ∈ tables_1, d.before aA Z = true) (ws : List Jvm.Cond) (a0 : Addr) (a1 : Addr) (h0 : Heap) (n0 : Nat) (Z0 : n0 ≤ h0.size) :
    MetFree l (⟨"java/util/Objects", "requireNonNull", "(Ljava/lang/Object;Ljava/lang/String;)Ljava/lang/Object;"⟩ : MethodName) (head1 (Jvm.Cond.code (⟨"java/util/Objects", "requireNonNull", "(Ljava/lang/Object;Ljava/lang/String;)Ljava/lang/Object;"⟩ : MethodName) jdk_31_method_11_code 2 (some (.object "java/lang/Object")) :: ws) ({ frames := 0, cells := 0, slots := 0, locals := 0 } : Room)) (fun a U => a = #[(.ref a0), (.ref a1)] ∧ Z.Warmed39 U.vm ∧ U.heap = h0) (fun _ _ _ _ _ => True) (fun _ U o U' => ∃ v L, o = .returned v ∧ own_Q9 Z a0 a1 h0 n0 v U'.heap L ∧ FrameEnd U o U' L ({ frames := 0, cells := 0, slots := 0, locals := 0 } : Room).cells ({ frames := 0, cells := 0, slots := 0, locals := 0 } : Room).slots) := by
  refine MetFree.of_bodySF (plainFor_of_name own_pn93) hisR ?_
  intro p e s m args below meth c s₁ Bd hml0 hP hK
  obtain ⟨rfl, hZ, hh⟩ := hP
  have hx := Bd.exec
  have hby := Bd.bytes
  have hlk : meth.locks = false := Bd.notSynchronized
  have hml : c.maxLocals = 2 := hml0
  have hown : s.vm.findClass "java/util/Objects" = some m.cls := findClass_of_methodNamed Bd.named
  have hnm := (name_of_methodNamed Bd.named Bd.method).1
  have X0 : Stand p l e ({ frames := 0, cells := 0, slots := 0, locals := 0 } : Room) s m #[(.ref a0), (.ref a1)] below meth c s₁ [] 0 0 := Stand.of_body Bd
  have e0 : s₁.heap = h0 := by rw [← hh, Bd.state]; rfl
  have N0 := Fr.nil n0
  show OG p e below (FE s ({ frames := 0, cells := 0, slots := 0, locals := 0 } : Room).cells ({ frames := 0, cells := 0, slots := 0, locals := 0 } : Room).slots) (own_Q9 Z a0 a1 h0 n0) (s₁.setTop (entryFrame m #[(.ref a0), (.ref a1)] 2))
  refine og_of (fun _ k => castTop (own_ef9 m a0 a1) k) ?_
  refine o_aloadN X0 hx rfl (hb hby own_d9_0) rfl rfl ?_
  refine o_ifnonnullY (pc' := 13) X0 hx (hb hby own_d9_1) (by decide) (by decide) ?_
  refine o_aloadN X0 hx rfl (hb hby own_d9_13) rfl rfl ?_
  exact o_retA X0 hx Bd.returns rfl (own_lv X0 hlk (by decide +kernel) (by decide +kernel)) (hb hby own_d9_14) rfl rfl ⟨rfl, N0, e0⟩
theorem own_pd6 : parseMethodDescriptor "(Ljava/lang/Object;Ljava/lang/String;)Ljava/lang/Object;" = some ⟨[(.object "java/lang/Object"), (.object "java/lang/String")], some (.object "java/lang/Object")⟩ := by decide +kernel
theorem own_d7_0 : decode prog_25_method_1_code 0 = .ok (.aload_n 0, 1) := by decide +kernel
theorem own_d7_1 : decode prog_25_method_1_code 1 = .ok (.invokespecial 1, 3) := by decide +kernel
theorem own_d7_4 : decode prog_25_method_1_code 4 = .ok (.aload 10, 2) := by decide +kernel
theorem own_d7_6 : decode prog_25_method_1_code 6 = .ok (.ldc 7, 2) := by decide +kernel
theorem own_d7_8 : decode prog_25_method_1_code 8 = .ok (.invokestatic 9, 3) := by decide +kernel
theorem own_d7_11 : decode prog_25_method_1_code 11 = .ok (.pop, 1) := by decide +kernel
theorem own_d7_12 : decode prog_25_method_1_code 12 = .ok (.aload_n 0, 1) := by decide +kernel
theorem own_d7_13 : decode prog_25_method_1_code 13 = .ok (.aload_n 1, 1) := by decide +kernel
theorem own_d7_14 : decode prog_25_method_1_code 14 = .ok (.putfield 15, 3) := by decide +kernel
theorem own_d7_17 : decode prog_25_method_1_code 17 = .ok (.aload_n 0, 1) := by decide +kernel
theorem own_d7_18 : decode prog_25_method_1_code 18 = .ok (.aload_n 2, 1) := by decide +kernel
theorem own_d7_19 : decode prog_25_method_1_code 19 = .ok (.putfield 21, 3) := by decide +kernel
theorem own_d7_22 : decode prog_25_method_1_code 22 = .ok (.aload_n 0, 1) := by decide +kernel
theorem own_d7_23 : decode prog_25_method_1_code 23 = .ok (.aload_n 3, 1) := by decide +kernel
theorem own_d7_24 : decode prog_25_method_1_code 24 = .ok (.putfield 24, 3) := by decide +kernel
theorem own_d7_27 : decode prog_25_method_1_code 27 = .ok (.aload_n 0, 1) := by decide +kernel
theorem own_d7_28 : decode prog_25_method_1_code 28 = .ok (.iload 4, 2) := by decide +kernel
theorem own_d7_30 : decode prog_25_method_1_code 30 = .ok (.putfield 27, 3) := by decide +kernel
theorem own_d7_33 : decode prog_25_method_1_code 33 = .ok (.aload_n 0, 1) := by decide +kernel
theorem own_d7_34 : decode prog_25_method_1_code 34 = .ok (.aload 5, 2) := by decide +kernel
theorem own_d7_36 : decode prog_25_method_1_code 36 = .ok (.putfield 31, 3) := by decide +kernel
theorem own_d7_39 : decode prog_25_method_1_code 39 = .ok (.aload_n 0, 1) := by decide +kernel
theorem own_d7_40 : decode prog_25_method_1_code 40 = .ok (.aload 6, 2) := by decide +kernel
theorem own_d7_42 : decode prog_25_method_1_code 42 = .ok (.putfield 35, 3) := by decide +kernel
theorem own_d7_45 : decode prog_25_method_1_code 45 = .ok (.aload_n 0, 1) := by decide +kernel
theorem own_d7_46 : decode prog_25_method_1_code 46 = .ok (.aload 7, 2) := by decide +kernel
theorem own_d7_48 : decode prog_25_method_1_code 48 = .ok (.putfield 38, 3) := by decide +kernel
theorem own_d7_51 : decode prog_25_method_1_code 51 = .ok (.aload_n 0, 1) := by decide +kernel
theorem own_d7_52 : decode prog_25_method_1_code 52 = .ok (.aload 8, 2) := by decide +kernel
theorem own_d7_54 : decode prog_25_method_1_code 54 = .ok (.putfield 41, 3) := by decide +kernel
theorem own_d7_57 : decode prog_25_method_1_code 57 = .ok (.aload_n 0, 1) := by decide +kernel
theorem own_d7_58 : decode prog_25_method_1_code 58 = .ok (.aload 9, 2) := by decide +kernel
theorem own_d7_60 : decode prog_25_method_1_code 60 = .ok (.putfield 44, 3) := by decide +kernel
theorem own_d7_63 : decode prog_25_method_1_code 63 = .ok (.aload_n 0, 1) := by decide +kernel
theorem own_d7_64 : decode prog_25_method_1_code 64 = .ok (.aload 10, 2) := by decide +kernel
theorem own_d7_66 : decode prog_25_method_1_code 66 = .ok (.putfield 47, 3) := by decide +kernel
theorem own_d7_69 : decode prog_25_method_1_code 69 = .ok (.return_, 1) := by decide +kernel
theorem own_ef7 (m : MethodId) (a0 : Addr) (x1 : Value) (x2 : Value) (x3 : Value) (p4 : Int32) (x5 : Value) (x6 : Value) (x7 : Value) (x8 : Value) (x9 : Value) (a10 : Addr) (r_x1 : x1.isRef = true) (r_x2 : x2.isRef = true) (r_x3 : x3.isRef = true) (r_x5 : x5.isRef = true) (r_x6 : x6.isRef = true) (r_x7 : x7.isRef = true) (r_x8 : x8.isRef = true) (r_x9 : x9.isRef = true) : entryFrame m #[(.ref a0), x1, x2, x3, (.int p4), x5, x6, x7, x8, x9, (.ref a10)] 11 = mkF m 0 #[.val (.ref a0), .val x1, .val x2, .val x3, .val (.int p4), .val x5, .val x6, .val x7, .val x8, .val x9, .val (.ref a10)] [] := by have c_x1 := own_cat r_x1; have c_x2 := own_cat r_x2; have c_x3 := own_cat r_x3; have c_x5 := own_cat r_x5; have c_x6 := own_cat r_x6; have c_x7 := own_cat r_x7; have c_x8 := own_cat r_x8; have c_x9 := own_cat r_x9; first | (simp [entryFrame, mkF, argsToLocals, own_catI, own_catL, own_catR, c_x1, c_x2, c_x3, c_x5, c_x6, c_x7, c_x8, c_x9]; done) | rfl
def own_Q7 (Z : State) (a0 : Addr) (x1 : Value) (x2 : Value) (x3 : Value) (p4 : Int32) (x5 : Value) (x6 : Value) (x7 : Value) (x8 : Value) (x9 : Value) (a10 : Addr) (h0 : Heap) (n0 : Nat) (v : Option Value) (h : Heap) (L : List Loc) : Prop := v = none ∧ Fr n0 L ∧ Keep h0 h [a0] ∧ Fld Z h a0 "com/example/fact4/fact4/model/AnswerRecord" "section" "Ljava/lang/String;" x1 ∧ Fld Z h a0 "com/example/fact4/fact4/model/AnswerRecord" "question" "Ljava/lang/String;" x2 ∧ Fld Z h a0 "com/example/fact4/fact4/model/AnswerRecord" "answerColumn" "Ljava/lang/String;" x3 ∧ Fld Z h a0 "com/example/fact4/fact4/model/AnswerRecord" "score" "Ljava/lang/Integer;" x5 ∧ Fld Z h a0 "com/example/fact4/fact4/model/AnswerRecord" "answerType" "Ljava/lang/String;" x6 ∧ Fld Z h a0 "com/example/fact4/fact4/model/AnswerRecord" "answerStyle" "Ljava/lang/String;" x7 ∧ Fld Z h a0 "com/example/fact4/fact4/model/AnswerRecord" "knowledgeType" "Ljava/lang/String;" x8 ∧ Fld Z h a0 "com/example/fact4/fact4/model/AnswerRecord" "questionId" "Ljava/lang/String;" x9 ∧ Fld Z h a0 "com/example/fact4/fact4/model/AnswerRecord" "answer" "I" (.int p4) ∧ Fld Z h a0 "com/example/fact4/fact4/model/AnswerRecord" "anscolumnId" "Ljava/lang/String;" (.ref a10)
theorem own_pn131 : plainName "com/example/fact4/fact4/model/AnswerRecord" = true := by first | (simp [plainName, overriddenIn]; done) | decide +kernel
set_option maxRecDepth 65536 in
set_option maxHeartbeats 40000000 in
theorem own_rm7 (l : Launch) (Z : State) (aA : Array Value) (hw : ∀ d ∈ tables_1, d.before aA Z = true) (ws : List Jvm.Cond) (a0 : Addr) (x1 : Value) (x2 : Value) (x3 : Value) (p4 : Int32) (x5 : Value) (x6 : Value) (x7 : Value) (x8 : Value) (x9 : Value) (a10 : Addr) (h0 : Heap) (n0 : Nat) (Z0 : n0 ≤ h0.size) (pre0 : Exa Z h0 a0 "com/example/fact4/fact4/model/AnswerRecord") (pre1 : n0 ≤ a0) (pre2 : Fld Z h0 a0 "com/example/fact4/fact4/model/AnswerRecord" "section" "Ljava/lang/String;" .null) (pre3 : Fld Z h0 a0 "com/example/fact4/fact4/model/AnswerRecord" "question" "Ljava/lang/String;" .null) (pre4 : Fld Z h0 a0 "com/example/fact4/fact4/model/AnswerRecord" "answerColumn" "Ljava/lang/String;" .null) (pre5 : Fld Z h0 a0 "com/example/fact4/fact4/model/AnswerRecord" "answer" "I" (.int (0 : Int32))) (pre6 : Fld Z h0 a0 "com/example/fact4/fact4/model/AnswerRecord" "score" "Ljava/lang/Integer;" .null) (pre7 : Fld Z h0 a0 "com/example/fact4/fact4/model/AnswerRecord" "answerType" "Ljava/lang/String;" .null) (pre8 : Fld Z h0 a0 "com/example/fact4/fact4/model/AnswerRecord" "answerStyle" "Ljava/lang/String;" .null) (pre9 : Fld Z h0 a0 "com/example/fact4/fact4/model/AnswerRecord" "knowledgeType" "Ljava/lang/String;" .null) (pre10 : Fld Z h0 a0 "com/example/fact4/fact4/model/AnswerRecord" "questionId" "Ljava/lang/String;" .null) (pre11 : Fld Z h0 a0 "com/example/fact4/fact4/model/AnswerRecord" "anscolumnId" "Ljava/lang/String;" .null) (pre12 : x1.isRef = true) (pre13 : x2.isRef = true) (pre14 : x3.isRef = true) (pre15 : x5.isRef = true) (pre16 : x6.isRef = true) (pre17 : x7.isRef = true) (pre18 : x8.isRef = true) (pre19 : x9.isRef = true) :
    MetFree l (⟨"com/example/fact4/fact4/model/AnswerRecord", "<init>", "(Ljava/lang/String;Ljava/lang/String;Ljava/lang/String;ILjava/lang/Integer;Ljava/lang/String;Ljava/lang/String;Ljava/lang/String;Ljava/lang/String;Ljava/lang/String;)V"⟩ : MethodName) (head1 (Jvm.Cond.code (⟨"com/example/fact4/fact4/model/AnswerRecord", "<init>", "(Ljava/lang/String;Ljava/lang/String;Ljava/lang/String;ILjava/lang/Integer;Ljava/lang/String;Ljava/lang/String;Ljava/lang/String;Ljava/lang/String;Ljava/lang/String;)V"⟩ : MethodName) prog_25_method_1_code 11 none :: ws) ({ frames := 2, cells := 2, slots := 48, locals := 24 } : Room)) (fun a U => a = #[(.ref a0), x1, x2, x3, (.int p4), x5, x6, x7, x8, x9, (.ref a10)] ∧ Z.Warmed39 U.vm ∧ U.heap = h0) (fun _ _ _ _ _ => True) (fun _ U o U' => ∃ v L, o = .returned v ∧ own_Q7 Z a0 x1 x2 x3 p4 x5 x6 x7 x8 x9 a10 h0 n0 v U'.heap L ∧ ReturnedEndW U o U' L ({ frames := 2, cells := 2, slots := 48, locals := 24 } : Room).cells ({ frames := 2, cells := 2, slots := 48, locals := 24 } : Room).slots) := by
  refine MetFree.of_bodySF (plainFor_of_name own_pn131) hisR ?_
  intro p e s m args below meth c s₁ Bd hml0 hP hK
  obtain ⟨rfl, hZ, hh⟩ := hP
  have hx := Bd.exec
  have hby := Bd.bytes
  have hlk : meth.locks = false := Bd.notSynchronized
  have hml : c.maxLocals = 11 := hml0
  have hown : s.vm.findClass "com/example/fact4/fact4/model/AnswerRecord" = some m.cls := findClass_of_methodNamed Bd.named
  have hnm := (name_of_methodNamed Bd.named Bd.method).1
  have X0 : Stand p l e ({ frames := 2, cells := 2, slots := 48, locals := 24 } : Room) s m #[(.ref a0), x1, x2, x3, (.int p4), x5, x6, x7, x8, x9, (.ref a10)] below meth c s₁ [] 0 0 := Stand.of_body Bd
  have e0 : s₁.heap = h0 := by rw [← hh, Bd.state]; rfl
  have N0 := Fr.nil n0
  replace X0 : Stand p l e ({ frames := 2, cells := 2, slots := 48, locals := 24 } : Room) (s.setVm s.vm) m #[(.ref a0), x1, x2, x3, (.int p4), x5, x6, x7, x8, x9, (.ref a10)] below meth c s₁ [] 0 0 := X0
  replace hZ : Z.Warmed39 (s.setVm s.vm).vm := hZ
  replace hown : (s.setVm s.vm).vm.findClass "com/example/fact4/fact4/model/AnswerRecord" = some m.cls := hown
  have hS0 : s.Since s.vm h0.size := (State.WarmedH.refl s).since _
  show OG p e below (FEW s ({ frames := 2, cells := 2, slots := 48, locals := 24 } : Room).cells ({ frames := 2, cells := 2, slots := 48, locals := 24 } : Room).slots) (own_Q7 Z a0 x1 x2 x3 p4 x5 x6 x7 x8 x9 a10 h0 n0) (s₁.setTop (entryFrame m #[(.ref a0), x1, x2, x3, (.int p4), x5, x6, x7, x8, x9, (.ref a10)] 11))
  refine og_of (fun _ k => castTop (own_ef7 m a0 x1 x2 x3 p4 x5 x6 x7 x8 x9 a10 pre12 pre13 pre14 pre15 pre16 pre17 pre18 pre19) k) ?_
  refine o_aloadN X0 hx rfl (hb hby own_d7_0) rfl rfl ?_
  obtain ⟨_, _, ⟨T1, L1, k1, n1⟩, -, X1, ⟨Lc1, hQ1, l1, y1, z1⟩, st1⟩ := X0.specialBack hx (y := (⟨"java/lang/Record", "<init>", "()V"⟩ : MethodName)) rfl hown (mvT hZ (hw _ (List.mem_of_getElem? (i := 37) rfl))) (mvT hZ (hw _ (List.mem_of_getElem? (i := 38) rfl))) (mvT hZ (hw _ (List.mem_of_getElem? (i := 41) rfl))) (by decide) (backOf (W := 0) (own_rm8 l Z aA hw [] a0 h0 n0 Z0) hZ (hw _ (List.mem_of_getElem? (i := 41) rfl)) (hw _ (List.mem_of_getElem? (i := 40) rfl)) (by decide) (by decide)) (g := (mkF m 1 #[.val (.ref a0), .val x1, .val x2, .val x3, .val (.int p4), .val x5, .val x6, .val x7, .val x8, .val x9, .val (.ref a10)] [(.ref a0)])) rfl (by rw [hml]; rfl) (Steps.refl _) (a := a0) (argsL := []) (rest := []) (lenOf own_pd4 rfl) rfl (by show 2 * 0 + _ ≤ _; exact Nat.le_of_eq rfl) (hb hby own_d7_1) (fun _ _ => ⟨rfl, e0, (by dsimp only [Pt.cells, Pt.slots]; decide +kernel), (by dsimp only [Pt.cells, Pt.slots]; decide +kernel)⟩)
  dsimp only [Pt.U, Pt.locs, Pt.cells, Pt.slots] at X1 l1 y1 z1 st1 hQ1
  rw [l1, y1, z1] at X1
  obtain ⟨rfl, N1q, ee1⟩ := hQ1
  have N2 := Fr.app N0 N1q
  refine og_tr st1 ?_
  show OG p e below _ _ (T1.setTop (mkF m 4 #[.val (.ref a0), .val x1, .val x2, .val x3, .val (.int p4), .val x5, .val x6, .val x7, .val x8, .val x9, .val (.ref a10)] []))
  refine o_aload X1 hx rfl (hb hby own_d7_4) rfl rfl ?_
  obtain ⟨b3, T3, h3, k13, X3, e3, E3, hS3, hk3, hZ, hown, st3⟩ := ldcS X1 hx hZ hown (hw _ (List.mem_of_getElem? (i := 43) rfl)) (own_strW hw) ee1 hS0 (Nat.le_refl h0.size) (g := (mkF m 6 #[.val (.ref a0), .val x1, .val x2, .val x3, .val (.int p4), .val x5, .val x6, .val x7, .val x8, .val x9, .val (.ref a10)] [(.ref a10)])) rfl (hb hby own_d7_6) (n := 44) (by decide +kernel) (by decide +kernel) (by decide +kernel) (by decide +kernel)
  have Kp4 : Keep h0 h3 [a0] := (Keep.refl h0 [a0]).ext E3
  refine og_of st3 ?_
  show OG p e below _ _ (T3.setTop (mkF m 8 #[.val (.ref a0), .val x1, .val x2, .val x3, .val (.int p4), .val x5, .val x6, .val x7, .val x8, .val x9, .val (.ref a10)] [(.ref b3), (.ref a10)]))
  have zz6 := (Nat.le_trans Z0 E3.1)
  obtain ⟨_, _, ⟨T5, L5, k5, n5⟩, -, X5, ⟨Lc5, hQ5, l5, y5, z5⟩, st5⟩ := Jvm.LawKit.callS X3 hx (y := (⟨"java/util/Objects", "requireNonNull", "(Ljava/lang/Object;Ljava/lang/String;)Ljava/lang/Object;"⟩ : MethodName)) hown (mvT hZ (hw _ (List.mem_of_getElem? (i := 46) rfl))) (mvT hZ (hw _ (List.mem_of_getElem? (i := 47) rfl))) (mvT hZ (hw _ (List.mem_of_getElem? (i := 48) rfl))) (mvT hZ (hw _ (List.mem_of_getElem? (i := 49) rfl))) (by decide) (backOf (W := 0) (own_rm9 l Z aA hw [] a10 b3 h3 n0 zz6) hZ (hw _ (List.mem_of_getElem? (i := 49) rfl)) (hw _ (List.mem_of_getElem? (i := 48) rfl)) (by decide) (by decide)) (g := (mkF m 8 #[.val (.ref a0), .val x1, .val x2, .val x3, .val (.int p4), .val x5, .val x6, .val x7, .val x8, .val x9, .val (.ref a10)] [(.ref b3), (.ref a10)])) rfl (by rw [hml]; rfl) (argsL := [(.ref a10), (.ref b3)]) (rest := []) (lenOf own_pd6 rfl) rfl (by show 2 * 0 + _ ≤ _; exact Nat.le_of_eq rfl) (hb hby own_d7_8) (fun _ _ => ⟨rfl, e3, (by dsimp only [Pt.cells, Pt.slots]; decide +kernel), (by dsimp only [Pt.cells, Pt.slots]; decide +kernel)⟩)
  dsimp only [Pt.U, Pt.locs, Pt.cells, Pt.slots] at X5 l5 y5 z5 st5 hQ5
  rw [l5, y5, z5] at X5
  obtain ⟨rfl, N5q, ee5⟩ := hQ5
  have N7 := Fr.app N2 N5q
  refine og_of st5 ?_
  show OG p e below _ _ (T5.setTop (mkF m 11 #[.val (.ref a0), .val x1, .val x2, .val x3, .val (.int p4), .val x5, .val x6, .val x7, .val x8, .val x9, .val (.ref a10)] [(.ref a10)]))
  refine o_pop X5 hx rfl (hb hby own_d7_11) rfl ?_
  refine o_aloadN X5 hx rfl (hb hby own_d7_12) rfl rfl ?_
  refine o_aloadN X5 hx rfl (hb hby own_d7_13) rfl pre12 ?_
  have Fc8 : Exa Z h3 a0 "com/example/fact4/fact4/model/AnswerRecord" := (Exa.ext E3 pre0)
  have Fc9 : Fld Z h3 a0 "com/example/fact4/fact4/model/AnswerRecord" "section" "Ljava/lang/String;" .null := (Fld.ext E3 pre2)
  obtain ⟨T10, h10, X10, e10, W10, st10⟩ := putF X5 hx hZ hown (host := "") (Or.inl (hw _ (List.mem_of_getElem? (i := 50) rfl))) Via.refl ee5 Fc9 Fc8 (Or.inr ⟨(hw _ (List.mem_of_getElem? (i := 51) rfl)), rfl, hnm⟩) (hw _ (List.mem_of_getElem? (i := 32) rfl)) (ty := (.object "java/lang/String")) (by decide) (own_narR pre12 _) (own_fitR pre12) (g := (mkF m 14 #[.val (.ref a0), .val x1, .val x2, .val x3, .val (.int p4), .val x5, .val x6, .val x7, .val x8, .val x9, .val (.ref a10)] [x1, (.ref a0)])) rfl rfl (hb hby own_d7_14)
  have Fw10 := Fc9.same W10
  have N10 := Fr.snoc X10 N7 pre1
  have Kp11 : Keep h0 h10 [a0] := Kp4.wr W10 (Or.inl (List.mem_of_getElem? (i := 0) rfl))
  refine og_of st10 ?_
  show OG p e below _ _ (T10.setTop (mkF m 17 #[.val (.ref a0), .val x1, .val x2, .val x3, .val (.int p4), .val x5, .val x6, .val x7, .val x8, .val x9, .val (.ref a10)] []))
  refine o_aloadN X10 hx rfl (hb hby own_d7_17) rfl rfl ?_
  refine o_aloadN X10 hx rfl (hb hby own_d7_18) rfl pre13 ?_
  have Fc12 : Exa Z h10 a0 "com/example/fact4/fact4/model/AnswerRecord" := (Exa.wr W10 Fc8)
  have Fc13 : Fld Z h10 a0 "com/example/fact4/fact4/model/AnswerRecord" "question" "Ljava/lang/String;" .null := (Fld.other W10 (Fld.ext E3 pre3) (Or.inr (slot_ne (Or.inr (hw _ (List.mem_of_getElem? (i := 53) rfl))) (Or.inr (hw _ (List.mem_of_getElem? (i := 51) rfl))) (by decide) (t := (.object "java/lang/String")) (t' := (.object "java/lang/String")) (by decide) (by decide))))
  obtain ⟨T14, h14, X14, e14, W14, st14⟩ := putF X10 hx hZ hown (host := "") (Or.inl (hw _ (List.mem_of_getElem? (i := 52) rfl))) Via.refl e10 Fc13 Fc12 (Or.inr ⟨(hw _ (List.mem_of_getElem? (i := 53) rfl)), rfl, hnm⟩) (hw _ (List.mem_of_getElem? (i := 32) rfl)) (ty := (.object "java/lang/String")) (by decide) (own_narR pre13 _) (own_fitR pre13) (g := (mkF m 19 #[.val (.ref a0), .val x1, .val x2, .val x3, .val (.int p4), .val x5, .val x6, .val x7, .val x8, .val x9, .val (.ref a10)] [x2, (.ref a0)])) rfl rfl (hb hby own_d7_19)
  have Fw14 := Fc13.same W14
  have N14 := Fr.snoc X14 N10 pre1
  have Kp15 : Keep h0 h14 [a0] := Kp11.wr W14 (Or.inl (List.mem_of_getElem? (i := 0) rfl))
  refine og_of st14 ?_
  show OG p e below _ _ (T14.setTop (mkF m 22 #[.val (.ref a0), .val x1, .val x2, .val x3, .val (.int p4), .val x5, .val x6, .val x7, .val x8, .val x9, .val (.ref a10)] []))
  refine o_aloadN X14 hx rfl (hb hby own_d7_22) rfl rfl ?_
  refine o_aloadN X14 hx rfl (hb hby own_d7_23) rfl pre14 ?_
  have Fc16 : Exa Z h14 a0 "com/example/fact4/fact4/model/AnswerRecord" := (Exa.wr W14 Fc12)
  have Fc17 : Fld Z h14 a0 "com/example/fact4/fact4/model/AnswerRecord" "answerColumn" "Ljava/lang/String;" .null := (Fld.other W14 (Fld.other W10 (Fld.ext E3 pre4) (Or.inr (slot_ne (Or.inr (hw _ (List.mem_of_getElem? (i := 55) rfl))) (Or.inr (hw _ (List.mem_of_getElem? (i := 51) rfl))) (by decide) (t := (.object "java/lang/String")) (t' := (.object "java/lang/String")) (by decide) (by decide)))) (Or.inr (slot_ne (Or.inr (hw _ (List.mem_of_getElem? (i := 55) rfl))) (Or.inr (hw _ (List.mem_of_getElem? (i := 53) rfl))) (by decide) (t := (.object "java/lang/String")) (t' := (.object "java/lang/String")) (by decide) (by decide))))
  obtain ⟨T18, h18, X18, e18, W18, st18⟩ := putF X14 hx hZ hown (host := "") (Or.inl (hw _ (List.mem_of_getElem? (i := 54) rfl))) Via.refl e14 Fc17 Fc16 (Or.inr ⟨(hw _ (List.mem_of_getElem? (i := 55) rfl)), rfl, hnm⟩) (hw _ (List.mem_of_getElem? (i := 32) rfl)) (ty := (.object "java/lang/String")) (by decide) (own_narR pre14 _) (own_fitR pre14) (g := (mkF m 24 #[.val (.ref a0), .val x1, .val x2, .val x3, .val (.int p4), .val x5, .val x6, .val x7, .val x8, .val x9, .val (.ref a10)] [x3, (.ref a0)])) rfl rfl (hb hby own_d7_24)
  have Fw18 := Fc17.same W18
  have N18 := Fr.snoc X18 N14 pre1
  have Kp19 : Keep h0 h18 [a0] := Kp15.wr W18 (Or.inl (List.mem_of_getElem? (i := 0) rfl))
  refine og_of st18 ?_
  show OG p e below _ _ (T18.setTop (mkF m 27 #[.val (.ref a0), .val x1, .val x2, .val x3, .val (.int p4), .val x5, .val x6, .val x7, .val x8, .val x9, .val (.ref a10)] []))
  refine o_aloadN X18 hx rfl (hb hby own_d7_27) rfl rfl ?_
  refine o_iload X18 hx rfl (hb hby own_d7_28) rfl ?_
  have Fc20 : Exa Z h18 a0 "com/example/fact4/fact4/model/AnswerRecord" := (Exa.wr W18 Fc16)
  have Fc21 : Fld Z h18 a0 "com/example/fact4/fact4/model/AnswerRecord" "answer" "I" (.int (0 : Int32)) := (Fld.other W18 (Fld.other W14 (Fld.other W10 (Fld.ext E3 pre5) (Or.inr (slot_ne (Or.inr (hw _ (List.mem_of_getElem? (i := 57) rfl))) (Or.inr (hw _ (List.mem_of_getElem? (i := 51) rfl))) (by decide) (t := .int) (t' := (.object "java/lang/String")) (by decide) (by decide)))) (Or.inr (slot_ne (Or.inr (hw _ (List.mem_of_getElem? (i := 57) rfl))) (Or.inr (hw _ (List.mem_of_getElem? (i := 53) rfl))) (by decide) (t := .int) (t' := (.object "java/lang/String")) (by decide) (by decide)))) (Or.inr (slot_ne (Or.inr (hw _ (List.mem_of_getElem? (i := 57) rfl))) (Or.inr (hw _ (List.mem_of_getElem? (i := 55) rfl))) (by decide) (t := .int) (t' := (.object "java/lang/String")) (by decide) (by decide))))
  obtain ⟨T22, h22, X22, e22, W22, st22⟩ := putF X18 hx hZ hown (host := "") (Or.inl (hw _ (List.mem_of_getElem? (i := 56) rfl))) Via.refl e18 Fc21 Fc20 (Or.inr ⟨(hw _ (List.mem_of_getElem? (i := 57) rfl)), rfl, hnm⟩) (hw _ (List.mem_of_getElem? (i := 32) rfl)) (ty := .int) (by decide) rfl rfl (g := (mkF m 30 #[.val (.ref a0), .val x1, .val x2, .val x3, .val (.int p4), .val x5, .val x6, .val x7, .val x8, .val x9, .val (.ref a10)] [(.int p4), (.ref a0)])) rfl rfl (hb hby own_d7_30)
  have Fw22 := Fc21.same W22
  have N22 := Fr.snoc X22 N18 pre1
  have Kp23 : Keep h0 h22 [a0] := Kp19.wr W22 (Or.inl (List.mem_of_getElem? (i := 0) rfl))
  refine og_of st22 ?_
  show OG p e below _ _ (T22.setTop (mkF m 33 #[.val (.ref a0), .val x1, .val x2, .val x3, .val (.int p4), .val x5, .val x6, .val x7, .val x8, .val x9, .val (.ref a10)] []))
  refine o_aloadN X22 hx rfl (hb hby own_d7_33) rfl rfl ?_
  refine o_aload X22 hx rfl (hb hby own_d7_34) rfl pre15 ?_
  have Fc24 : Exa Z h22 a0 "com/example/fact4/fact4/model/AnswerRecord" := (Exa.wr W22 Fc20)
  have Fc25 : Fld Z h22 a0 "com/example/fact4/fact4/model/AnswerRecord" "score" "Ljava/lang/Integer;" .null := (Fld.other W22 (Fld.other W18 (Fld.other W14 (Fld.other W10 (Fld.ext E3 pre6) (Or.inr (slot_ne (Or.inr (hw _ (List.mem_of_getElem? (i := 59) rfl))) (Or.inr (hw _ (List.mem_of_getElem? (i := 51) rfl))) (by decide) (t := (.object "java/lang/Integer")) (t' := (.object "java/lang/String")) (by decide) (by decide)))) (Or.inr (slot_ne (Or.inr (hw _ (List.mem_of_getElem? (i := 59) rfl))) (Or.inr (hw _ (List.mem_of_getElem? (i := 53) rfl))) (by decide) (t := (.object "java/lang/Integer")) (t' := (.object "java/lang/String")) (by decide) (by decide)))) (Or.inr (slot_ne (Or.inr (hw _ (List.mem_of_getElem? (i := 59) rfl))) (Or.inr (hw _ (List.mem_of_getElem? (i := 55) rfl))) (by decide) (t := (.object "java/lang/Integer")) (t' := (.object "java/lang/String")) (by decide) (by decide)))) (Or.inr (slot_ne (Or.inr (hw _ (List.mem_of_getElem? (i := 59) rfl))) (Or.inr (hw _ (List.mem_of_getElem? (i := 57) rfl))) (by decide) (t := (.object "java/lang/Integer")) (t' := .int) (by decide) (by decide))))
  obtain ⟨T26, h26, X26, e26, W26, st26⟩ := putF X22 hx hZ hown (host := "") (Or.inl (hw _ (List.mem_of_getElem? (i := 58) rfl))) Via.refl e22 Fc25 Fc24 (Or.inr ⟨(hw _ (List.mem_of_getElem? (i := 59) rfl)), rfl, hnm⟩) (hw _ (List.mem_of_getElem? (i := 32) rfl)) (ty := (.object "java/lang/Integer")) (by decide) (own_narR pre15 _) (own_fitR pre15) (g := (mkF m 36 #[.val (.ref a0), .val x1, .val x2, .val x3, .val (.int p4), .val x5, .val x6, .val x7, .val x8, .val x9, .val (.ref a10)] [x5, (.ref a0)])) rfl rfl (hb hby own_d7_36)
  have Fw26 := Fc25.same W26
  have N26 := Fr.snoc X26 N22 pre1
  have Kp27 : Keep h0 h26 [a0] := Kp23.wr W26 (Or.inl (List.mem_of_getElem? (i := 0) rfl))
  refine og_of st26 ?_
  show OG p e below _ _ (T26.setTop (mkF m 39 #[.val (.ref a0), .val x1, .val x2, .val x3, .val (.int p4), .val x5, .val x6, .val x7, .val x8, .val x9, .val (.ref a10)] []))
  refine o_aloadN X26 hx rfl (hb hby own_d7_39) rfl rfl ?_
  refine o_aload X26 hx rfl (hb hby own_d7_40) rfl pre16 ?_
  have Fc28 : Exa Z h26 a0 "com/example/fact4/fact4/model/AnswerRecord" := (Exa.wr W26 Fc24)
  have Fc29 : Fld Z h26 a0 "com/example/fact4/fact4/model/AnswerRecord" "answerType" "Ljava/lang/String;" .null := (Fld.other W26 (Fld.other W22 (Fld.other W18 (Fld.other W14 (Fld.other W10 (Fld.ext E3 pre7) (Or.inr (slot_ne (Or.inr (hw _ (List.mem_of_getElem? (i := 61) rfl))) (Or.inr (hw _ (List.mem_of_getElem? (i := 51) rfl))) (by decide) (t := (.object "java/lang/String")) (t' := (.object "java/lang/String")) (by decide) (by decide)))) (Or.inr (slot_ne (Or.inr (hw _ (List.mem_of_getElem? (i := 61) rfl))) (Or.inr (hw _ (List.mem_of_getElem? (i := 53) rfl))) (by decide) (t := (.object "java/lang/String")) (t' := (.object "java/lang/String")) (by decide) (by decide)))) (Or.inr (slot_ne (Or.inr (hw _ (List.mem_of_getElem? (i := 61) rfl))) (Or.inr (hw _ (List.mem_of_getElem? (i := 55) rfl))) (by decide) (t := (.object "java/lang/String")) (t' := (.object "java/lang/String")) (by decide) (by decide)))) (Or.inr (slot_ne (Or.inr (hw _ (List.mem_of_getElem? (i := 61) rfl))) (Or.inr (hw _ (List.mem_of_getElem? (i := 57) rfl))) (by decide) (t := (.object "java/lang/String")) (t' := .int) (by decide) (by decide)))) (Or.inr (slot_ne (Or.inr (hw _ (List.mem_of_getElem? (i := 61) rfl))) (Or.inr (hw _ (List.mem_of_getElem? (i := 59) rfl))) (by decide) (t := (.object "java/lang/String")) (t' := (.object "java/lang/Integer")) (by decide) (by decide))))
  obtain ⟨T30, h30, X30, e30, W30, st30⟩ := putF X26 hx hZ hown (host := "") (Or.inl (hw _ (List.mem_of_getElem? (i := 60) rfl))) Via.refl e26 Fc29 Fc28 (Or.inr ⟨(hw _ (List.mem_of_getElem? (i := 61) rfl)), rfl, hnm⟩) (hw _ (List.mem_of_getElem? (i := 32) rfl)) (ty := (.object "java/lang/String")) (by decide) (own_narR pre16 _) (own_fitR pre16) (g := (mkF m 42 #[.val (.ref a0), .val x1, .val x2, .val x3, .val (.int p4), .val x5, .val x6, .val x7, .val x8, .val x9, .val (.ref a10)] [x6, (.ref a0)])) rfl rfl (hb hby own_d7_42)
  have Fw30 := Fc29.same W30
  have N30 := Fr.snoc X30 N26 pre1
  have Kp31 : Keep h0 h30 [a0] := Kp27.wr W30 (Or.inl (List.mem_of_getElem? (i := 0) rfl))
  refine og_of st30 ?_
  show OG p e below _ _ (T30.setTop (mkF m 45 #[.val (.ref a0), .val x1, .val x2, .val x3, .val (.int p4), .val x5, .val x6, .val x7, .val x8, .val x9, .val (.ref a10)] []))
  refine o_aloadN X30 hx rfl (hb hby own_d7_45) rfl rfl ?_
  refine o_aload X30 hx rfl (hb hby own_d7_46) rfl pre17 ?_
  have Fc32 : Exa Z h30 a0 "com/example/fact4/fact4/model/AnswerRecord" := (Exa.wr W30 Fc28)
  have Fc33 : Fld Z h30 a0 "com/example/fact4/fact4/model/AnswerRecord" "answerStyle" "Ljava/lang/String;" .null := (Fld.other W30 (Fld.other W26 (Fld.other W22 (Fld.other W18 (Fld.other W14 (Fld.other W10 (Fld.ext E3 pre8) (Or.inr (slot_ne (Or.inr (hw _ (List.mem_of_getElem? (i := 63) rfl))) (Or.inr (hw _ (List.mem_of_getElem? (i := 51) rfl))) (by decide) (t := (.object "java/lang/String")) (t' := (.object "java/lang/String")) (by decide) (by decide)))) (Or.inr (slot_ne (Or.inr (hw _ (List.mem_of_getElem? (i := 63) rfl))) (Or.inr (hw _ (List.mem_of_getElem? (i := 53) rfl))) (by decide) (t := (.object "java/lang/String")) (t' := (.object "java/lang/String")) (by decide) (by decide)))) (Or.inr (slot_ne (Or.inr (hw _ (List.mem_of_getElem? (i := 63) rfl))) (Or.inr (hw _ (List.mem_of_getElem? (i := 55) rfl))) (by decide) (t := (.object "java/lang/String")) (t' := (.object "java/lang/String")) (by decide) (by decide)))) (Or.inr (slot_ne (Or.inr (hw _ (List.mem_of_getElem? (i := 63) rfl))) (Or.inr (hw _ (List.mem_of_getElem? (i := 57) rfl))) (by decide) (t := (.object "java/lang/String")) (t' := .int) (by decide) (by decide)))) (Or.inr (slot_ne (Or.inr (hw _ (List.mem_of_getElem? (i := 63) rfl))) (Or.inr (hw _ (List.mem_of_getElem? (i := 59) rfl))) (by decide) (t := (.object "java/lang/String")) (t' := (.object "java/lang/Integer")) (by decide) (by decide)))) (Or.inr (slot_ne (Or.inr (hw _ (List.mem_of_getElem? (i := 63) rfl))) (Or.inr (hw _ (List.mem_of_getElem? (i := 61) rfl))) (by decide) (t := (.object "java/lang/String")) (t' := (.object "java/lang/String")) (by decide) (by decide))))
  obtain ⟨T34, h34, X34, e34, W34, st34⟩ := putF X30 hx hZ hown (host := "") (Or.inl (hw _ (List.mem_of_getElem? (i := 62) rfl))) Via.refl e30 Fc33 Fc32 (Or.inr ⟨(hw _ (List.mem_of_getElem? (i := 63) rfl)), rfl, hnm⟩) (hw _ (List.mem_of_getElem? (i := 32) rfl)) (ty := (.object "java/lang/String")) (by decide) (own_narR pre17 _) (own_fitR pre17) (g := (mkF m 48 #[.val (.ref a0), .val x1, .val x2, .val x3, .val (.int p4), .val x5, .val x6, .val x7, .val x8, .val x9, .val (.ref a10)] [x7, (.ref a0)])) rfl rfl (hb hby own_d7_48)
  have Fw34 := Fc33.same W34
  have N34 := Fr.snoc X34 N30 pre1
  have Kp35 : Keep h0 h34 [a0] := Kp31.wr W34 (Or.inl (List.mem_of_getElem? (i := 0) rfl))
  refine og_of st34 ?_
  show OG p e below _ _ (T34.setTop (mkF m 51 #[.val (.ref a0), .val x1, .val x2, .val x3, .val (.int p4), .val x5, .val x6, .val x7, .val x8, .val x9, .val (.ref a10)] []))
  refine o_aloadN X34 hx rfl (hb hby own_d7_51) rfl rfl ?_
  refine o_aload X34 hx rfl (hb hby own_d7_52) rfl pre18 ?_
  have Fc36 : Exa Z h34 a0 "com/example/fact4/fact4/model/AnswerRecord" := (Exa.wr W34 Fc32)
  have Fc37 : Fld Z h34 a0 "com/example/fact4/fact4/model/AnswerRecord" "knowledgeType" "Ljava/lang/String;" .null := (Fld.other W34 (Fld.other W30 (Fld.other W26 (Fld.other W22 (Fld.other W18 (Fld.other W14 (Fld.other W10 (Fld.ext E3 pre9) (Or.inr (slot_ne (Or.inr (hw _ (List.mem_of_getElem? (i := 65) rfl))) (Or.inr (hw _ (List.mem_of_getElem? (i := 51) rfl))) (by decide) (t := (.object "java/lang/String")) (t' := (.object "java/lang/String")) (by decide) (by decide)))) (Or.inr (slot_ne (Or.inr (hw _ (List.mem_of_getElem? (i := 65) rfl))) (Or.inr (hw _ (List.mem_of_getElem? (i := 53) rfl))) (by decide) (t := (.object "java/lang/String")) (t' := (.object "java/lang/String")) (by decide) (by decide)))) (Or.inr (slot_ne (Or.inr (hw _ (List.mem_of_getElem? (i := 65) rfl))) (Or.inr (hw _ (List.mem_of_getElem? (i := 55) rfl))) (by decide) (t := (.object "java/lang/String")) (t' := (.object "java/lang/String")) (by decide) (by decide)))) (Or.inr (slot_ne (Or.inr (hw _ (List.mem_of_getElem? (i := 65) rfl))) (Or.inr (hw _ (List.mem_of_getElem? (i := 57) rfl))) (by decide) (t := (.object "java/lang/String")) (t' := .int) (by decide) (by decide)))) (Or.inr (slot_ne (Or.inr (hw _ (List.mem_of_getElem? (i := 65) rfl))) (Or.inr (hw _ (List.mem_of_getElem? (i := 59) rfl))) (by decide) (t := (.object "java/lang/String")) (t' := (.object "java/lang/Integer")) (by decide) (by decide)))) (Or.inr (slot_ne (Or.inr (hw _ (List.mem_of_getElem? (i := 65) rfl))) (Or.inr (hw _ (List.mem_of_getElem? (i := 61) rfl))) (by decide) (t := (.object "java/lang/String")) (t' := (.object "java/lang/String")) (by decide) (by decide)))) (Or.inr (slot_ne (Or.inr (hw _ (List.mem_of_getElem? (i := 65) rfl))) (Or.inr (hw _ (List.mem_of_getElem? (i := 63) rfl))) (by decide) (t := (.object "java/lang/String")) (t' := (.object "java/lang/String")) (by decide) (by decide))))
  obtain ⟨T38, h38, X38, e38, W38, st38⟩ := putF X34 hx hZ hown (host := "") (Or.inl (hw _ (List.mem_of_getElem? (i := 64) rfl))) Via.refl e34 Fc37 Fc36 (Or.inr ⟨(hw _ (List.mem_of_getElem? (i := 65) rfl)), rfl, hnm⟩) (hw _ (List.mem_of_getElem? (i := 32) rfl)) (ty := (.object "java/lang/String")) (by decide) (own_narR pre18 _) (own_fitR pre18) (g := (mkF m 54 #[.val (.ref a0), .val x1, .val x2, .val x3, .val (.int p4), .val x5, .val x6, .val x7, .val x8, .val x9, .val (.ref a10)] [x8, (.ref a0)])) rfl rfl (hb hby own_d7_54)
  have Fw38 := Fc37.same W38
  have N38 := Fr.snoc X38 N34 pre1
  have Kp39 : Keep h0 h38 [a0] := Kp35.wr W38 (Or.inl (List.mem_of_getElem? (i := 0) rfl))
  refine og_of st38 ?_
  show OG p e below _ _ (T38.setTop (mkF m 57 #[.val (.ref a0), .val x1, .val x2, .val x3, .val (.int p4), .val x5, .val x6, .val x7, .val x8, .val x9, .val (.ref a10)] []))
  refine o_aloadN X38 hx rfl (hb hby own_d7_57) rfl rfl ?_
  refine o_aload X38 hx rfl (hb hby own_d7_58) rfl pre19 ?_
  have Fc40 : Exa Z h38 a0 "com/example/fact4/fact4/model/AnswerRecord" := (Exa.wr W38 Fc36)
  have Fc41 : Fld Z h38 a0 "com/example/fact4/fact4/model/AnswerRecord" "questionId" "Ljava/lang/String;" .null := (Fld.other W38 (Fld.other W34 (Fld.other W30 (Fld.other W26 (Fld.other W22 (Fld.other W18 (Fld.other W14 (Fld.other W10 (Fld.ext E3 pre10) (Or.inr (slot_ne (Or.inr (hw _ (List.mem_of_getElem? (i := 67) rfl))) (Or.inr (hw _ (List.mem_of_getElem? (i := 51) rfl))) (by decide) (t := (.object "java/lang/String")) (t' := (.object "java/lang/String")) (by decide) (by decide)))) (Or.inr (slot_ne (Or.inr (hw _ (List.mem_of_getElem? (i := 67) rfl))) (Or.inr (hw _ (List.mem_of_getElem? (i := 53) rfl))) (by decide) (t := (.object "java/lang/String")) (t' := (.object "java/lang/String")) (by decide) (by decide)))) (Or.inr (slot_ne (Or.inr (hw _ (List.mem_of_getElem? (i := 67) rfl))) (Or.inr (hw _ (List.mem_of_getElem? (i := 55) rfl))) (by decide) (t := (.object "java/lang/String")) (t' := (.object "java/lang/String")) (by decide) (by decide)))) (Or.inr (slot_ne (Or.inr (hw _ (List.mem_of_getElem? (i := 67) rfl))) (Or.inr (hw _ (List.mem_of_getElem? (i := 57) rfl))) (by decide) (t := (.object "java/lang/String")) (t' := .int) (by decide) (by decide)))) (Or.inr (slot_ne (Or.inr (hw _ (List.mem_of_getElem? (i := 67) rfl))) (Or.inr (hw _ (List.mem_of_getElem? (i := 59) rfl))) (by decide) (t := (.object "java/lang/String")) (t' := (.object "java/lang/Integer")) (by decide) (by decide)))) (Or.inr (slot_ne (Or.inr (hw _ (List.mem_of_getElem? (i := 67) rfl))) (Or.inr (hw _ (List.mem_of_getElem? (i := 61) rfl))) (by decide) (t := (.object "java/lang/String")) (t' := (.object "java/lang/String")) (by decide) (by decide)))) (Or.inr (slot_ne (Or.inr (hw _ (List.mem_of_getElem? (i := 67) rfl))) (Or.inr (hw _ (List.mem_of_getElem? (i := 63) rfl))) (by decide) (t := (.object "java/lang/String")) (t' := (.object "java/lang/String")) (by decide) (by decide)))) (Or.inr (slot_ne (Or.inr (hw _ (List.mem_of_getElem? (i := 67) rfl))) (Or.inr (hw _ (List.mem_of_getElem? (i := 65) rfl))) (by decide) (t := (.object "java/lang/String")) (t' := (.object "java/lang/String")) (by decide) (by decide))))
  obtain ⟨T42, h42, X42, e42, W42, st42⟩ := putF X38 hx hZ hown (host := "") (Or.inl (hw _ (List.mem_of_getElem? (i := 66) rfl))) Via.refl e38 Fc41 Fc40 (Or.inr ⟨(hw _ (List.mem_of_getElem? (i := 67) rfl)), rfl, hnm⟩) (hw _ (List.mem_of_getElem? (i := 32) rfl)) (ty := (.object "java/lang/String")) (by decide) (own_narR pre19 _) (own_fitR pre19) (g := (mkF m 60 #[.val (.ref a0), .val x1, .val x2, .val x3, .val (.int p4), .val x5, .val x6, .val x7, .val x8, .val x9, .val (.ref a10)] [x9, (.ref a0)])) rfl rfl (hb hby own_d7_60)
  have Fw42 := Fc41.same W42
  have N42 := Fr.snoc X42 N38 pre1
  have Kp43 : Keep h0 h42 [a0] := Kp39.wr W42 (Or.inl (List.mem_of_getElem? (i := 0) rfl))
  refine og_of st42 ?_
  show OG p e below _ _ (T42.setTop (mkF m 63 #[.val (.ref a0), .val x1, .val x2, .val x3, .val (.int p4), .val x5, .val x6, .val x7, .val x8, .val x9, .val (.ref a10)] []))
  refine o_aloadN X42 hx rfl (hb hby own_d7_63) rfl rfl ?_
  refine o_aload X42 hx rfl (hb hby own_d7_64) rfl rfl ?_
  have Fc44 : Exa Z h42 a0 "com/example/fact4/fact4/model/AnswerRecord" := (Exa.wr W42 Fc40)
  have Fc45 : Fld Z h42 a0 "com/example/fact4/fact4/model/AnswerRecord" "anscolumnId" "Ljava/lang/String;" .null := (Fld.other W42 (Fld.other W38 (Fld.other W34 (Fld.other W30 (Fld.other W26 (Fld.other W22 (Fld.other W18 (Fld.other W14 (Fld.other W10 (Fld.ext E3 pre11) (Or.inr (slot_ne (Or.inr (hw _ (List.mem_of_getElem? (i := 69) rfl))) (Or.inr (hw _ (List.mem_of_getElem? (i := 51) rfl))) (by decide) (t := (.object "java/lang/String")) (t' := (.object "java/lang/String")) (by decide) (by decide)))) (Or.inr (slot_ne (Or.inr (hw _ (List.mem_of_getElem? (i := 69) rfl))) (Or.inr (hw _ (List.mem_of_getElem? (i := 53) rfl))) (by decide) (t := (.object "java/lang/String")) (t' := (.object "java/lang/String")) (by decide) (by decide)))) (Or.inr (slot_ne (Or.inr (hw _ (List.mem_of_getElem? (i := 69) rfl))) (Or.inr (hw _ (List.mem_of_getElem? (i := 55) rfl))) (by decide) (t := (.object "java/lang/String")) (t' := (.object "java/lang/String")) (by decide) (by decide)))) (Or.inr (slot_ne (Or.inr (hw _ (List.mem_of_getElem? (i := 69) rfl))) (Or.inr (hw _ (List.mem_of_getElem? (i := 57) rfl))) (by decide) (t := (.object "java/lang/String")) (t' := .int) (by decide) (by decide)))) (Or.inr (slot_ne (Or.inr (hw _ (List.mem_of_getElem? (i := 69) rfl))) (Or.inr (hw _ (List.mem_of_getElem? (i := 59) rfl))) (by decide) (t := (.object "java/lang/String")) (t' := (.object "java/lang/Integer")) (by decide) (by decide)))) (Or.inr (slot_ne (Or.inr (hw _ (List.mem_of_getElem? (i := 69) rfl))) (Or.inr (hw _ (List.mem_of_getElem? (i := 61) rfl))) (by decide) (t := (.object "java/lang/String")) (t' := (.object "java/lang/String")) (by decide) (by decide)))) (Or.inr (slot_ne (Or.inr (hw _ (List.mem_of_getElem? (i := 69) rfl))) (Or.inr (hw _ (List.mem_of_getElem? (i := 63) rfl))) (by decide) (t := (.object "java/lang/String")) (t' := (.object "java/lang/String")) (by decide) (by decide)))) (Or.inr (slot_ne (Or.inr (hw _ (List.mem_of_getElem? (i := 69) rfl))) (Or.inr (hw _ (List.mem_of_getElem? (i := 65) rfl))) (by decide) (t := (.object "java/lang/String")) (t' := (.object "java/lang/String")) (by decide) (by decide)))) (Or.inr (slot_ne (Or.inr (hw _ (List.mem_of_getElem? (i := 69) rfl))) (Or.inr (hw _ (List.mem_of_getElem? (i := 67) rfl))) (by decide) (t := (.object "java/lang/String")) (t' := (.object "java/lang/String")) (by decide) (by decide))))
  obtain ⟨T46, h46, X46, e46, W46, st46⟩ := putF X42 hx hZ hown (host := "") (Or.inl (hw _ (List.mem_of_getElem? (i := 68) rfl))) Via.refl e42 Fc45 Fc44 (Or.inr ⟨(hw _ (List.mem_of_getElem? (i := 69) rfl)), rfl, hnm⟩) (hw _ (List.mem_of_getElem? (i := 32) rfl)) (ty := (.object "java/lang/String")) (by decide) rfl rfl (g := (mkF m 66 #[.val (.ref a0), .val x1, .val x2, .val x3, .val (.int p4), .val x5, .val x6, .val x7, .val x8, .val x9, .val (.ref a10)] [(.ref a10), (.ref a0)])) rfl rfl (hb hby own_d7_66)
  have Fw46 := Fc45.same W46
  have N46 := Fr.snoc X46 N42 pre1
  have Kp47 : Keep h0 h46 [a0] := Kp43.wr W46 (Or.inl (List.mem_of_getElem? (i := 0) rfl))
  refine og_of st46 ?_
  show OG p e below _ _ (T46.setTop (mkF m 69 #[.val (.ref a0), .val x1, .val x2, .val x3, .val (.int p4), .val x5, .val x6, .val x7, .val x8, .val x9, .val (.ref a10)] []))
  have Fc48 : Fld Z h46 a0 "com/example/fact4/fact4/model/AnswerRecord" "section" "Ljava/lang/String;" x1 := (Fld.other W46 (Fld.other W42 (Fld.other W38 (Fld.other W34 (Fld.other W30 (Fld.other W26 (Fld.other W22 (Fld.other W18 (Fld.other W14 Fw10 (Or.inr (slot_ne (Or.inr (hw _ (List.mem_of_getElem? (i := 51) rfl))) (Or.inr (hw _ (List.mem_of_getElem? (i := 53) rfl))) (by decide) (t := (.object "java/lang/String")) (t' := (.object "java/lang/String")) (by decide) (by decide)))) (Or.inr (slot_ne (Or.inr (hw _ (List.mem_of_getElem? (i := 51) rfl))) (Or.inr (hw _ (List.mem_of_getElem? (i := 55) rfl))) (by decide) (t := (.object "java/lang/String")) (t' := (.object "java/lang/String")) (by decide) (by decide)))) (Or.inr (slot_ne (Or.inr (hw _ (List.mem_of_getElem? (i := 51) rfl))) (Or.inr (hw _ (List.mem_of_getElem? (i := 57) rfl))) (by decide) (t := (.object "java/lang/String")) (t' := .int) (by decide) (by decide)))) (Or.inr (slot_ne (Or.inr (hw _ (List.mem_of_getElem? (i := 51) rfl))) (Or.inr (hw _ (List.mem_of_getElem? (i := 59) rfl))) (by decide) (t := (.object "java/lang/String")) (t' := (.object "java/lang/Integer")) (by decide) (by decide)))) (Or.inr (slot_ne (Or.inr (hw _ (List.mem_of_getElem? (i := 51) rfl))) (Or.inr (hw _ (List.mem_of_getElem? (i := 61) rfl))) (by decide) (t := (.object "java/lang/String")) (t' := (.object "java/lang/String")) (by decide) (by decide)))) (Or.inr (slot_ne (Or.inr (hw _ (List.mem_of_getElem? (i := 51) rfl))) (Or.inr (hw _ (List.mem_of_getElem? (i := 63) rfl))) (by decide) (t := (.object "java/lang/String")) (t' := (.object "java/lang/String")) (by decide) (by decide)))) (Or.inr (slot_ne (Or.inr (hw _ (List.mem_of_getElem? (i := 51) rfl))) (Or.inr (hw _ (List.mem_of_getElem? (i := 65) rfl))) (by decide) (t := (.object "java/lang/String")) (t' := (.object "java/lang/String")) (by decide) (by decide)))) (Or.inr (slot_ne (Or.inr (hw _ (List.mem_of_getElem? (i := 51) rfl))) (Or.inr (hw _ (List.mem_of_getElem? (i := 67) rfl))) (by decide) (t := (.object "java/lang/String")) (t' := (.object "java/lang/String")) (by decide) (by decide)))) (Or.inr (slot_ne (Or.inr (hw _ (List.mem_of_getElem? (i := 51) rfl))) (Or.inr (hw _ (List.mem_of_getElem? (i := 69) rfl))) (by decide) (t := (.object "java/lang/String")) (t' := (.object "java/lang/String")) (by decide) (by decide))))
  have Fc49 : Fld Z h46 a0 "com/example/fact4/fact4/model/AnswerRecord" "question" "Ljava/lang/String;" x2 := (Fld.other W46 (Fld.other W42 (Fld.other W38 (Fld.other W34 (Fld.other W30 (Fld.other W26 (Fld.other W22 (Fld.other W18 Fw14 (Or.inr (slot_ne (Or.inr (hw _ (List.mem_of_getElem? (i := 53) rfl))) (Or.inr (hw _ (List.mem_of_getElem? (i := 55) rfl))) (by decide) (t := (.object "java/lang/String")) (t' := (.object "java/lang/String")) (by decide) (by decide)))) (Or.inr (slot_ne (Or.inr (hw _ (List.mem_of_getElem? (i := 53) rfl))) (Or.inr (hw _ (List.mem_of_getElem? (i := 57) rfl))) (by decide) (t := (.object "java/lang/String")) (t' := .int) (by decide) (by decide)))) (Or.inr (slot_ne (Or.inr (hw _ (List.mem_of_getElem? (i := 53) rfl))) (Or.inr (hw _ (List.mem_of_getElem? (i := 59) rfl))) (by decide) (t := (.object "java/lang/String")) (t' := (.object "java/lang/Integer")) (by decide) (by decide)))) (Or.inr (slot_ne (Or.inr (hw _ (List.mem_of_getElem? (i := 53) rfl))) (Or.inr (hw _ (List.mem_of_getElem? (i := 61) rfl))) (by decide) (t := (.object "java/lang/String")) (t' := (.object "java/lang/String")) (by decide) (by decide)))) (Or.inr (slot_ne (Or.inr (hw _ (List.mem_of_getElem? (i := 53) rfl))) (Or.inr (hw _ (List.mem_of_getElem? (i := 63) rfl))) (by decide) (t := (.object "java/lang/String")) (t' := (.object "java/lang/String")) (by decide) (by decide)))) (Or.inr (slot_ne (Or.inr (hw _ (List.mem_of_getElem? (i := 53) rfl))) (Or.inr (hw _ (List.mem_of_getElem? (i := 65) rfl))) (by decide) (t := (.object "java/lang/String")) (t' := (.object "java/lang/String")) (by decide) (by decide)))) (Or.inr (slot_ne (Or.inr (hw _ (List.mem_of_getElem? (i := 53) rfl))) (Or.inr (hw _ (List.mem_of_getElem? (i := 67) rfl))) (by decide) (t := (.object "java/lang/String")) (t' := (.object "java/lang/String")) (by decide) (by decide)))) (Or.inr (slot_ne (Or.inr (hw _ (List.mem_of_getElem? (i := 53) rfl))) (Or.inr (hw _ (List.mem_of_getElem? (i := 69) rfl))) (by decide) (t := (.object "java/lang/String")) (t' := (.object "java/lang/String")) (by decide) (by decide))))
  have Fc50 : Fld Z h46 a0 "com/example/fact4/fact4/model/AnswerRecord" "answerColumn" "Ljava/lang/String;" x3 := (Fld.other W46 (Fld.other W42 (Fld.other W38 (Fld.other W34 (Fld.other W30 (Fld.other W26 (Fld.other W22 Fw18 (Or.inr (slot_ne (Or.inr (hw _ (List.mem_of_getElem? (i := 55) rfl))) (Or.inr (hw _ (List.mem_of_getElem? (i := 57) rfl))) (by decide) (t := (.object "java/lang/String")) (t' := .int) (by decide) (by decide)))) (Or.inr (slot_ne (Or.inr (hw _ (List.mem_of_getElem? (i := 55) rfl))) (Or.inr (hw _ (List.mem_of_getElem? (i := 59) rfl))) (by decide) (t := (.object "java/lang/String")) (t' := (.object "java/lang/Integer")) (by decide) (by decide)))) (Or.inr (slot_ne (Or.inr (hw _ (List.mem_of_getElem? (i := 55) rfl))) (Or.inr (hw _ (List.mem_of_getElem? (i := 61) rfl))) (by decide) (t := (.object "java/lang/String")) (t' := (.object "java/lang/String")) (by decide) (by decide)))) (Or.inr (slot_ne (Or.inr (hw _ (List.mem_of_getElem? (i := 55) rfl))) (Or.inr (hw _ (List.mem_of_getElem? (i := 63) rfl))) (by decide) (t := (.object "java/lang/String")) (t' := (.object "java/lang/String")) (by decide) (by decide)))) (Or.inr (slot_ne (Or.inr (hw _ (List.mem_of_getElem? (i := 55) rfl))) (Or.inr (hw _ (List.mem_of_getElem? (i := 65) rfl))) (by decide) (t := (.object "java/lang/String")) (t' := (.object "java/lang/String")) (by decide) (by decide)))) (Or.inr (slot_ne (Or.inr (hw _ (List.mem_of_getElem? (i := 55) rfl))) (Or.inr (hw _ (List.mem_of_getElem? (i := 67) rfl))) (by decide) (t := (.object "java/lang/String")) (t' := (.object "java/lang/String")) (by decide) (by decide)))) (Or.inr (slot_ne (Or.inr (hw _ (List.mem_of_getElem? (i := 55) rfl))) (Or.inr (hw _ (List.mem_of_getElem? (i := 69) rfl))) (by decide) (t := (.object "java/lang/String")) (t' := (.object "java/lang/String")) (by decide) (by decide))))
  have Fc51 : Fld Z h46 a0 "com/example/fact4/fact4/model/AnswerRecord" "score" "Ljava/lang/Integer;" x5 := (Fld.other W46 (Fld.other W42 (Fld.other W38 (Fld.other W34 (Fld.other W30 Fw26 (Or.inr (slot_ne (Or.inr (hw _ (List.mem_of_getElem? (i := 59) rfl))) (Or.inr (hw _ (List.mem_of_getElem? (i := 61) rfl))) (by decide) (t := (.object "java/lang/Integer")) (t' := (.object "java/lang/String")) (by decide) (by decide)))) (Or.inr (slot_ne (Or.inr (hw _ (List.mem_of_getElem? (i := 59) rfl))) (Or.inr (hw _ (List.mem_of_getElem? (i := 63) rfl))) (by decide) (t := (.object "java/lang/Integer")) (t' := (.object "java/lang/String")) (by decide) (by decide)))) (Or.inr (slot_ne (Or.inr (hw _ (List.mem_of_getElem? (i := 59) rfl))) (Or.inr (hw _ (List.mem_of_getElem? (i := 65) rfl))) (by decide) (t := (.object "java/lang/Integer")) (t' := (.object "java/lang/String")) (by decide) (by decide)))) (Or.inr (slot_ne (Or.inr (hw _ (List.mem_of_getElem? (i := 59) rfl))) (Or.inr (hw _ (List.mem_of_getElem? (i := 67) rfl))) (by decide) (t := (.object "java/lang/Integer")) (t' := (.object "java/lang/String")) (by decide) (by decide)))) (Or.inr (slot_ne (Or.inr (hw _ (List.mem_of_getElem? (i := 59) rfl))) (Or.inr (hw _ (List.mem_of_getElem? (i := 69) rfl))) (by decide) (t := (.object "java/lang/Integer")) (t' := (.object "java/lang/String")) (by decide) (by decide))))
  have Fc52 : Fld Z h46 a0 "com/example/fact4/fact4/model/AnswerRecord" "answerType" "Ljava/lang/String;" x6 := (Fld.other W46 (Fld.other W42 (Fld.other W38 (Fld.other W34 Fw30 (Or.inr (slot_ne (Or.inr (hw _ (List.mem_of_getElem? (i := 61) rfl))) (Or.inr (hw _ (List.mem_of_getElem? (i := 63) rfl))) (by decide) (t := (.object "java/lang/String")) (t' := (.object "java/lang/String")) (by decide) (by decide)))) (Or.inr (slot_ne (Or.inr (hw _ (List.mem_of_getElem? (i := 61) rfl))) (Or.inr (hw _ (List.mem_of_getElem? (i := 65) rfl))) (by decide) (t := (.object "java/lang/String")) (t' := (.object "java/lang/String")) (by decide) (by decide)))) (Or.inr (slot_ne (Or.inr (hw _ (List.mem_of_getElem? (i := 61) rfl))) (Or.inr (hw _ (List.mem_of_getElem? (i := 67) rfl))) (by decide) (t := (.object "java/lang/String")) (t' := (.object "java/lang/String")) (by decide) (by decide)))) (Or.inr (slot_ne (Or.inr (hw _ (List.mem_of_getElem? (i := 61) rfl))) (Or.inr (hw _ (List.mem_of_getElem? (i := 69) rfl))) (by decide) (t := (.object "java/lang/String")) (t' := (.object "java/lang/String")) (by decide) (by decide))))
  have Fc53 : Fld Z h46 a0 "com/example/fact4/fact4/model/AnswerRecord" "answerStyle" "Ljava/lang/String;" x7 := (Fld.other W46 (Fld.other W42 (Fld.other W38 Fw34 (Or.inr (slot_ne (Or.inr (hw _ (List.mem_of_getElem? (i := 63) rfl))) (Or.inr (hw _ (List.mem_of_getElem? (i := 65) rfl))) (by decide) (t := (.object "java/lang/String")) (t' := (.object "java/lang/String")) (by decide) (by decide)))) (Or.inr (slot_ne (Or.inr (hw _ (List.mem_of_getElem? (i := 63) rfl))) (Or.inr (hw _ (List.mem_of_getElem? (i := 67) rfl))) (by decide) (t := (.object "java/lang/String")) (t' := (.object "java/lang/String")) (by decide) (by decide)))) (Or.inr (slot_ne (Or.inr (hw _ (List.mem_of_getElem? (i := 63) rfl))) (Or.inr (hw _ (List.mem_of_getElem? (i := 69) rfl))) (by decide) (t := (.object "java/lang/String")) (t' := (.object "java/lang/String")) (by decide) (by decide))))
  have Fc54 : Fld Z h46 a0 "com/example/fact4/fact4/model/AnswerRecord" "knowledgeType" "Ljava/lang/String;" x8 := (Fld.other W46 (Fld.other W42 Fw38 (Or.inr (slot_ne (Or.inr (hw _ (List.mem_of_getElem? (i := 65) rfl))) (Or.inr (hw _ (List.mem_of_getElem? (i := 67) rfl))) (by decide) (t := (.object "java/lang/String")) (t' := (.object "java/lang/String")) (by decide) (by decide)))) (Or.inr (slot_ne (Or.inr (hw _ (List.mem_of_getElem? (i := 65) rfl))) (Or.inr (hw _ (List.mem_of_getElem? (i := 69) rfl))) (by decide) (t := (.object "java/lang/String")) (t' := (.object "java/lang/String")) (by decide) (by decide))))
  have Fc55 : Fld Z h46 a0 "com/example/fact4/fact4/model/AnswerRecord" "questionId" "Ljava/lang/String;" x9 := (Fld.other W46 Fw42 (Or.inr (slot_ne (Or.inr (hw _ (List.mem_of_getElem? (i := 67) rfl))) (Or.inr (hw _ (List.mem_of_getElem? (i := 69) rfl))) (by decide) (t := (.object "java/lang/String")) (t' := (.object "java/lang/String")) (by decide) (by decide))))
  have Fc56 : Fld Z h46 a0 "com/example/fact4/fact4/model/AnswerRecord" "answer" "I" (.int p4) := (Fld.other W46 (Fld.other W42 (Fld.other W38 (Fld.other W34 (Fld.other W30 (Fld.other W26 Fw22 (Or.inr (slot_ne (Or.inr (hw _ (List.mem_of_getElem? (i := 57) rfl))) (Or.inr (hw _ (List.mem_of_getElem? (i := 59) rfl))) (by decide) (t := .int) (t' := (.object "java/lang/Integer")) (by decide) (by decide)))) (Or.inr (slot_ne (Or.inr (hw _ (List.mem_of_getElem? (i := 57) rfl))) (Or.inr (hw _ (List.mem_of_getElem? (i := 61) rfl))) (by decide) (t := .int) (t' := (.object "java/lang/String")) (by decide) (by decide)))) (Or.inr (slot_ne (Or.inr (hw _ (List.mem_of_getElem? (i := 57) rfl))) (Or.inr (hw _ (List.mem_of_getElem? (i := 63) rfl))) (by decide) (t := .int) (t' := (.object "java/lang/String")) (by decide) (by decide)))) (Or.inr (slot_ne (Or.inr (hw _ (List.mem_of_getElem? (i := 57) rfl))) (Or.inr (hw _ (List.mem_of_getElem? (i := 65) rfl))) (by decide) (t := .int) (t' := (.object "java/lang/String")) (by decide) (by decide)))) (Or.inr (slot_ne (Or.inr (hw _ (List.mem_of_getElem? (i := 57) rfl))) (Or.inr (hw _ (List.mem_of_getElem? (i := 67) rfl))) (by decide) (t := .int) (t' := (.object "java/lang/String")) (by decide) (by decide)))) (Or.inr (slot_ne (Or.inr (hw _ (List.mem_of_getElem? (i := 57) rfl))) (Or.inr (hw _ (List.mem_of_getElem? (i := 69) rfl))) (by decide) (t := .int) (t' := (.object "java/lang/String")) (by decide) (by decide))))
  exact o_ret0 X46 hx Bd.returns (own_lvW X46 hlk hS3 (by rw [e46]; exact (Nat.le_trans (Nat.le_trans (Nat.le_trans (Nat.le_trans (Nat.le_trans (Nat.le_trans (Nat.le_trans (Nat.le_trans (Nat.le_trans (Nat.le_trans hk3 (Keep.of_wr W10).1) (Keep.of_wr W14).1) (Keep.of_wr W18).1) (Keep.of_wr W22).1) (Keep.of_wr W26).1) (Keep.of_wr W30).1) (Keep.of_wr W34).1) (Keep.of_wr W38).1) (Keep.of_wr W42).1) (Keep.of_wr W46).1)) (by decide +kernel) (by decide +kernel)) (hb hby own_d7_69) ⟨rfl, N46, (by rw [e46]; exact Kp47), (by rw [e46]; exact Fc48), (by rw [e46]; exact Fc49), (by rw [e46]; exact Fc50), (by rw [e46]; exact Fc51), (by rw [e46]; exact Fc52), (by rw [e46]; exact Fc53), (by rw [e46]; exact Fc54), (by rw [e46]; exact Fc55), (by rw [e46]; exact Fc56), (by rw [e46]; exact Fw46)⟩
theorem own_pd7 : parseMethodDescriptor "(Ljava/lang/String;Ljava/lang/String;Ljava/lang/String;ILjava/lang/Integer;Ljava/lang/String;Ljava/lang/String;Ljava/lang/String;Ljava/lang/String;Ljava/lang/String;)V" = some ⟨[(.object "java/lang/String"), (.object "java/lang/String"), (.object "java/lang/String"), .int, (.object "java/lang/Integer"), (.object "java/lang/String"), (.object "java/lang/String"), (.object "java/lang/String"), (.object "java/lang/String"), (.object "java/lang/String")], none⟩ := by decide +kernel
theorem own_d10_0 : decode prog_25_method_3_code 0 = .ok (.new 16, 3) := by decide +kernel
theorem own_d10_3 : decode prog_25_method_3_code 3 = .ok (.dup, 1) := by decide +kernel
theorem own_d10_4 : decode prog_25_method_3_code 4 = .ok (.aload_n 0, 1) := by decide +kernel
theorem own_d10_5 : decode prog_25_method_3_code 5 = .ok (.getfield 15, 3) := by decide +kernel
theorem own_d10_8 : decode prog_25_method_3_code 8 = .ok (.aload_n 0, 1) := by decide +kernel
theorem own_d10_9 : decode prog_25_method_3_code 9 = .ok (.getfield 21, 3) := by decide +kernel
theorem own_d10_12 : decode prog_25_method_3_code 12 = .ok (.aload_n 0, 1) := by decide +kernel
theorem own_d10_13 : decode prog_25_method_3_code 13 = .ok (.getfield 24, 3) := by decide +kernel
theorem own_d10_16 : decode prog_25_method_3_code 16 = .ok (.iload_n 1, 1) := by decide +kernel
theorem own_d10_17 : decode prog_25_method_3_code 17 = .ok (.aload_n 0, 1) := by decide +kernel
theorem own_d10_18 : decode prog_25_method_3_code 18 = .ok (.getfield 31, 3) := by decide +kernel
theorem own_d10_21 : decode prog_25_method_3_code 21 = .ok (.aload_n 0, 1) := by decide +kernel
theorem own_d10_22 : decode prog_25_method_3_code 22 = .ok (.getfield 35, 3) := by decide +kernel
theorem own_d10_25 : decode prog_25_method_3_code 25 = .ok (.aload_n 0, 1) := by decide +kernel
theorem own_d10_26 : decode prog_25_method_3_code 26 = .ok (.getfield 38, 3) := by decide +kernel
theorem own_d10_29 : decode prog_25_method_3_code 29 = .ok (.aload_n 0, 1) := by decide +kernel
theorem own_d10_30 : decode prog_25_method_3_code 30 = .ok (.getfield 41, 3) := by decide +kernel
theorem own_d10_33 : decode prog_25_method_3_code 33 = .ok (.aload_n 0, 1) := by decide +kernel
theorem own_d10_34 : decode prog_25_method_3_code 34 = .ok (.getfield 44, 3) := by decide +kernel
theorem own_d10_37 : decode prog_25_method_3_code 37 = .ok (.aload_n 0, 1) := by decide +kernel
theorem own_d10_38 : decode prog_25_method_3_code 38 = .ok (.getfield 47, 3) := by decide +kernel
theorem own_d10_41 : decode prog_25_method_3_code 41 = .ok (.invokespecial 79, 3) := by decide +kernel
theorem own_d10_44 : decode prog_25_method_3_code 44 = .ok (.areturn, 1) := by decide +kernel
theorem own_ef10 (m : MethodId) (a0 : Addr) (p1 : Int32) : entryFrame m #[(.ref a0), (.int p1)] 2 = mkF m 0 #[.val (.ref a0), .val (.int p1)] [] := by first | (simp [entryFrame, mkF, argsToLocals, Value.category]; done) | rfl
def own_Q10 (Z : State) (a0 : Addr) (p1 : Int32) (x1 : Value) (x2 : Value) (x3 : Value) (x5 : Value) (x6 : Value) (x7 : Value) (x8 : Value) (x9 : Value) (an : Int32) (a10 : Addr) (h0 : Heap) (n0 : Nat) (v : Option Value) (h : Heap) (L : List Loc) : Prop := ∃ (b : Addr), v = some (.ref b) ∧ Fr n0 L ∧ Keep h0 h [] ∧ h0.size ≤ b ∧ Exa Z h b "com/example/fact4/fact4/model/AnswerRecord" ∧ Fld Z h b "com/example/fact4/fact4/model/AnswerRecord" "section" "Ljava/lang/String;" x1 ∧ Fld Z h b "com/example/fact4/fact4/model/AnswerRecord" "question" "Ljava/lang/String;" x2 ∧ Fld Z h b "com/example/fact4/fact4/model/AnswerRecord" "answerColumn" "Ljava/lang/String;" x3 ∧ Fld Z h b "com/example/fact4/fact4/model/AnswerRecord" "score" "Ljava/lang/Integer;" x5 ∧ Fld Z h b "com/example/fact4/fact4/model/AnswerRecord" "answerType" "Ljava/lang/String;" x6 ∧ Fld Z h b "com/example/fact4/fact4/model/AnswerRecord" "answerStyle" "Ljava/lang/String;" x7 ∧ Fld Z h b "com/example/fact4/fact4/model/AnswerRecord" "knowledgeType" "Ljava/lang/String;" x8 ∧ Fld Z h b "com/example/fact4/fact4/model/AnswerRecord" "questionId" "Ljava/lang/String;" x9 ∧ Fld Z h b "com/example/fact4/fact4/model/AnswerRecord" "answer" "I" (.int p1) ∧ Fld Z h b "com/example/fact4/fact4/model/AnswerRecord" "anscolumnId" "Ljava/lang/String;" (.ref a10)
set_option maxRecDepth 65536 in
set_option maxHeartbeats 40000000 in
theorem own_rm10 (l : Launch) (Z : State) (aA : Array Value) (hw : ∀ d ∈ tables_1, d.before aA Z = true) (ws : List Jvm.Cond) (a0 : Addr) (p1 : Int32) (x1 : Value) (x2 : Value) (x3 : Value) (x5 : Value) (x6 : Value) (x7 : Value) (x8 : Value) (x9 : Value) (an : Int32) (a10 : Addr) (h0 : Heap) (n0 : Nat) (Z0 : n0 ≤ h0.size) (pre0 : Fld Z h0 a0 "com/example/fact4/fact4/model/AnswerRecord" "section" "Ljava/lang/String;" x1) (pre1 : Fld Z h0 a0 "com/example/fact4/fact4/model/AnswerRecord" "question" "Ljava/lang/String;" x2) (pre2 : Fld Z h0 a0 "com/example/fact4/fact4/model/AnswerRecord" "answerColumn" "Ljava/lang/String;" x3) (pre3 : Fld Z h0 a0 "com/example/fact4/fact4/model/AnswerRecord" "score" "Ljava/lang/Integer;" x5) (pre4 : Fld Z h0 a0 "com/example/fact4/fact4/model/AnswerRecord" "answerType" "Ljava/lang/String;" x6) (pre5 : Fld Z h0 a0 "com/example/fact4/fact4/model/AnswerRecord" "answerStyle" "Ljava/lang/String;" x7) (pre6 : Fld Z h0 a0 "com/example/fact4/fact4/model/AnswerRecord" "knowledgeType" "Ljava/lang/String;" x8) (pre7 : Fld Z h0 a0 "com/example/fact4/fact4/model/AnswerRecord" "questionId" "Ljava/lang/String;" x9) (pre8 : Fld Z h0 a0 "com/example/fact4/fact4/model/AnswerRecord" "answer" "I" (.int an)) (pre9 : Fld Z h0 a0 "com/example/fact4/fact4/model/AnswerRecord" "anscolumnId" "Ljava/lang/String;" (.ref a10)) (pre10 : x1.isRef = true) (pre11 : x2.isRef = true) (pre12 : x3.isRef = true) (pre13 : x5.isRef = true) (pre14 : x6.isRef = true) (pre15 : x7.isRef = true) (pre16 : x8.isRef = true) (pre17 : x9.isRef = true) :
    MetFree l (⟨"com/example/fact4/fact4/model/AnswerRecord", "withAnswer", "(I)Lcom/example/fact4/fact4/model/AnswerRecord;"⟩ : MethodName) (head1 (Jvm.Cond.code (⟨"com/example/fact4/fact4/model/AnswerRecord", "withAnswer", "(I)Lcom/example/fact4/fact4/model/AnswerRecord;"⟩ : MethodName) prog_25_method_3_code 2 (some (.object "com/example/fact4/fact4/model/AnswerRecord")) :: ws) ({ frames := 3, cells := 3, slots := 58, locals := 47 } : Room)) (fun a U => a = #[(.ref a0), (.int p1)] ∧ Z.Warmed39 U.vm ∧ U.heap = h0) (fun _ _ _ _ _ => True) (fun _ U o U' => ∃ v L, o = .returned v ∧ own_Q10 Z a0 p1 x1 x2 x3 x5 x6 x7 x8 x9 an a10 h0 n0 v U'.heap L ∧ ReturnedEndW U o U' L ({ frames := 3, cells := 3, slots := 58, locals := 47 } : Room).cells ({ frames := 3, cells := 3, slots := 58, locals := 47 } : Room).slots) := by
  refine MetFree.of_bodySF (plainFor_of_name own_pn131) hisR ?_
  intro p e s m args below meth c s₁ Bd hml0 hP hK
  obtain ⟨rfl, hZ, hh⟩ := hP
  have hx := Bd.exec
  have hby := Bd.bytes
  have hlk : meth.locks = false := Bd.notSynchronized
  have hml : c.maxLocals = 2 := hml0
  have hown : s.vm.findClass "com/example/fact4/fact4/model/AnswerRecord" = some m.cls := findClass_of_methodNamed Bd.named
  have hnm := (name_of_methodNamed Bd.named Bd.method).1
  have X0 : Stand p l e ({ frames := 3, cells := 3, slots := 58, locals := 47 } : Room) s m #[(.ref a0), (.int p1)] below meth c s₁ [] 0 0 := Stand.of_body Bd
  have e0 : s₁.heap = h0 := by rw [← hh, Bd.state]; rfl
  have N0 := Fr.nil n0
  replace X0 : Stand p l e ({ frames := 3, cells := 3, slots := 58, locals := 47 } : Room) (s.setVm s.vm) m #[(.ref a0), (.int p1)] below meth c s₁ [] 0 0 := X0
  replace hZ : Z.Warmed39 (s.setVm s.vm).vm := hZ
  replace hown : (s.setVm s.vm).vm.findClass "com/example/fact4/fact4/model/AnswerRecord" = some m.cls := hown
  have hS0 : s.Since s.vm h0.size := (State.WarmedH.refl s).since _
  show OG p e below (FEW s ({ frames := 3, cells := 3, slots := 58, locals := 47 } : Room).cells ({ frames := 3, cells := 3, slots := 58, locals := 47 } : Room).slots) (own_Q10 Z a0 p1 x1 x2 x3 x5 x6 x7 x8 x9 an a10 h0 n0) (s₁.setTop (entryFrame m #[(.ref a0), (.int p1)] 2))
  refine og_of (fun _ k => castTop (own_ef10 m a0 p1) k) ?_
  obtain ⟨T1, h1, X1, e1, E1, A1, D1, -, st1⟩ := newO X0 hx hZ hown (hw _ (List.mem_of_getElem? (i := 75) rfl)) (hw _ (List.mem_of_getElem? (i := 32) rfl)) (hw _ (List.mem_of_getElem? (i := 33) rfl)) e0 (g := (mkF m 0 #[.val (.ref a0), .val (.int p1)] [])) rfl (hb hby own_d10_0) (by decide +kernel) (by decide +kernel)
  obtain ⟨b1, g1⟩ : ∃ z, z = h0.size := ⟨_, rfl⟩
  rw [← g1] at A1 D1 st1
  have ne2 : a0 ≠ b1 := Nat.ne_of_lt (Nat.lt_of_lt_of_le pre0.lt (Nat.le_of_eq g1.symm))
  have gn1 : n0 ≤ b1 := Nat.le_trans Z0 (Nat.le_of_eq g1.symm)
  have sz1 : h0.size ≤ b1 := Nat.le_trans (Keep.refl h0 []).1 (Nat.le_of_eq g1.symm)
  have Kp3 : Keep h0 h1 [] := (Keep.refl h0 []).ext E1
  have F1_51 : Fld Z h1 b1 "com/example/fact4/fact4/model/AnswerRecord" "section" "Ljava/lang/String;" .null := D1 (Or.inr (hw _ (List.mem_of_getElem? (i := 51) rfl))) (ty := (.object "java/lang/String")) (by decide)
  have F1_53 : Fld Z h1 b1 "com/example/fact4/fact4/model/AnswerRecord" "question" "Ljava/lang/String;" .null := D1 (Or.inr (hw _ (List.mem_of_getElem? (i := 53) rfl))) (ty := (.object "java/lang/String")) (by decide)
  have F1_55 : Fld Z h1 b1 "com/example/fact4/fact4/model/AnswerRecord" "answerColumn" "Ljava/lang/String;" .null := D1 (Or.inr (hw _ (List.mem_of_getElem? (i := 55) rfl))) (ty := (.object "java/lang/String")) (by decide)
  have F1_57 : Fld Z h1 b1 "com/example/fact4/fact4/model/AnswerRecord" "answer" "I" (.int (0 : Int32)) := D1 (Or.inr (hw _ (List.mem_of_getElem? (i := 57) rfl))) (ty := .int) (by decide)
  have F1_59 : Fld Z h1 b1 "com/example/fact4/fact4/model/AnswerRecord" "score" "Ljava/lang/Integer;" .null := D1 (Or.inr (hw _ (List.mem_of_getElem? (i := 59) rfl))) (ty := (.object "java/lang/Integer")) (by decide)
  have F1_61 : Fld Z h1 b1 "com/example/fact4/fact4/model/AnswerRecord" "answerType" "Ljava/lang/String;" .null := D1 (Or.inr (hw _ (List.mem_of_getElem? (i := 61) rfl))) (ty := (.object "java/lang/String")) (by decide)
  have F1_63 : Fld Z h1 b1 "com/example/fact4/fact4/model/AnswerRecord" "answerStyle" "Ljava/lang/String;" .null := D1 (Or.inr (hw _ (List.mem_of_getElem? (i := 63) rfl))) (ty := (.object "java/lang/String")) (by decide)
  have F1_65 : Fld Z h1 b1 "com/example/fact4/fact4/model/AnswerRecord" "knowledgeType" "Ljava/lang/String;" .null := D1 (Or.inr (hw _ (List.mem_of_getElem? (i := 65) rfl))) (ty := (.object "java/lang/String")) (by decide)
  have F1_67 : Fld Z h1 b1 "com/example/fact4/fact4/model/AnswerRecord" "questionId" "Ljava/lang/String;" .null := D1 (Or.inr (hw _ (List.mem_of_getElem? (i := 67) rfl))) (ty := (.object "java/lang/String")) (by decide)
  have F1_69 : Fld Z h1 b1 "com/example/fact4/fact4/model/AnswerRecord" "anscolumnId" "Ljava/lang/String;" .null := D1 (Or.inr (hw _ (List.mem_of_getElem? (i := 69) rfl))) (ty := (.object "java/lang/String")) (by decide)
  refine og_of st1 ?_
  show OG p e below _ _ (T1.setTop (mkF m 3 #[.val (.ref a0), .val (.int p1)] [(.ref b1)]))
  refine o_dup X1 hx rfl (hb hby own_d10_3) rfl ?_
  refine o_aloadN X1 hx rfl (hb hby own_d10_4) rfl rfl ?_
  have Fc4 : Fld Z h1 a0 "com/example/fact4/fact4/model/AnswerRecord" "section" "Ljava/lang/String;" x1 := (Fld.ext E1 pre0)
  obtain ⟨T5, X5, e5, st5⟩ := getF X1 hx hZ hown (host := "") (Or.inl (hw _ (List.mem_of_getElem? (i := 50) rfl))) Via.refl e1 Fc4 (g := (mkF m 5 #[.val (.ref a0), .val (.int p1)] [(.ref a0), (.ref b1), (.ref b1)])) rfl rfl (hb hby own_d10_5)
  refine og_of st5 ?_
  show OG p e below _ _ (T5.setTop (mkF m 8 #[.val (.ref a0), .val (.int p1)] [x1, (.ref b1), (.ref b1)]))
  refine o_aloadN X5 hx rfl (hb hby own_d10_8) rfl rfl ?_
  have Fc6 : Fld Z h1 a0 "com/example/fact4/fact4/model/AnswerRecord" "question" "Ljava/lang/String;" x2 := (Fld.ext E1 pre1)
  obtain ⟨T7, X7, e7, st7⟩ := getF X5 hx hZ hown (host := "") (Or.inl (hw _ (List.mem_of_getElem? (i := 52) rfl))) Via.refl e5 Fc6 (g := (mkF m 9 #[.val (.ref a0), .val (.int p1)] [(.ref a0), x1, (.ref b1), (.ref b1)])) rfl rfl (hb hby own_d10_9)
  refine og_of st7 ?_
  show OG p e below _ _ (T7.setTop (mkF m 12 #[.val (.ref a0), .val (.int p1)] [x2, x1, (.ref b1), (.ref b1)]))
  refine o_aloadN X7 hx rfl (hb hby own_d10_12) rfl rfl ?_
  have Fc8 : Fld Z h1 a0 "com/example/fact4/fact4/model/AnswerRecord" "answerColumn" "Ljava/lang/String;" x3 := (Fld.ext E1 pre2)
  obtain ⟨T9, X9, e9, st9⟩ := getF X7 hx hZ hown (host := "") (Or.inl (hw _ (List.mem_of_getElem? (i := 54) rfl))) Via.refl e7 Fc8 (g := (mkF m 13 #[.val (.ref a0), .val (.int p1)] [(.ref a0), x2, x1, (.ref b1), (.ref b1)])) rfl rfl (hb hby own_d10_13)
  refine og_of st9 ?_
  show OG p e below _ _ (T9.setTop (mkF m 16 #[.val (.ref a0), .val (.int p1)] [x3, x2, x1, (.ref b1), (.ref b1)]))
  refine o_iloadN X9 hx rfl (hb hby own_d10_16) rfl ?_
  refine o_aloadN X9 hx rfl (hb hby own_d10_17) rfl rfl ?_
  have Fc10 : Fld Z h1 a0 "com/example/fact4/fact4/model/AnswerRecord" "score" "Ljava/lang/Integer;" x5 := (Fld.ext E1 pre3)
  obtain ⟨T11, X11, e11, st11⟩ := getF X9 hx hZ hown (host := "") (Or.inl (hw _ (List.mem_of_getElem? (i := 58) rfl))) Via.refl e9 Fc10 (g := (mkF m 18 #[.val (.ref a0), .val (.int p1)] [(.ref a0), (.int p1), x3, x2, x1, (.ref b1), (.ref b1)])) rfl rfl (hb hby own_d10_18)
  refine og_of st11 ?_
  show OG p e below _ _ (T11.setTop (mkF m 21 #[.val (.ref a0), .val (.int p1)] [x5, (.int p1), x3, x2, x1, (.ref b1), (.ref b1)]))
  refine o_aloadN X11 hx rfl (hb hby own_d10_21) rfl rfl ?_
  have Fc12 : Fld Z h1 a0 "com/example/fact4/fact4/model/AnswerRecord" "answerType" "Ljava/lang/String;" x6 := (Fld.ext E1 pre4)
  obtain ⟨T13, X13, e13, st13⟩ := getF X11 hx hZ hown (host := "") (Or.inl (hw _ (List.mem_of_getElem? (i := 60) rfl))) Via.refl e11 Fc12 (g := (mkF m 22 #[.val (.ref a0), .val (.int p1)] [(.ref a0), x5, (.int p1), x3, x2, x1, (.ref b1), (.ref b1)])) rfl rfl (hb hby own_d10_22)
  refine og_of st13 ?_
  show OG p e below _ _ (T13.setTop (mkF m 25 #[.val (.ref a0), .val (.int p1)] [x6, x5, (.int p1), x3, x2, x1, (.ref b1), (.ref b1)]))
  refine o_aloadN X13 hx rfl (hb hby own_d10_25) rfl rfl ?_
  have Fc14 : Fld Z h1 a0 "com/example/fact4/fact4/model/AnswerRecord" "answerStyle" "Ljava/lang/String;" x7 := (Fld.ext E1 pre5)
  obtain ⟨T15, X15, e15, st15⟩ := getF X13 hx hZ hown (host := "") (Or.inl (hw _ (List.mem_of_getElem? (i := 62) rfl))) Via.refl e13 Fc14 (g := (mkF m 26 #[.val (.ref a0), .val (.int p1)] [(.ref a0), x6, x5, (.int p1), x3, x2, x1, (.ref b1), (.ref b1)])) rfl rfl (hb hby own_d10_26)
  refine og_of st15 ?_
  show OG p e below _ _ (T15.setTop (mkF m 29 #[.val (.ref a0), .val (.int p1)] [x7, x6, x5, (.int p1), x3, x2, x1, (.ref b1), (.ref b1)]))
  refine o_aloadN X15 hx rfl (hb hby own_d10_29) rfl rfl ?_
  have Fc16 : Fld Z h1 a0 "com/example/fact4/fact4/model/AnswerRecord" "knowledgeType" "Ljava/lang/String;" x8 := (Fld.ext E1 pre6)
  obtain ⟨T17, X17, e17, st17⟩ := getF X15 hx hZ hown (host := "") (Or.inl (hw _ (List.mem_of_getElem? (i := 64) rfl))) Via.refl e15 Fc16 (g := (mkF m 30 #[.val (.ref a0), .val (.int p1)] [(.ref a0), x7, x6, x5, (.int p1), x3, x2, x1, (.ref b1), (.ref b1)])) rfl rfl (hb hby own_d10_30)
  refine og_of st17 ?_
  show OG p e below _ _ (T17.setTop (mkF m 33 #[.val (.ref a0), .val (.int p1)] [x8, x7, x6, x5, (.int p1), x3, x2, x1, (.ref b1), (.ref b1)]))
  refine o_aloadN X17 hx rfl (hb hby own_d10_33) rfl rfl ?_
  have Fc18 : Fld Z h1 a0 "com/example/fact4/fact4/model/AnswerRecord" "questionId" "Ljava/lang/String;" x9 := (Fld.ext E1 pre7)
  obtain ⟨T19, X19, e19, st19⟩ := getF X17 hx hZ hown (host := "") (Or.inl (hw _ (List.mem_of_getElem? (i := 66) rfl))) Via.refl e17 Fc18 (g := (mkF m 34 #[.val (.ref a0), .val (.int p1)] [(.ref a0), x8, x7, x6, x5, (.int p1), x3, x2, x1, (.ref b1), (.ref b1)])) rfl rfl (hb hby own_d10_34)
  refine og_of st19 ?_
  show OG p e below _ _ (T19.setTop (mkF m 37 #[.val (.ref a0), .val (.int p1)] [x9, x8, x7, x6, x5, (.int p1), x3, x2, x1, (.ref b1), (.ref b1)]))
  refine o_aloadN X19 hx rfl (hb hby own_d10_37) rfl rfl ?_
  have Fc20 : Fld Z h1 a0 "com/example/fact4/fact4/model/AnswerRecord" "anscolumnId" "Ljava/lang/String;" (.ref a10) := (Fld.ext E1 pre9)
  obtain ⟨T21, X21, e21, st21⟩ := getF X19 hx hZ hown (host := "") (Or.inl (hw _ (List.mem_of_getElem? (i := 68) rfl))) Via.refl e19 Fc20 (g := (mkF m 38 #[.val (.ref a0), .val (.int p1)] [(.ref a0), x9, x8, x7, x6, x5, (.int p1), x3, x2, x1, (.ref b1), (.ref b1)])) rfl rfl (hb hby own_d10_38)
  refine og_of st21 ?_
  show OG p e below _ _ (T21.setTop (mkF m 41 #[.val (.ref a0), .val (.int p1)] [(.ref a10), x9, x8, x7, x6, x5, (.int p1), x3, x2, x1, (.ref b1), (.ref b1)]))
  have zz23 := (Nat.le_trans Z0 E1.1)
  have zz24 := (Nat.le_trans (Nat.le_refl h0.size) E1.1)
  obtain ⟨_, _, ⟨T22, L22, k22, n22⟩, -, X22, hS22', hg22', ⟨Lc22, hQ22, l22, y22, z22⟩, st22⟩ := X21.specialBackS hx (y := (⟨"com/example/fact4/fact4/model/AnswerRecord", "<init>", "(Ljava/lang/String;Ljava/lang/String;Ljava/lang/String;ILjava/lang/Integer;Ljava/lang/String;Ljava/lang/String;Ljava/lang/String;Ljava/lang/String;Ljava/lang/String;)V"⟩ : MethodName)) rfl hown (mvT hZ (hw _ (List.mem_of_getElem? (i := 76) rfl))) (mvT hZ (hw _ (List.mem_of_getElem? (i := 35) rfl))) (mvT hZ (hw _ (List.mem_of_getElem? (i := 36) rfl))) (by decide) (backOfS (W := 1) (own_rm7 l Z aA hw [] b1 x1 x2 x3 p1 x5 x6 x7 x8 x9 a10 h1 n0 zz23 A1 gn1 F1_51 F1_53 F1_55 F1_57 F1_59 F1_61 F1_63 F1_65 F1_67 F1_69 pre10 pre11 pre12 pre13 pre14 pre15 pre16 pre17) hZ (hw _ (List.mem_of_getElem? (i := 36) rfl)) (hw _ (List.mem_of_getElem? (i := 33) rfl)) (by decide) (by decide)) (g := (mkF m 41 #[.val (.ref a0), .val (.int p1)] [(.ref a10), x9, x8, x7, x6, x5, (.int p1), x3, x2, x1, (.ref b1), (.ref b1)])) rfl (by rw [hml]; rfl) (Steps.refl _) (a := b1) (argsL := [x1, x2, x3, (.int p1), x5, x6, x7, x8, x9, (.ref a10)]) (rest := [(.ref b1)]) (lenOf own_pd7 rfl) rfl (by show 2 * 0 + _ ≤ _; exact Nat.le_of_eq rfl) (hb hby own_d10_41) (fun _ _ => ⟨rfl, e21, (by dsimp only [Pt.cells, Pt.slots]; decide +kernel), (by dsimp only [Pt.cells, Pt.slots]; decide +kernel)⟩)
  dsimp only [Pt.U, Pt.locs, Pt.cells, Pt.slots] at X22 l22 y22 z22 st22 hQ22 hS22' hg22'
  rw [l22, y22, z22] at X22
  obtain ⟨X22, hS22, hZ, hown⟩ := rebS hS0 (Nat.le_trans zz24 (Nat.le_of_eq (congrArg Array.size e21.symm))) X22 hS22' hg22' hZ hown
  obtain ⟨rfl, N22q, K22, f22_0, f22_1, f22_2, f22_3, f22_4, f22_5, f22_6, f22_7, f22_8, f22_9⟩ := hQ22
  have N25 := Fr.app N0 N22q
  have Kp26 : Keep h0 T22.heap [] := Kp3.trans K22 (allS (Or.inr sz1) all0)
  refine og_tr st22 ?_
  show OG p e below _ _ (T22.setTop (mkF m 44 #[.val (.ref a0), .val (.int p1)] [(.ref b1)]))
  have Fc27 : Exa Z T22.heap b1 "com/example/fact4/fact4/model/AnswerRecord" := (A1.keep K22)
  exact o_retA X22 hx Bd.returns rfl (own_lvW X22 hlk hS22 (by exact (Nat.le_refl _)) (by decide +kernel) (by decide +kernel)) (hb hby own_d10_44) rfl rfl ⟨b1, rfl, N25, (Kp26), sz1, Fc27, f22_0, f22_1, f22_2, f22_3, f22_4, f22_5, f22_6, f22_7, f22_8, f22_9⟩
theorem own_d11_0 : decode prog_25_method_10_code 0 = .ok (.aload_n 0, 1) := by decide +kernel
theorem own_d11_1 : decode prog_25_method_10_code 1 = .ok (.getfield 27, 3) := by decide +kernel
theorem own_d11_4 : decode prog_25_method_10_code 4 = .ok (.ireturn, 1) := by decide +kernel
theorem own_ef11 (m : MethodId) (a0 : Addr) : entryFrame m #[(.ref a0)] 1 = mkF m 0 #[.val (.ref a0)] [] := by first | (simp [entryFrame, mkF, argsToLocals, Value.category]; done) | rfl
def own_Q11 (Z : State) (a0 : Addr) (w0 : Int32) (h0 : Heap) (n0 : Nat) (v : Option Value) (h : Heap) (L : List Loc) : Prop := v = some (.int w0) ∧ Fr n0 L ∧ h = h0
set_option maxRecDepth 65536 in
set_option maxHeartbeats 40000000 in
theorem own_rm11 (l : Launch) (Z : State) (aA : Array Value) (hw : ∀ d ∈ tables_1, d.before aA Z = true) (ws : List Jvm.Cond) (a0 : Addr) (w0 : Int32) (h0 : Heap) (n0 : Nat) (Z0 : n0 ≤ h0.size) (pre0 : Fld Z h0 a0 "com/example/fact4/fact4/model/AnswerRecord" "answer" "I" (.int w0)) :
    MetFree l (⟨"com/example/fact4/fact4/model/AnswerRecord", "answer", "()I"⟩ : MethodName) (head1 (Jvm.Cond.code (⟨"com/example/fact4/fact4/model/AnswerRecord", "answer", "()I"⟩ : MethodName) prog_25_method_10_code 1 (some .int) :: ws) ({ frames := 0, cells := 0, slots := 0, locals := 0 } : Room)) (fun a U => a = #[(.ref a0)] ∧ Z.Warmed39 U.vm ∧ U.heap = h0) (fun _ _ _ _ _ => True) (fun _ U o U' => ∃ v L, o = .returned v ∧ own_Q11 Z a0 w0 h0 n0 v U'.heap L ∧ FrameEnd U o U' L ({ frames := 0, cells := 0, slots := 0, locals := 0 } : Room).cells ({ frames := 0, cells := 0, slots := 0, locals := 0 } : Room).slots) := by
  refine MetFree.of_bodySF (plainFor_of_name own_pn131) hisR ?_
  intro p e s m args below meth c s₁ Bd hml0 hP hK
  obtain ⟨rfl, hZ, hh⟩ := hP
  have hx := Bd.exec
  have hby := Bd.bytes
  have hlk : meth.locks = false := Bd.notSynchronized
  have hml : c.maxLocals = 1 := hml0
  have hown : s.vm.findClass "com/example/fact4/fact4/model/AnswerRecord" = some m.cls := findClass_of_methodNamed Bd.named
  have hnm := (name_of_methodNamed Bd.named Bd.method).1
  have X0 : Stand p l e ({ frames := 0, cells := 0, slots := 0, locals := 0 } : Room) s m #[(.ref a0)] below meth c s₁ [] 0 0 := Stand.of_body Bd
  have e0 : s₁.heap = h0 := by rw [← hh, Bd.state]; rfl
  have N0 := Fr.nil n0
  show OG p e below (FE s ({ frames := 0, cells := 0, slots := 0, locals := 0 } : Room).cells ({ frames := 0, cells := 0, slots := 0, locals := 0 } : Room).slots) (own_Q11 Z a0 w0 h0 n0) (s₁.setTop (entryFrame m #[(.ref a0)] 1))
  refine og_of (fun _ k => castTop (own_ef11 m a0) k) ?_
  refine o_aloadN X0 hx rfl (hb hby own_d11_0) rfl rfl ?_
  obtain ⟨T1, X1, e1, st1⟩ := getF X0 hx hZ hown (host := "") (Or.inl (hw _ (List.mem_of_getElem? (i := 56) rfl))) Via.refl e0 pre0 (g := (mkF m 1 #[.val (.ref a0)] [(.ref a0)])) rfl rfl (hb hby own_d11_1)
  refine og_of st1 ?_
  show OG p e below _ _ (T1.setTop (mkF m 4 #[.val (.ref a0)] [(.int w0)]))
  exact o_retI X1 hx Bd.returns (own_lv X1 hlk (by decide +kernel) (by decide +kernel)) (hb hby own_d11_4) ⟨rfl, N0, e1⟩
theorem own_d12_0 : decode prog_25_method_7_code 0 = .ok (.aload_n 0, 1) := by decide +kernel
theorem own_d12_1 : decode prog_25_method_7_code 1 = .ok (.getfield 15, 3) := by decide +kernel
theorem own_d12_4 : decode prog_25_method_7_code 4 = .ok (.areturn, 1) := by decide +kernel
theorem own_ef12 (m : MethodId) (a0 : Addr) : entryFrame m #[(.ref a0)] 1 = mkF m 0 #[.val (.ref a0)] [] := by first | (simp [entryFrame, mkF, argsToLocals, Value.category]; done) | rfl
def own_Q12 (Z : State) (a0 : Addr) (x : Value) (h0 : Heap) (n0 : Nat) (v : Option Value) (h : Heap) (L : List Loc) : Prop := v = some x ∧ Fr n0 L ∧ h = h0
set_option maxRecDepth 65536 in
set_option maxHeartbeats 40000000 in
theorem own_rm12 (l : Launch) (Z : State) (aA : Array Value) (hw : ∀ d ∈ tables_1, d.before aA Z = true) (ws : List Jvm.Cond) (a0 : Addr) (x : Value) (h0 : Heap) (n0 : Nat) (Z0 : n0 ≤ h0.size) (pre0 : Fld Z h0 a0 "com/example/fact4/fact4/model/AnswerRecord" "section" "Ljava/lang/String;" x) (pre1 : x.isRef = true) :
    MetFree l (⟨"com/example/fact4/fact4/model/AnswerRecord", "section", "()Ljava/lang/String;"⟩ : MethodName) (head1 (Jvm.Cond.code (⟨"com/example/fact4/fact4/model/AnswerRecord", "section", "()Ljava/lang/String;"⟩ : MethodName) prog_25_method_7_code 1 (some (.object "java/lang/String")) :: ws) ({ frames := 0, cells := 0, slots := 0, locals := 0 } : Room)) (fun a U => a = #[(.ref a0)] ∧ Z.Warmed39 U.vm ∧ U.heap = h0) (fun _ _ _ _ _ => True) (fun _ U o U' => ∃ v L, o = .returned v ∧ own_Q12 Z a0 x h0 n0 v U'.heap L ∧ FrameEnd U o U' L ({ frames := 0, cells := 0, slots := 0, locals := 0 } : Room).cells ({ frames := 0, cells := 0, slots := 0, locals := 0 } : Room).slots) := by
  refine MetFree.of_bodySF (plainFor_of_name own_pn131) hisR ?_
  intro p e s m args below meth c s₁ Bd hml0 hP hK
  obtain ⟨rfl, hZ, hh⟩ := hP
  have hx := Bd.exec
  have hby := Bd.bytes
  have hlk : meth.locks = false := Bd.notSynchronized
  have hml : c.maxLocals = 1 := hml0
  have hown : s.vm.findClass "com/example/fact4/fact4/model/AnswerRecord" = some m.cls := findClass_of_methodNamed Bd.named
  have hnm := (name_of_methodNamed Bd.named Bd.method).1
  have X0 : Stand p l e ({ frames := 0, cells := 0, slots := 0, locals := 0 } : Room) s m #[(.ref a0)] below meth c s₁ [] 0 0 := Stand.of_body Bd
  have e0 : s₁.heap = h0 := by rw [← hh, Bd.state]; rfl
  have N0 := Fr.nil n0
  show OG p e below (FE s ({ frames := 0, cells := 0, slots := 0, locals := 0 } : Room).cells ({ frames := 0, cells := 0, slots := 0, locals := 0 } : Room).slots) (own_Q12 Z a0 x h0 n0) (s₁.setTop (entryFrame m #[(.ref a0)] 1))
  refine og_of (fun _ k => castTop (own_ef12 m a0) k) ?_
  refine o_aloadN X0 hx rfl (hb hby own_d12_0) rfl rfl ?_
  obtain ⟨T1, X1, e1, st1⟩ := getF X0 hx hZ hown (host := "") (Or.inl (hw _ (List.mem_of_getElem? (i := 50) rfl))) Via.refl e0 pre0 (g := (mkF m 1 #[.val (.ref a0)] [(.ref a0)])) rfl rfl (hb hby own_d12_1)
  refine og_of st1 ?_
  show OG p e below _ _ (T1.setTop (mkF m 4 #[.val (.ref a0)] [x]))
  exact o_retA X1 hx Bd.returns rfl (own_lv X1 hlk (by decide +kernel) (by decide +kernel)) (hb hby own_d12_4) pre1 (own_narR pre1 _) ⟨rfl, N0, e1⟩
theorem own_d14_0 : decode prog_25_method_8_code 0 = .ok (.aload_n 0, 1) := by decide +kernel
theorem own_d14_1 : decode prog_25_method_8_code 1 = .ok (.getfield 21, 3) := by decide +kernel
theorem own_d14_4 : decode prog_25_method_8_code 4 = .ok (.areturn, 1) := by decide +kernel
theorem own_ef14 (m : MethodId) (a0 : Addr) : entryFrame m #[(.ref a0)] 1 = mkF m 0 #[.val (.ref a0)] [] := by first | (simp [entryFrame, mkF, argsToLocals, Value.category]; done) | rfl
def own_Q14 (Z : State) (a0 : Addr) (x : Value) (h0 : Heap) (n0 : Nat) (v : Option Value) (h : Heap) (L : List Loc) : Prop := v = some x ∧ Fr n0 L ∧ h = h0
set_option maxRecDepth 65536 in
set_option maxHeartbeats 40000000 in
theorem own_rm14 (l : Launch) (Z : State) (aA : Array Value) (hw : ∀ d ∈ tables_1, d.before aA Z = true) (ws : List Jvm.Cond) (a0 : Addr) (x : Value) (h0 : Heap) (n0 : Nat) (Z0 : n0 ≤ h0.size) (pre0 : Fld Z h0 a0 "com/example/fact4/fact4/model/AnswerRecord" "question" "Ljava/lang/String;" x) (pre1 : x.isRef = true) :
    MetFree l (⟨"com/example/fact4/fact4/model/AnswerRecord", "question", "()Ljava/lang/String;"⟩ : MethodName) (head1 (Jvm.Cond.code (⟨"com/example/fact4/fact4/model/AnswerRecord", "question", "()Ljava/lang/String;"⟩ : MethodName) prog_25_method_8_code 1 (some (.object "java/lang/String")) :: ws) ({ frames := 0, cells := 0, slots := 0, locals := 0 } : Room)) (fun a U => a = #[(.ref a0)] ∧ Z.Warmed39 U.vm ∧ U.heap = h0) (fun _ _ _ _ _ => True) (fun _ U o U' => ∃ v L, o = .returned v ∧ own_Q14 Z a0 x h0 n0 v U'.heap L ∧ FrameEnd U o U' L ({ frames := 0, cells := 0, slots := 0, locals := 0 } : Room).cells ({ frames := 0, cells := 0, slots := 0, locals := 0 } : Room).slots) := by
  refine MetFree.of_bodySF (plainFor_of_name own_pn131) hisR ?_
  intro p e s m args below meth c s₁ Bd hml0 hP hK
  obtain ⟨rfl, hZ, hh⟩ := hP
  have hx := Bd.exec
  have hby := Bd.bytes
  have hlk : meth.locks = false := Bd.notSynchronized
  have hml : c.maxLocals = 1 := hml0
  have hown : s.vm.findClass "com/example/fact4/fact4/model/AnswerRecord" = some m.cls := findClass_of_methodNamed Bd.named
  have hnm := (name_of_methodNamed Bd.named Bd.method).1
  have X0 : Stand p l e ({ frames := 0, cells := 0, slots := 0, locals := 0 } : Room) s m #[(.ref a0)] below meth c s₁ [] 0 0 := Stand.of_body Bd
  have e0 : s₁.heap = h0 := by rw [← hh, Bd.state]; rfl
  have N0 := Fr.nil n0
  show OG p e below (FE s ({ frames := 0, cells := 0, slots := 0, locals := 0 } : Room).cells ({ frames := 0, cells := 0, slots := 0, locals := 0 } : Room).slots) (own_Q14 Z a0 x h0 n0) (s₁.setTop (entryFrame m #[(.ref a0)] 1))
  refine og_of (fun _ k => castTop (own_ef14 m a0) k) ?_
  refine o_aloadN X0 hx rfl (hb hby own_d14_0) rfl rfl ?_
  obtain ⟨T1, X1, e1, st1⟩ := getF X0 hx hZ hown (host := "") (Or.inl (hw _ (List.mem_of_getElem? (i := 52) rfl))) Via.refl e0 pre0 (g := (mkF m 1 #[.val (.ref a0)] [(.ref a0)])) rfl rfl (hb hby own_d14_1)
  refine og_of st1 ?_
  show OG p e below _ _ (T1.setTop (mkF m 4 #[.val (.ref a0)] [x]))
  exact o_retA X1 hx Bd.returns rfl (own_lv X1 hlk (by decide +kernel) (by decide +kernel)) (hb hby own_d14_4) pre1 (own_narR pre1 _) ⟨rfl, N0, e1⟩
theorem own_d15_0 : decode prog_25_method_9_code 0 = .ok (.aload_n 0, 1) := by decide +kernel
theorem own_d15_1 : decode prog_25_method_9_code 1 = .ok (.getfield 24, 3) := by decide +kernel
theorem own_d15_4 : decode prog_25_method_9_code 4 = .ok (.areturn, 1) := by decide +kernel
theorem own_ef15 (m : MethodId) (a0 : Addr) : entryFrame m #[(.ref a0)] 1 = mkF m 0 #[.val (.ref a0)] [] := by first | (simp [entryFrame, mkF, argsToLocals, Value.category]; done) | rfl
def own_Q15 (Z : State) (a0 : Addr) (x : Value) (h0 : Heap) (n0 : Nat) (v : Option Value) (h : Heap) (L : List Loc) : Prop := v = some x ∧ Fr n0 L ∧ h = h0
set_option maxRecDepth 65536 in
set_option maxHeartbeats 40000000 in
theorem own_rm15 (l : Launch) (Z : State) (aA : Array Value) (hw : ∀ d ∈ tables_1, d.before aA Z = true) (ws : List Jvm.Cond) (a0 : Addr) (x : Value) (h0 : Heap) (n0 : Nat) (Z0 : n0 ≤ h0.size) (pre0 : Fld Z h0 a0 "com/example/fact4/fact4/model/AnswerRecord" "answerColumn" "Ljava/lang/String;" x) (pre1 : x.isRef = true) :
    MetFree l (⟨"com/example/fact4/fact4/model/AnswerRecord", "answerColumn", "()Ljava/lang/String;"⟩ : MethodName) (head1 (Jvm.Cond.code (⟨"com/example/fact4/fact4/model/AnswerRecord", "answerColumn", "()Ljava/lang/String;"⟩ : MethodName) prog_25_method_9_code 1 (some (.object "java/lang/String")) :: ws) ({ frames := 0, cells := 0, slots := 0, locals := 0 } : Room)) (fun a U => a = #[(.ref a0)] ∧ Z.Warmed39 U.vm ∧ U.heap = h0) (fun _ _ _ _ _ => True) (fun _ U o U' => ∃ v L, o = .returned v ∧ own_Q15 Z a0 x h0 n0 v U'.heap L ∧ FrameEnd U o U' L ({ frames := 0, cells := 0, slots := 0, locals := 0 } : Room).cells ({ frames := 0, cells := 0, slots := 0, locals := 0 } : Room).slots) := by
  refine MetFree.of_bodySF (plainFor_of_name own_pn131) hisR ?_
  intro p e s m args below meth c s₁ Bd hml0 hP hK
  obtain ⟨rfl, hZ, hh⟩ := hP
  have hx := Bd.exec
  have hby := Bd.bytes
  have hlk : meth.locks = false := Bd.notSynchronized
  have hml : c.maxLocals = 1 := hml0
  have hown : s.vm.findClass "com/example/fact4/fact4/model/AnswerRecord" = some m.cls := findClass_of_methodNamed Bd.named
  have hnm := (name_of_methodNamed Bd.named Bd.method).1
  have X0 : Stand p l e ({ frames := 0, cells := 0, slots := 0, locals := 0 } : Room) s m #[(.ref a0)] below meth c s₁ [] 0 0 := Stand.of_body Bd
  have e0 : s₁.heap = h0 := by rw [← hh, Bd.state]; rfl
  have N0 := Fr.nil n0
  show OG p e below (FE s ({ frames := 0, cells := 0, slots := 0, locals := 0 } : Room).cells ({ frames := 0, cells := 0, slots := 0, locals := 0 } : Room).slots) (own_Q15 Z a0 x h0 n0) (s₁.setTop (entryFrame m #[(.ref a0)] 1))
  refine og_of (fun _ k => castTop (own_ef15 m a0) k) ?_
  refine o_aloadN X0 hx rfl (hb hby own_d15_0) rfl rfl ?_
  obtain ⟨T1, X1, e1, st1⟩ := getF X0 hx hZ hown (host := "") (Or.inl (hw _ (List.mem_of_getElem? (i := 54) rfl))) Via.refl e0 pre0 (g := (mkF m 1 #[.val (.ref a0)] [(.ref a0)])) rfl rfl (hb hby own_d15_1)
  refine og_of st1 ?_
  show OG p e below _ _ (T1.setTop (mkF m 4 #[.val (.ref a0)] [x]))
  exact o_retA X1 hx Bd.returns rfl (own_lv X1 hlk (by decide +kernel) (by decide +kernel)) (hb hby own_d15_4) pre1 (own_narR pre1 _) ⟨rfl, N0, e1⟩
theorem own_d22_0 : decode prog_25_method_11_code 0 = .ok (.aload_n 0, 1) := by decide +kernel
theorem own_d22_1 : decode prog_25_method_11_code 1 = .ok (.getfield 31, 3) := by decide +kernel
theorem own_d22_4 : decode prog_25_method_11_code 4 = .ok (.areturn, 1) := by decide +kernel
theorem own_ef22 (m : MethodId) (a0 : Addr) : entryFrame m #[(.ref a0)] 1 = mkF m 0 #[.val (.ref a0)] [] := by first | (simp [entryFrame, mkF, argsToLocals, Value.category]; done) | rfl
def own_Q22 (Z : State) (a0 : Addr) (x : Value) (h0 : Heap) (n0 : Nat) (v : Option Value) (h : Heap) (L : List Loc) : Prop := v = some x ∧ Fr n0 L ∧ h = h0
set_option maxRecDepth 65536 in
set_option maxHeartbeats 40000000 in
theorem own_rm22 (l : Launch) (Z : State) (aA : Array Value) (hw : ∀ d ∈ tables_1, d.before aA Z = true) (ws : List Jvm.Cond) (a0 : Addr) (x : Value) (h0 : Heap) (n0 : Nat) (Z0 : n0 ≤ h0.size) (pre0 : Fld Z h0 a0 "com/example/fact4/fact4/model/AnswerRecord" "score" "Ljava/lang/Integer;" x) (pre1 : x.isRef = true) :
    MetFree l (⟨"com/example/fact4/fact4/model/AnswerRecord", "score", "()Ljava/lang/Integer;"⟩ : MethodName) (head1 (Jvm.Cond.code (⟨"com/example/fact4/fact4/model/AnswerRecord", "score", "()Ljava/lang/Integer;"⟩ : MethodName) prog_25_method_11_code 1 (some (.object "java/lang/Integer")) :: ws) ({ frames := 0, cells := 0, slots := 0, locals := 0 } : Room)) (fun a U => a = #[(.ref a0)] ∧ Z.Warmed39 U.vm ∧ U.heap = h0) (fun _ _ _ _ _ => True) (fun _ U o U' => ∃ v L, o = .returned v ∧ own_Q22 Z a0 x h0 n0 v U'.heap L ∧ FrameEnd U o U' L ({ frames := 0, cells := 0, slots := 0, locals := 0 } : Room).cells ({ frames := 0, cells := 0, slots := 0, locals := 0 } : Room).slots) := by
  refine MetFree.of_bodySF (plainFor_of_name own_pn131) hisR ?_
  intro p e s m args below meth c s₁ Bd hml0 hP hK
  obtain ⟨rfl, hZ, hh⟩ := hP
  have hx := Bd.exec
  have hby := Bd.bytes
  have hlk : meth.locks = false := Bd.notSynchronized
  have hml : c.maxLocals = 1 := hml0
  have hown : s.vm.findClass "com/example/fact4/fact4/model/AnswerRecord" = some m.cls := findClass_of_methodNamed Bd.named
  have hnm := (name_of_methodNamed Bd.named Bd.method).1
  have X0 : Stand p l e ({ frames := 0, cells := 0, slots := 0, locals := 0 } : Room) s m #[(.ref a0)] below meth c s₁ [] 0 0 := Stand.of_body Bd
  have e0 : s₁.heap = h0 := by rw [← hh, Bd.state]; rfl
  have N0 := Fr.nil n0
  show OG p e below (FE s ({ frames := 0, cells := 0, slots := 0, locals := 0 } : Room).cells ({ frames := 0, cells := 0, slots := 0, locals := 0 } : Room).slots) (own_Q22 Z a0 x h0 n0) (s₁.setTop (entryFrame m #[(.ref a0)] 1))
  refine og_of (fun _ k => castTop (own_ef22 m a0) k) ?_
  refine o_aloadN X0 hx rfl (hb hby own_d22_0) rfl rfl ?_
  obtain ⟨T1, X1, e1, st1⟩ := getF X0 hx hZ hown (host := "") (Or.inl (hw _ (List.mem_of_getElem? (i := 58) rfl))) Via.refl e0 pre0 (g := (mkF m 1 #[.val (.ref a0)] [(.ref a0)])) rfl rfl (hb hby own_d22_1)
  refine og_of st1 ?_
  show OG p e below _ _ (T1.setTop (mkF m 4 #[.val (.ref a0)] [x]))
  exact o_retA X1 hx Bd.returns rfl (own_lv X1 hlk (by decide +kernel) (by decide +kernel)) (hb hby own_d22_4) pre1 (own_narR pre1 _) ⟨rfl, N0, e1⟩
theorem own_d16_0 : decode prog_25_method_12_code 0 = .ok (.aload_n 0, 1) := by decide +kernel
theorem own_d16_1 : decode prog_25_method_12_code 1 = .ok (.getfield 35, 3) := by decide +kernel
theorem own_d16_4 : decode prog_25_method_12_code 4 = .ok (.areturn, 1) := by decide +kernel
theorem own_ef16 (m : MethodId) (a0 : Addr) : entryFrame m #[(.ref a0)] 1 = mkF m 0 #[.val (.ref a0)] [] := by first | (simp [entryFrame, mkF, argsToLocals, Value.category]; done) | rfl
def own_Q16 (Z : State) (a0 : Addr) (x : Value) (h0 : Heap) (n0 : Nat) (v : Option Value) (h : Heap) (L : List Loc) : Prop := v = some x ∧ Fr n0 L ∧ h = h0
set_option maxRecDepth 65536 in
set_option maxHeartbeats 40000000 in
theorem own_rm16 (l : Launch) (Z : State) (aA : Array Value) (hw : ∀ d ∈ tables_1, d.before aA Z = true) (ws : List Jvm.Cond) (a0 : Addr) (x : Value) (h0 : Heap) (n0 : Nat) (Z0 : n0 ≤ h0.size) (pre0 : Fld Z h0 a0 "com/example/fact4/fact4/model/AnswerRecord" "answerType" "Ljava/lang/String;" x) (pre1 : x.isRef = true) :
    MetFree l (⟨"com/example/fact4/fact4/model/AnswerRecord", "answerType", "()Ljava/lang/String;"⟩ : MethodName) (head1 (Jvm.Cond.code (⟨"com/example/fact4/fact4/model/AnswerRecord", "answerType", "()Ljava/lang/String;"⟩ : MethodName) prog_25_method_12_code 1 (some (.object "java/lang/String")) :: ws) ({ frames := 0, cells := 0, slots := 0, locals := 0 } : Room)) (fun a U => a = #[(.ref a0)] ∧ Z.Warmed39 U.vm ∧ U.heap = h0) (fun _ _ _ _ _ => True) (fun _ U o U' => ∃ v L, o = .returned v ∧ own_Q16 Z a0 x h0 n0 v U'.heap L ∧ FrameEnd U o U' L ({ frames := 0, cells := 0, slots := 0, locals := 0 } : Room).cells ({ frames := 0, cells := 0, slots := 0, locals := 0 } : Room).slots) := by
  refine MetFree.of_bodySF (plainFor_of_name own_pn131) hisR ?_
  intro p e s m args below meth c s₁ Bd hml0 hP hK
  obtain ⟨rfl, hZ, hh⟩ := hP
  have hx := Bd.exec
  have hby := Bd.bytes
  have hlk : meth.locks = false := Bd.notSynchronized
  have hml : c.maxLocals = 1 := hml0
  have hown : s.vm.findClass "com/example/fact4/fact4/model/AnswerRecord" = some m.cls := findClass_of_methodNamed Bd.named
  have hnm := (name_of_methodNamed Bd.named Bd.method).1
  have X0 : Stand p l e ({ frames := 0, cells := 0, slots := 0, locals := 0 } : Room) s m #[(.ref a0)] below meth c s₁ [] 0 0 := Stand.of_body Bd
  have e0 : s₁.heap = h0 := by rw [← hh, Bd.state]; rfl
  have N0 := Fr.nil n0
  show OG p e below (FE s ({ frames := 0, cells := 0, slots := 0, locals := 0 } : Room).cells ({ frames := 0, cells := 0, slots := 0, locals := 0 } : Room).slots) (own_Q16 Z a0 x h0 n0) (s₁.setTop (entryFrame m #[(.ref a0)] 1))
  refine og_of (fun _ k => castTop (own_ef16 m a0) k) ?_
  refine o_aloadN X0 hx rfl (hb hby own_d16_0) rfl rfl ?_
  obtain ⟨T1, X1, e1, st1⟩ := getF X0 hx hZ hown (host := "") (Or.inl (hw _ (List.mem_of_getElem? (i := 60) rfl))) Via.refl e0 pre0 (g := (mkF m 1 #[.val (.ref a0)] [(.ref a0)])) rfl rfl (hb hby own_d16_1)
  refine og_of st1 ?_
  show OG p e below _ _ (T1.setTop (mkF m 4 #[.val (.ref a0)] [x]))
  exact o_retA X1 hx Bd.returns rfl (own_lv X1 hlk (by decide +kernel) (by decide +kernel)) (hb hby own_d16_4) pre1 (own_narR pre1 _) ⟨rfl, N0, e1⟩
theorem own_d17_0 : decode prog_25_method_13_code 0 = .ok (.aload_n 0, 1) := by decide +kernel
theorem own_d17_1 : decode prog_25_method_13_code 1 = .ok (.getfield 38, 3) := by decide +kernel
theorem own_d17_4 : decode prog_25_method_13_code 4 = .ok (.areturn, 1) := by decide +kernel
theorem own_ef17 (m : MethodId) (a0 : Addr) : entryFrame m #[(.ref a0)] 1 = mkF m 0 #[.val (.ref a0)] [] := by first | (simp [entryFrame, mkF, argsToLocals, Value.category]; done) | rfl
def own_Q17 (Z : State) (a0 : Addr) (x : Value) (h0 : Heap) (n0 : Nat) (v : Option Value) (h : Heap) (L : List Loc) : Prop := v = some x ∧ Fr n0 L ∧ h = h0
set_option maxRecDepth 65536 in
set_option maxHeartbeats 40000000 in
theorem own_rm17 (l : Launch) (Z : State) (aA : Array Value) (hw : ∀ d ∈ tables_1, d.before aA Z = true) (ws : List Jvm.Cond) (a0 : Addr) (x : Value) (h0 : Heap) (n0 : Nat) (Z0 : n0 ≤ h0.size) (pre0 : Fld Z h0 a0 "com/example/fact4/fact4/model/AnswerRecord" "answerStyle" "Ljava/lang/String;" x) (pre1 : x.isRef = true) :
    MetFree l (⟨"com/example/fact4/fact4/model/AnswerRecord", "answerStyle", "()Ljava/lang/String;"⟩ : MethodName) (head1 (Jvm.Cond.code (⟨"com/example/fact4/fact4/model/AnswerRecord", "answerStyle", "()Ljava/lang/String;"⟩ : MethodName) prog_25_method_13_code 1 (some (.object "java/lang/String")) :: ws) ({ frames := 0, cells := 0, slots := 0, locals := 0 } : Room)) (fun a U => a = #[(.ref a0)] ∧ Z.Warmed39 U.vm ∧ U.heap = h0) (fun _ _ _ _ _ => True) (fun _ U o U' => ∃ v L, o = .returned v ∧ own_Q17 Z a0 x h0 n0 v U'.heap L ∧ FrameEnd U o U' L ({ frames := 0, cells := 0, slots := 0, locals := 0 } : Room).cells ({ frames := 0, cells := 0, slots := 0, locals := 0 } : Room).slots) := by
  refine MetFree.of_bodySF (plainFor_of_name own_pn131) hisR ?_
  intro p e s m args below meth c s₁ Bd hml0 hP hK
  obtain ⟨rfl, hZ, hh⟩ := hP
  have hx := Bd.exec
  have hby := Bd.bytes
  have hlk : meth.locks = false := Bd.notSynchronized
  have hml : c.maxLocals = 1 := hml0
  have hown : s.vm.findClass "com/example/fact4/fact4/model/AnswerRecord" = some m.cls := findClass_of_methodNamed Bd.named
  have hnm := (name_of_methodNamed Bd.named Bd.method).1
  have X0 : Stand p l e ({ frames := 0, cells := 0, slots := 0, locals := 0 } : Room) s m #[(.ref a0)] below meth c s₁ [] 0 0 := Stand.of_body Bd
  have e0 : s₁.heap = h0 := by rw [← hh, Bd.state]; rfl
  have N0 := Fr.nil n0
  show OG p e below (FE s ({ frames := 0, cells := 0, slots := 0, locals := 0 } : Room).cells ({ frames := 0, cells := 0, slots := 0, locals := 0 } : Room).slots) (own_Q17 Z a0 x h0 n0) (s₁.setTop (entryFrame m #[(.ref a0)] 1))
  refine og_of (fun _ k => castTop (own_ef17 m a0) k) ?_
  refine o_aloadN X0 hx rfl (hb hby own_d17_0) rfl rfl ?_
  obtain ⟨T1, X1, e1, st1⟩ := getF X0 hx hZ hown (host := "") (Or.inl (hw _ (List.mem_of_getElem? (i := 62) rfl))) Via.refl e0 pre0 (g := (mkF m 1 #[.val (.ref a0)] [(.ref a0)])) rfl rfl (hb hby own_d17_1)
  refine og_of st1 ?_
  show OG p e below _ _ (T1.setTop (mkF m 4 #[.val (.ref a0)] [x]))
  exact o_retA X1 hx Bd.returns rfl (own_lv X1 hlk (by decide +kernel) (by decide +kernel)) (hb hby own_d17_4) pre1 (own_narR pre1 _) ⟨rfl, N0, e1⟩
theorem own_d18_0 : decode prog_25_method_14_code 0 = .ok (.aload_n 0, 1) := by decide +kernel
theorem own_d18_1 : decode prog_25_method_14_code 1 = .ok (.getfield 41, 3) := by decide +kernel
theorem own_d18_4 : decode prog_25_method_14_code 4 = .ok (.areturn, 1) := by decide +kernel
theorem own_ef18 (m : MethodId) (a0 : Addr) : entryFrame m #[(.ref a0)] 1 = mkF m 0 #[.val (.ref a0)] [] := by first | (simp [entryFrame, mkF, argsToLocals, Value.category]; done) | rfl
def own_Q18 (Z : State) (a0 : Addr) (x : Value) (h0 : Heap) (n0 : Nat) (v : Option Value) (h : Heap) (L : List Loc) : Prop := v = some x ∧ Fr n0 L ∧ h = h0
set_option maxRecDepth 65536 in
set_option maxHeartbeats 40000000 in
theorem own_rm18 (l : Launch) (Z : State) (aA : Array Value) (hw : ∀ d ∈ tables_1, d.before aA Z = true) (ws : List Jvm.Cond) (a0 : Addr) (x : Value) (h0 : Heap) (n0 : Nat) (Z0 : n0 ≤ h0.size) (pre0 : Fld Z h0 a0 "com/example/fact4/fact4/model/AnswerRecord" "knowledgeType" "Ljava/lang/String;" x) (pre1 : x.isRef = true) :
    MetFree l (⟨"com/example/fact4/fact4/model/AnswerRecord", "knowledgeType", "()Ljava/lang/String;"⟩ : MethodName) (head1 (Jvm.Cond.code (⟨"com/example/fact4/fact4/model/AnswerRecord", "knowledgeType", "()Ljava/lang/String;"⟩ : MethodName) prog_25_method_14_code 1 (some (.object "java/lang/String")) :: ws) ({ frames := 0, cells := 0, slots := 0, locals := 0 } : Room)) (fun a U => a = #[(.ref a0)] ∧ Z.Warmed39 U.vm ∧ U.heap = h0) (fun _ _ _ _ _ => True) (fun _ U o U' => ∃ v L, o = .returned v ∧ own_Q18 Z a0 x h0 n0 v U'.heap L ∧ FrameEnd U o U' L ({ frames := 0, cells := 0, slots := 0, locals := 0 } : Room).cells ({ frames := 0, cells := 0, slots := 0, locals := 0 } : Room).slots) := by
  refine MetFree.of_bodySF (plainFor_of_name own_pn131) hisR ?_
  intro p e s m args below meth c s₁ Bd hml0 hP hK
  obtain ⟨rfl, hZ, hh⟩ := hP
  have hx := Bd.exec
  have hby := Bd.bytes
  have hlk : meth.locks = false := Bd.notSynchronized
  have hml : c.maxLocals = 1 := hml0
  have hown : s.vm.findClass "com/example/fact4/fact4/model/AnswerRecord" = some m.cls := findClass_of_methodNamed Bd.named
  have hnm := (name_of_methodNamed Bd.named Bd.method).1
  have X0 : Stand p l e ({ frames := 0, cells := 0, slots := 0, locals := 0 } : Room) s m #[(.ref a0)] below meth c s₁ [] 0 0 := Stand.of_body Bd
  have e0 : s₁.heap = h0 := by rw [← hh, Bd.state]; rfl
  have N0 := Fr.nil n0
  show OG p e below (FE s ({ frames := 0, cells := 0, slots := 0, locals := 0 } : Room).cells ({ frames := 0, cells := 0, slots := 0, locals := 0 } : Room).slots) (own_Q18 Z a0 x h0 n0) (s₁.setTop (entryFrame m #[(.ref a0)] 1))
  refine og_of (fun _ k => castTop (own_ef18 m a0) k) ?_
  refine o_aloadN X0 hx rfl (hb hby own_d18_0) rfl rfl ?_
  obtain ⟨T1, X1, e1, st1⟩ := getF X0 hx hZ hown (host := "") (Or.inl (hw _ (List.mem_of_getElem? (i := 64) rfl))) Via.refl e0 pre0 (g := (mkF m 1 #[.val (.ref a0)] [(.ref a0)])) rfl rfl (hb hby own_d18_1)
  refine og_of st1 ?_
  show OG p e below _ _ (T1.setTop (mkF m 4 #[.val (.ref a0)] [x]))
  exact o_retA X1 hx Bd.returns rfl (own_lv X1 hlk (by decide +kernel) (by decide +kernel)) (hb hby own_d18_4) pre1 (own_narR pre1 _) ⟨rfl, N0, e1⟩
theorem own_d19_0 : decode prog_25_method_15_code 0 = .ok (.aload_n 0, 1) := by decide +kernel
theorem own_d19_1 : decode prog_25_method_15_code 1 = .ok (.getfield 44, 3) := by decide +kernel
theorem own_d19_4 : decode prog_25_method_15_code 4 = .ok (.areturn, 1) := by decide +kernel
theorem own_ef19 (m : MethodId) (a0 : Addr) : entryFrame m #[(.ref a0)] 1 = mkF m 0 #[.val (.ref a0)] [] := by first | (simp [entryFrame, mkF, argsToLocals, Value.category]; done) | rfl
def own_Q19 (Z : State) (a0 : Addr) (x : Value) (h0 : Heap) (n0 : Nat) (v : Option Value) (h : Heap) (L : List Loc) : Prop := v = some x ∧ Fr n0 L ∧ h = h0
set_option maxRecDepth 65536 in
set_option maxHeartbeats 40000000 in
theorem own_rm19 (l : Launch) (Z : State) (aA : Array Value) (hw : ∀ d ∈ tables_1, d.before aA Z = true) (ws : List Jvm.Cond) (a0 : Addr) (x : Value) (h0 : Heap) (n0 : Nat) (Z0 : n0 ≤ h0.size) (pre0 : Fld Z h0 a0 "com/example/fact4/fact4/model/AnswerRecord" "questionId" "Ljava/lang/String;" x) (pre1 : x.isRef = true) :
    MetFree l (⟨"com/example/fact4/fact4/model/AnswerRecord", "questionId", "()Ljava/lang/String;"⟩ : MethodName) (head1 (Jvm.Cond.code (⟨"com/example/fact4/fact4/model/AnswerRecord", "questionId", "()Ljava/lang/String;"⟩ : MethodName) prog_25_method_15_code 1 (some (.object "java/lang/String")) :: ws) ({ frames := 0, cells := 0, slots := 0, locals := 0 } : Room)) (fun a U => a = #[(.ref a0)] ∧ Z.Warmed39 U.vm ∧ U.heap = h0) (fun _ _ _ _ _ => True) (fun _ U o U' => ∃ v L, o = .returned v ∧ own_Q19 Z a0 x h0 n0 v U'.heap L ∧ FrameEnd U o U' L ({ frames := 0, cells := 0, slots := 0, locals := 0 } : Room).cells ({ frames := 0, cells := 0, slots := 0, locals := 0 } : Room).slots) := by
  refine MetFree.of_bodySF (plainFor_of_name own_pn131) hisR ?_
  intro p e s m args below meth c s₁ Bd hml0 hP hK
  obtain ⟨rfl, hZ, hh⟩ := hP
  have hx := Bd.exec
  have hby := Bd.bytes
  have hlk : meth.locks = false := Bd.notSynchronized
  have hml : c.maxLocals = 1 := hml0
  have hown : s.vm.findClass "com/example/fact4/fact4/model/AnswerRecord" = some m.cls := findClass_of_methodNamed Bd.named
  have hnm := (name_of_methodNamed Bd.named Bd.method).1
  have X0 : Stand p l e ({ frames := 0, cells := 0, slots := 0, locals := 0 } : Room) s m #[(.ref a0)] below meth c s₁ [] 0 0 := Stand.of_body Bd
  have e0 : s₁.heap = h0 := by rw [← hh, Bd.state]; rfl
  have N0 := Fr.nil n0
  show OG p e below (FE s ({ frames := 0, cells := 0, slots := 0, locals := 0 } : Room).cells ({ frames := 0, cells := 0, slots := 0, locals := 0 } : Room).slots) (own_Q19 Z a0 x h0 n0) (s₁.setTop (entryFrame m #[(.ref a0)] 1))
  refine og_of (fun _ k => castTop (own_ef19 m a0) k) ?_
  refine o_aloadN X0 hx rfl (hb hby own_d19_0) rfl rfl ?_
  obtain ⟨T1, X1, e1, st1⟩ := getF X0 hx hZ hown (host := "") (Or.inl (hw _ (List.mem_of_getElem? (i := 66) rfl))) Via.refl e0 pre0 (g := (mkF m 1 #[.val (.ref a0)] [(.ref a0)])) rfl rfl (hb hby own_d19_1)
  refine og_of st1 ?_
  show OG p e below _ _ (T1.setTop (mkF m 4 #[.val (.ref a0)] [x]))
  exact o_retA X1 hx Bd.returns rfl (own_lv X1 hlk (by decide +kernel) (by decide +kernel)) (hb hby own_d19_4) pre1 (own_narR pre1 _) ⟨rfl, N0, e1⟩
theorem own_d20_0 : decode prog_25_method_16_code 0 = .ok (.aload_n 0, 1) := by decide +kernel
theorem own_d20_1 : decode prog_25_method_16_code 1 = .ok (.getfield 47, 3) := by decide +kernel
theorem own_d20_4 : decode prog_25_method_16_code 4 = .ok (.areturn, 1) := by decide +kernel
theorem own_ef20 (m : MethodId) (a0 : Addr) : entryFrame m #[(.ref a0)] 1 = mkF m 0 #[.val (.ref a0)] [] := by first | (simp [entryFrame, mkF, argsToLocals, Value.category]; done) | rfl
def own_Q20 (Z : State) (a0 : Addr) (x : Value) (h0 : Heap) (n0 : Nat) (v : Option Value) (h : Heap) (L : List Loc) : Prop := v = some x ∧ Fr n0 L ∧ h = h0
set_option maxRecDepth 65536 in
set_option maxHeartbeats 40000000 in
theorem own_rm20 (l : Launch) (Z : State) (aA : Array Value) (hw : ∀ d ∈ tables_1, d.before aA Z = true) (ws : List Jvm.Cond) (a0 : Addr) (x : Value) (h0 : Heap) (n0 : Nat) (Z0 : n0 ≤ h0.size) (pre0 : Fld Z h0 a0 "com/example/fact4/fact4/model/AnswerRecord" "anscolumnId" "Ljava/lang/String;" x) (pre1 : x.isRef = true) :
    MetFree l (⟨"com/example/fact4/fact4/model/AnswerRecord", "anscolumnId", "()Ljava/lang/String;"⟩ : MethodName) (head1 (Jvm.Cond.code (⟨"com/example/fact4/fact4/model/AnswerRecord", "anscolumnId", "()Ljava/lang/String;"⟩ : MethodName) prog_25_method_16_code 1 (some (.object "java/lang/String")) :: ws) ({ frames := 0, cells := 0, slots := 0, locals := 0 } : Room)) (fun a U => a = #[(.ref a0)] ∧ Z.Warmed39 U.vm ∧ U.heap = h0) (fun _ _ _ _ _ => True) (fun _ U o U' => ∃ v L, o = .returned v ∧ own_Q20 Z a0 x h0 n0 v U'.heap L ∧ FrameEnd U o U' L ({ frames := 0, cells := 0, slots := 0, locals := 0 } : Room).cells ({ frames := 0, cells := 0, slots := 0, locals := 0 } : Room).slots) := by
  refine MetFree.of_bodySF (plainFor_of_name own_pn131) hisR ?_
  intro p e s m args below meth c s₁ Bd hml0 hP hK
  obtain ⟨rfl, hZ, hh⟩ := hP
  have hx := Bd.exec
  have hby := Bd.bytes
  have hlk : meth.locks = false := Bd.notSynchronized
  have hml : c.maxLocals = 1 := hml0
  have hown : s.vm.findClass "com/example/fact4/fact4/model/AnswerRecord" = some m.cls := findClass_of_methodNamed Bd.named
  have hnm := (name_of_methodNamed Bd.named Bd.method).1
  have X0 : Stand p l e ({ frames := 0, cells := 0, slots := 0, locals := 0 } : Room) s m #[(.ref a0)] below meth c s₁ [] 0 0 := Stand.of_body Bd
  have e0 : s₁.heap = h0 := by rw [← hh, Bd.state]; rfl
  have N0 := Fr.nil n0
  show OG p e below (FE s ({ frames := 0, cells := 0, slots := 0, locals := 0 } : Room).cells ({ frames := 0, cells := 0, slots := 0, locals := 0 } : Room).slots) (own_Q20 Z a0 x h0 n0) (s₁.setTop (entryFrame m #[(.ref a0)] 1))
  refine og_of (fun _ k => castTop (own_ef20 m a0) k) ?_
  refine o_aloadN X0 hx rfl (hb hby own_d20_0) rfl rfl ?_
  obtain ⟨T1, X1, e1, st1⟩ := getF X0 hx hZ hown (host := "") (Or.inl (hw _ (List.mem_of_getElem? (i := 68) rfl))) Via.refl e0 pre0 (g := (mkF m 1 #[.val (.ref a0)] [(.ref a0)])) rfl rfl (hb hby own_d20_1)
  refine og_of st1 ?_
  show OG p e below _ _ (T1.setTop (mkF m 4 #[.val (.ref a0)] [x]))
  exact o_retA X1 hx Bd.returns rfl (own_lv X1 hlk (by decide +kernel) (by decide +kernel)) (hb hby own_d20_4) pre1 (own_narR pre1 _) ⟨rfl, N0, e1⟩
theorem own_d21_0 : decode jdk_42_method_66_code 0 = .ok (.aload_n 0, 1) := by decide +kernel
theorem own_d21_1 : decode jdk_42_method_66_code 1 = .ok (.aload_n 1, 1) := by decide +kernel
theorem own_d21_2 : decode jdk_42_method_66_code 2 = .ok (.if_acmp .ne 5, 3) := by decide +kernel
theorem own_d21_5 : decode jdk_42_method_66_code 5 = .ok (.iconst 1, 1) := by decide +kernel
theorem own_d21_6 : decode jdk_42_method_66_code 6 = .ok (.ireturn, 1) := by decide +kernel
theorem own_ef21 (m : MethodId) (a0 : Addr) : entryFrame m #[(.ref a0), (.ref a0)] 3 = mkF m 0 #[.val (.ref a0), .val (.ref a0), .unset] [] := by first | (simp [entryFrame, mkF, argsToLocals, Value.category]; done) | rfl
def own_Q21 (Z : State) (a0 : Addr) (h0 : Heap) (n0 : Nat) (v : Option Value) (h : Heap) (L : List Loc) : Prop := v = some (.int (1 : Int32)) ∧ Fr n0 L ∧ h = h0
set_option maxRecDepth 65536 in
set_option maxHeartbeats 40000000 in
theorem own_rm21 (l : Launch) (Z : State) (aA : Array Value) (hw : ∀ d ∈ tables_1, d.before aA Z = true) (ws : List Jvm.Cond) (a0 : Addr) (h0 : Heap) (n0 : Nat) (Z0 : n0 ≤ h0.size) :
    MetFree l (⟨"java/lang/String", "equals", "(Ljava/lang/Object;)Z"⟩ : MethodName) (head1 (Jvm.Cond.code (⟨"java/lang/String", "equals", "(Ljava/lang/Object;)Z"⟩ : MethodName) jdk_42_method_66_code 3 (some .boolean) :: ws) ({ frames := 0, cells := 0, slots := 0, locals := 0 } : Room)) (fun a U => a = #[(.ref a0), (.ref a0)] ∧ Z.Warmed39 U.vm ∧ U.heap = h0) (fun _ _ _ _ _ => True) (fun _ U o U' => ∃ v L, o = .returned v ∧ own_Q21 Z a0 h0 n0 v U'.heap L ∧ FrameEnd U o U' L ({ frames := 0, cells := 0, slots := 0, locals := 0 } : Room).cells ({ frames := 0, cells := 0, slots := 0, locals := 0 } : Room).slots) := by
  refine MetFree.of_bodySF (plainFor_of_name own_pn25) hisR ?_
  intro p e s m args below meth c s₁ Bd hml0 hP hK
  obtain ⟨rfl, hZ, hh⟩ := hP
  have hx := Bd.exec
  have hby := Bd.bytes
  have hlk : meth.locks = false := Bd.notSynchronized
  have hml : c.maxLocals = 3 := hml0
  have hown : s.vm.findClass "java/lang/String" = some m.cls := findClass_of_methodNamed Bd.named
  have hnm := (name_of_methodNamed Bd.named Bd.method).1
  have X0 : Stand p l e ({ frames := 0, cells := 0, slots := 0, locals := 0 } : Room) s m #[(.ref a0), (.ref a0)] below meth c s₁ [] 0 0 := Stand.of_body Bd
  have e0 : s₁.heap = h0 := by rw [← hh, Bd.state]; rfl
  have N0 := Fr.nil n0
  show OG p e below (FE s ({ frames := 0, cells := 0, slots := 0, locals := 0 } : Room).cells ({ frames := 0, cells := 0, slots := 0, locals := 0 } : Room).slots) (own_Q21 Z a0 h0 n0) (s₁.setTop (entryFrame m #[(.ref a0), (.ref a0)] 3))
  refine og_of (fun _ k => castTop (own_ef21 m a0) k) ?_
  refine o_aloadN X0 hx rfl (hb hby own_d21_0) rfl rfl ?_
  refine o_aloadN X0 hx rfl (hb hby own_d21_1) rfl rfl ?_
  refine o_acmpN X0 hx rfl (hb hby own_d21_2) (by simp [if_acmp.holds]) ?_
  refine o_iconst (z := (1 : Int32)) X0 hx rfl (hb hby own_d21_5) (by decide) ?_
  exact o_retB X0 hx Bd.returns (own_lv X0 hlk (by decide +kernel) (by decide +kernel)) (hb hby own_d21_6) (by decide) ⟨rfl, N0, e0⟩
theorem own_d13_0 : decode method_4_code 0 = .ok (.aload_n 0, 1) := by decide +kernel
theorem own_d13_1 : decode method_4_code 1 = .ok (.ifnonnull 13, 3) := by decide +kernel
theorem own_d13_4 : decode method_4_code 4 = .ok (.aload_n 1, 1) := by decide +kernel
theorem own_d13_5 : decode method_4_code 5 = .ok (.ifnonnull 7, 3) := by decide +kernel
theorem own_d13_8 : decode method_4_code 8 = .ok (.iconst 1, 1) := by decide +kernel
theorem own_d13_9 : decode method_4_code 9 = .ok (.goto 4, 3) := by decide +kernel
theorem own_d13_13 : decode method_4_code 13 = .ok (.ireturn, 1) := by decide +kernel
theorem own_efeN (m : MethodId)  : entryFrame m #[.null, .null] 2 = mkF m 0 #[.val .null, .val .null] [] := by first | (simp [entryFrame, mkF, argsToLocals, Value.category]; done) | rfl
def own_QeN (Z : State)  (h0 : Heap) (n0 : Nat) (v : Option Value) (h : Heap) (L : List Loc) : Prop := v = some (.int (1 : Int32)) ∧ Fr n0 L ∧ h = h0
set_option maxRecDepth 65536 in
set_option maxHeartbeats 40000000 in
theorem own_rmeN (l : Launch) (Z : State) (aA : Array Value) (hw : ∀ d ∈ tables_1, d.before aA Z = true) (ws : List Jvm.Cond)  (h0 : Heap) (n0 : Nat) (Z0 : n0 ≤ h0.size) :
    MetFree l (⟨"com/example/fact4/fact4/model/AnswerRecordWithAnswerPinLaw", "eq", "(Ljava/lang/String;Ljava/lang/String;)Z"⟩ : MethodName) (head1 (Jvm.Cond.code (⟨"com/example/fact4/fact4/model/AnswerRecordWithAnswerPinLaw", "eq", "(Ljava/lang/String;Ljava/lang/String;)Z"⟩ : MethodName) method_4_code 2 (some .boolean) :: ws) ({ frames := 1, cells := 0, slots := 0, locals := 14 } : Room)) (fun a U => a = #[.null, .null] ∧ Z.Warmed39 U.vm ∧ U.heap = h0) (fun _ _ _ _ _ => True) (fun _ U o U' => ∃ v L, o = .returned v ∧ own_QeN Z  h0 n0 v U'.heap L ∧ FrameEnd U o U' L ({ frames := 1, cells := 0, slots := 0, locals := 14 } : Room).cells ({ frames := 1, cells := 0, slots := 0, locals := 14 } : Room).slots) := by
  refine MetFree.of_bodySF (plainFor_of_name own_pn56) hisR ?_
  intro p e s m args below meth c s₁ Bd hml0 hP hK
  obtain ⟨rfl, hZ, hh⟩ := hP
  have hx := Bd.exec
  have hby := Bd.bytes
  have hlk : meth.locks = false := Bd.notSynchronized
  have hml : c.maxLocals = 2 := hml0
  have hown : s.vm.findClass "com/example/fact4/fact4/model/AnswerRecordWithAnswerPinLaw" = some m.cls := findClass_of_methodNamed Bd.named
  have hnm := (name_of_methodNamed Bd.named Bd.method).1
  have X0 : Stand p l e ({ frames := 1, cells := 0, slots := 0, locals := 14 } : Room) s m #[.null, .null] below meth c s₁ [] 0 0 := Stand.of_body Bd
  have e0 : s₁.heap = h0 := by rw [← hh, Bd.state]; rfl
  have N0 := Fr.nil n0
  show OG p e below (FE s ({ frames := 1, cells := 0, slots := 0, locals := 14 } : Room).cells ({ frames := 1, cells := 0, slots := 0, locals := 14 } : Room).slots) (own_QeN Z  h0 n0) (s₁.setTop (entryFrame m #[.null, .null] 2))
  refine og_of (fun _ k => castTop (own_efeN m ) k) ?_
  refine o_aloadN X0 hx rfl (hb hby own_d13_0) rfl rfl ?_
  refine o_ifnonnullN X0 hx rfl (hb hby own_d13_1) ?_
  refine o_aloadN X0 hx rfl (hb hby own_d13_4) rfl rfl ?_
  refine o_ifnonnullN X0 hx rfl (hb hby own_d13_5) ?_
  refine o_iconst (z := (1 : Int32)) X0 hx rfl (hb hby own_d13_8) (by decide) ?_
  refine o_goto (pc' := 13) X0 hx (hb hby own_d13_9) (by decide) (by decide) ?_
  exact o_retB X0 hx Bd.returns (own_lv X0 hlk (by decide +kernel) (by decide +kernel)) (hb hby own_d13_13) (by decide) ⟨rfl, N0, e0⟩
theorem own_pd8 : parseMethodDescriptor "(Ljava/lang/Object;)Z" = some ⟨[(.object "java/lang/Object")], some .boolean⟩ := by decide +kernel
theorem own_d13_14 : decode method_4_code 14 = .ok (.aload_n 0, 1) := by decide +kernel
theorem own_d13_15 : decode method_4_code 15 = .ok (.aload_n 1, 1) := by decide +kernel
theorem own_d13_16 : decode method_4_code 16 = .ok (.invokevirtual 74, 3) := by decide +kernel
theorem own_d13_19 : decode method_4_code 19 = .ok (.ireturn, 1) := by decide +kernel
theorem own_efeR (m : MethodId) (a0 : Addr) : entryFrame m #[(.ref a0), (.ref a0)] 2 = mkF m 0 #[.val (.ref a0), .val (.ref a0)] [] := by first | (simp [entryFrame, mkF, argsToLocals, Value.category]; done) | rfl
def own_QeR (Z : State) (a0 : Addr) (h0 : Heap) (n0 : Nat) (v : Option Value) (h : Heap) (L : List Loc) : Prop := v = some (.int (1 : Int32)) ∧ Fr n0 L ∧ h = h0
set_option maxRecDepth 65536 in
set_option maxHeartbeats 40000000 in
theorem own_rmeR (l : Launch) (Z : State) (aA : Array Value) (hw : ∀ d ∈ tables_1, d.before aA Z = true) (ws : List Jvm.Cond) (a0 : Addr) (h0 : Heap) (n0 : Nat) (Z0 : n0 ≤ h0.size) (pre0 : Exa Z h0 a0 "java/lang/String") :
    MetFree l (⟨"com/example/fact4/fact4/model/AnswerRecordWithAnswerPinLaw", "eq", "(Ljava/lang/String;Ljava/lang/String;)Z"⟩ : MethodName) (head1 (Jvm.Cond.code (⟨"com/example/fact4/fact4/model/AnswerRecordWithAnswerPinLaw", "eq", "(Ljava/lang/String;Ljava/lang/String;)Z"⟩ : MethodName) method_4_code 2 (some .boolean) :: ws) ({ frames := 1, cells := 0, slots := 0, locals := 14 } : Room)) (fun a U => a = #[(.ref a0), (.ref a0)] ∧ Z.Warmed39 U.vm ∧ U.heap = h0) (fun _ _ _ _ _ => True) (fun _ U o U' => ∃ v L, o = .returned v ∧ own_QeR Z a0 h0 n0 v U'.heap L ∧ FrameEnd U o U' L ({ frames := 1, cells := 0, slots := 0, locals := 14 } : Room).cells ({ frames := 1, cells := 0, slots := 0, locals := 14 } : Room).slots) := by
  refine MetFree.of_bodySF (plainFor_of_name own_pn56) hisR ?_
  intro p e s m args below meth c s₁ Bd hml0 hP hK
  obtain ⟨rfl, hZ, hh⟩ := hP
  have hx := Bd.exec
  have hby := Bd.bytes
  have hlk : meth.locks = false := Bd.notSynchronized
  have hml : c.maxLocals = 2 := hml0
  have hown : s.vm.findClass "com/example/fact4/fact4/model/AnswerRecordWithAnswerPinLaw" = some m.cls := findClass_of_methodNamed Bd.named
  have hnm := (name_of_methodNamed Bd.named Bd.method).1
  have X0 : Stand p l e ({ frames := 1, cells := 0, slots := 0, locals := 14 } : Room) s m #[(.ref a0), (.ref a0)] below meth c s₁ [] 0 0 := Stand.of_body Bd
  have e0 : s₁.heap = h0 := by rw [← hh, Bd.state]; rfl
  have N0 := Fr.nil n0
  show OG p e below (FE s ({ frames := 1, cells := 0, slots := 0, locals := 14 } : Room).cells ({ frames := 1, cells := 0, slots := 0, locals := 14 } : Room).slots) (own_QeR Z a0 h0 n0) (s₁.setTop (entryFrame m #[(.ref a0), (.ref a0)] 2))
  refine og_of (fun _ k => castTop (own_efeR m a0) k) ?_
  refine o_aloadN X0 hx rfl (hb hby own_d13_0) rfl rfl ?_
  refine o_ifnonnullY (pc' := 14) X0 hx (hb hby own_d13_1) (by decide) (by decide) ?_
  refine o_aloadN X0 hx rfl (hb hby own_d13_14) rfl rfl ?_
  refine o_aloadN X0 hx rfl (hb hby own_d13_15) rfl rfl ?_
  obtain ⟨cq1, kq1, q1a, q1b, q1c⟩ := isOf hZ e0 pre0
  obtain ⟨_, _, ⟨T1, L1, k1, n1⟩, -, X1, ⟨Lc1, hQ1, l1, y1, z1⟩, st1⟩ := X0.virtualBack hx (y := (⟨"java/lang/String", "equals", "(Ljava/lang/Object;)Z"⟩ : MethodName)) (z := (⟨"java/lang/String", "equals", "(Ljava/lang/Object;)Z"⟩ : MethodName)) hown (mvT hZ (hw _ (List.mem_of_getElem? (i := 125) rfl))) (mvT hZ (hw _ (List.mem_of_getElem? (i := 126) rfl))) (notFace_of_selects (args := #[]) (mvT hZ (hw _ (List.mem_of_getElem? (i := 128) rfl)))) (mvT hZ (hw _ (List.mem_of_getElem? (i := 128) rfl))) (mvT hZ (hw _ (List.mem_of_getElem? (i := 127) rfl))) (by decide) (backOf (W := 0) (own_rm21 l Z aA hw [] a0 h0 n0 Z0) hZ (hw _ (List.mem_of_getElem? (i := 129) rfl)) (hw _ (List.mem_of_getElem? (i := 6) rfl)) (by decide) (by decide)) q1a q1c (g := (mkF m 16 #[.val (.ref a0), .val (.ref a0)] [(.ref a0), (.ref a0)])) rfl (by rw [hml]; rfl) (Steps.refl _) (argsL := [(.ref a0)]) (rest := []) (lenOf own_pd8 rfl) rfl (by show 2 * 0 + _ ≤ _; exact Nat.le_of_eq rfl) (hb hby own_d13_16) (fun _ _ => ⟨rfl, e0, (by dsimp only [Pt.cells, Pt.slots]; decide +kernel), (by dsimp only [Pt.cells, Pt.slots]; decide +kernel)⟩)
  dsimp only [Pt.U, Pt.locs, Pt.cells, Pt.slots] at X1 l1 y1 z1 st1 hQ1
  rw [l1, y1, z1] at X1
  obtain ⟨rfl, N1q, ee1⟩ := hQ1
  have N2 := Fr.app N0 N1q
  refine og_tr st1 ?_
  show OG p e below _ _ (T1.setTop (mkF m 19 #[.val (.ref a0), .val (.ref a0)] [(.int (1 : Int32))]))
  exact o_retB X1 hx Bd.returns (own_lv X1 hlk (by decide +kernel) (by decide +kernel)) (hb hby own_d13_19) (by decide) ⟨rfl, N2, ee1⟩
def own_Qeq (Z : State) (x : Value) (h0 : Heap) (n0 : Nat) (v : Option Value) (h : Heap) (L : List Loc) : Prop := v = some (.int (1 : Int32)) ∧ Fr n0 L ∧ h = h0
theorem own_rmeq (l : Launch) (Z : State) (aA : Array Value) (hw : ∀ d ∈ tables_1, d.before aA Z = true) (ws : List Jvm.Cond) (x : Value) (h0 : Heap) (n0 : Nat) (Z0 : n0 ≤ h0.size) (pre0 : own_S Z h0 x) :
    MetFree l (⟨"com/example/fact4/fact4/model/AnswerRecordWithAnswerPinLaw", "eq", "(Ljava/lang/String;Ljava/lang/String;)Z"⟩ : MethodName) (head1 (Jvm.Cond.code (⟨"com/example/fact4/fact4/model/AnswerRecordWithAnswerPinLaw", "eq", "(Ljava/lang/String;Ljava/lang/String;)Z"⟩ : MethodName) method_4_code 2 (some .boolean) :: ws) ({ frames := 1, cells := 0, slots := 0, locals := 14 } : Room)) (fun a U => a = #[x, x] ∧ Z.Warmed39 U.vm ∧ U.heap = h0) (fun _ _ _ _ _ => True) (fun _ U o U' => ∃ v L, o = .returned v ∧ own_Qeq Z x h0 n0 v U'.heap L ∧ FrameEnd U o U' L ({ frames := 1, cells := 0, slots := 0, locals := 14 } : Room).cells ({ frames := 1, cells := 0, slots := 0, locals := 14 } : Room).slots) := by
  rcases pre0 with rfl | ⟨a, rfl, E⟩
  · exact own_rmeN l Z aA hw ws h0 n0 Z0
  · exact own_rmeR l Z aA hw ws a h0 n0 Z0 E
theorem own_d26_0 : decode jdk_33_method_27_code 0 = .ok (.aload_n 0, 1) := by decide +kernel
theorem own_d26_1 : decode jdk_33_method_27_code 1 = .ok (.getfield 205, 3) := by decide +kernel
theorem own_d26_4 : decode jdk_33_method_27_code 4 = .ok (.ireturn, 1) := by decide +kernel
theorem own_ef26 (m : MethodId) (a0 : Addr) : entryFrame m #[(.ref a0)] 1 = mkF m 0 #[.val (.ref a0)] [] := by first | (simp [entryFrame, mkF, argsToLocals, Value.category]; done) | rfl
def own_Q26 (Z : State) (a0 : Addr) (w0 : Int32) (h0 : Heap) (n0 : Nat) (v : Option Value) (h : Heap) (L : List Loc) : Prop := v = some (.int w0) ∧ Fr n0 L ∧ h = h0
set_option maxRecDepth 65536 in
set_option maxHeartbeats 40000000 in
theorem own_rm26 (l : Launch) (Z : State) (aA : Array Value) (hw : ∀ d ∈ tables_1, d.before aA Z = true) (ws : List Jvm.Cond) (a0 : Addr) (w0 : Int32) (h0 : Heap) (n0 : Nat) (Z0 : n0 ≤ h0.size) (pre0 : Fld Z h0 a0 "java/lang/Integer" "value" "I" (.int w0)) :
    MetFree l (⟨"java/lang/Integer", "intValue", "()I"⟩ : MethodName) (head1 (Jvm.Cond.code (⟨"java/lang/Integer", "intValue", "()I"⟩ : MethodName) jdk_33_method_27_code 1 (some .int) :: ws) ({ frames := 0, cells := 0, slots := 0, locals := 0 } : Room)) (fun a U => a = #[(.ref a0)] ∧ Z.Warmed39 U.vm ∧ U.heap = h0) (fun _ _ _ _ _ => True) (fun _ U o U' => ∃ v L, o = .returned v ∧ own_Q26 Z a0 w0 h0 n0 v U'.heap L ∧ FrameEnd U o U' L ({ frames := 0, cells := 0, slots := 0, locals := 0 } : Room).cells ({ frames := 0, cells := 0, slots := 0, locals := 0 } : Room).slots) := by
  refine MetFree.of_bodySF (plainFor_of_name own_pn71) hisR ?_
  intro p e s m args below meth c s₁ Bd hml0 hP hK
  obtain ⟨rfl, hZ, hh⟩ := hP
  have hx := Bd.exec
  have hby := Bd.bytes
  have hlk : meth.locks = false := Bd.notSynchronized
  have hml : c.maxLocals = 1 := hml0
  have hown : s.vm.findClass "java/lang/Integer" = some m.cls := findClass_of_methodNamed Bd.named
  have hnm := (name_of_methodNamed Bd.named Bd.method).1
  have X0 : Stand p l e ({ frames := 0, cells := 0, slots := 0, locals := 0 } : Room) s m #[(.ref a0)] below meth c s₁ [] 0 0 := Stand.of_body Bd
  have e0 : s₁.heap = h0 := by rw [← hh, Bd.state]; rfl
  have N0 := Fr.nil n0
  show OG p e below (FE s ({ frames := 0, cells := 0, slots := 0, locals := 0 } : Room).cells ({ frames := 0, cells := 0, slots := 0, locals := 0 } : Room).slots) (own_Q26 Z a0 w0 h0 n0) (s₁.setTop (entryFrame m #[(.ref a0)] 1))
  refine og_of (fun _ k => castTop (own_ef26 m a0) k) ?_
  refine o_aloadN X0 hx rfl (hb hby own_d26_0) rfl rfl ?_
  obtain ⟨T1, X1, e1, st1⟩ := getF X0 hx hZ hown (host := "") (Or.inl (hw _ (List.mem_of_getElem? (i := 152) rfl))) Via.refl e0 pre0 (g := (mkF m 1 #[.val (.ref a0)] [(.ref a0)])) rfl rfl (hb hby own_d26_1)
  refine og_of st1 ?_
  show OG p e below _ _ (T1.setTop (mkF m 4 #[.val (.ref a0)] [(.int w0)]))
  exact o_retI X1 hx Bd.returns (own_lv X1 hlk (by decide +kernel) (by decide +kernel)) (hb hby own_d26_4) ⟨rfl, N0, e1⟩
theorem own_pd9 : parseMethodDescriptor "(IIZ)Ljava/lang/String;" = some ⟨[.int, .int, .boolean], some (.object "java/lang/String")⟩ := by decide +kernel
theorem own_pd10 : parseMethodDescriptor "(I)Lcom/example/fact4/fact4/model/AnswerRecord;" = some ⟨[.int], some (.object "com/example/fact4/fact4/model/AnswerRecord")⟩ := by decide +kernel
theorem own_pd11 : parseMethodDescriptor "()I" = some ⟨[], some .int⟩ := by decide +kernel
theorem own_pd12 : parseMethodDescriptor "()Ljava/lang/String;" = some ⟨[], some (.object "java/lang/String")⟩ := by decide +kernel
theorem own_pd13 : parseMethodDescriptor "(Ljava/lang/String;Ljava/lang/String;)Z" = some ⟨[(.object "java/lang/String"), (.object "java/lang/String")], some .boolean⟩ := by decide +kernel
theorem own_pd14 : parseMethodDescriptor "()Ljava/lang/Integer;" = some ⟨[], some (.object "java/lang/Integer")⟩ := by decide +kernel
theorem own_pd15 : parseMethodDescriptor "(I)Ljava/lang/Integer;" = some ⟨[.int], some (.object "java/lang/Integer")⟩ := by decide +kernel
theorem own_ef0 (m : MethodId) (p0 : Int32) (p1 : Int32) (p2 : Int32) (p3 : Int32) (p4 : Int32) (p5 : Int32) : entryFrame m #[(.int p0), (.int p1), (.int p2), (.int p3), (.int p4), (.int p5)] maxLocals = mkF m 0 #[.val (.int p0), .val (.int p1), .val (.int p2), .val (.int p3), .val (.int p4), .val (.int p5), .unset, .unset, .unset, .unset, .unset, .unset, .unset, .unset, .unset, .unset, .unset, .unset] [] := by first | (simp [entryFrame, mkF, argsToLocals, Value.category, maxLocals]; done) | rfl
def own_Q0 (Z : State) (p0 : Int32) (p1 : Int32) (p2 : Int32) (p3 : Int32) (p4 : Int32) (p5 : Int32) (cs : Int32) (arr : Addr) (h0 : Heap) (n0 : Nat) (v : Option Value) (h : Heap) (L : List Loc) : Prop := v = some (.int (1 : Int32)) ∧ Fr n0 L
set_option maxRecDepth 65536 in
set_option maxHeartbeats 40000000 in
theorem own_rm0 (l : Launch) (Z : State) (aA : Array Value) (hw : ∀ d ∈ tables_1, d.before aA Z = true) (ws : List Jvm.Cond) (p0 : Int32) (p1 : Int32) (p2 : Int32) (p3 : Int32) (p4 : Int32) (p5 : Int32) (cs : Int32) (arr : Addr) (h0 : Heap) (n0 : Nat) (Z0 : n0 ≤ h0.size) (pre0 : Sta Z h0 "java/lang/String" "COMPACT_STRINGS" "Z" (.int cs)) (pre1 : Sta Z h0 "java/lang/Integer$IntegerCache" "high" "I" (.int (127 : Int32))) (pre2 : Sta Z h0 "java/lang/Integer$IntegerCache" "cache" "[Ljava/lang/Integer;" (.ref arr)) (hcs : ¬ (cs = (0 : Int32))) (hC : own_C Z h0 arr) :
    MetFree l x (head1 (Jvm.Cond.code x code maxLocals ret :: ws) room_1) (fun a U => a = #[(.int p0), (.int p1), (.int p2), (.int p3), (.int p4), (.int p5)] ∧ Z.Warmed39 U.vm ∧ U.heap = h0) (fun _ _ _ _ _ => True) (fun _ U o U' => ∃ v L, o = .returned v ∧ own_Q0 Z p0 p1 p2 p3 p4 p5 cs arr h0 n0 v U'.heap L ∧ ReturnedEndW U o U' L room_1.cells room_1.slots) := by
  refine MetFree.of_bodySF (plainFor_of_name own_pn56) hisR ?_
  intro p e s m args below meth c s₁ Bd hml0 hP hK
  obtain ⟨rfl, hZ, hh⟩ := hP
  have hx := Bd.exec
  have hby := Bd.bytes
  have hlk : meth.locks = false := Bd.notSynchronized
  have hml : c.maxLocals = 18 := hml0
  have hown : s.vm.findClass "com/example/fact4/fact4/model/AnswerRecordWithAnswerPinLaw" = some m.cls := findClass_of_methodNamed Bd.named
  have hnm := (name_of_methodNamed Bd.named Bd.method).1
  have X0 : Stand p l e room_1 s m #[(.int p0), (.int p1), (.int p2), (.int p3), (.int p4), (.int p5)] below meth c s₁ [] 0 0 := Stand.of_body Bd
  have e0 : s₁.heap = h0 := by rw [← hh, Bd.state]; rfl
  have N0 := Fr.nil n0
  replace X0 : Stand p l e room_1 (s.setVm s.vm) m #[(.int p0), (.int p1), (.int p2), (.int p3), (.int p4), (.int p5)] below meth c s₁ [] 0 0 := X0
  replace hZ : Z.Warmed39 (s.setVm s.vm).vm := hZ
  replace hown : (s.setVm s.vm).vm.findClass "com/example/fact4/fact4/model/AnswerRecordWithAnswerPinLaw" = some m.cls := hown
  have hS0 : s.Since s.vm h0.size := (State.WarmedH.refl s).since _
  show OG p e below (FEW s room_1.cells room_1.slots) (own_Q0 Z p0 p1 p2 p3 p4 p5 cs arr h0 n0) (s₁.setTop (entryFrame m #[(.int p0), (.int p1), (.int p2), (.int p3), (.int p4), (.int p5)] maxLocals))
  refine og_of (fun _ k => castTop (own_ef0 m p0 p1 p2 p3 p4 p5) k) ?_
  refine o_iloadN X0 hx rfl (hb hby at_0) rfl ?_
  refine o_iconst (z := (0 : Int32)) X0 hx rfl (hb hby at_1) (by decide) ?_
  refine o_iconst (z := (1 : Int32)) X0 hx rfl (hb hby at_2) (by decide) ?_
  have hw_2 : ¬ (cs = (0 : Int32)) := hcs
  obtain ⟨_, _, ⟨T1, L1, k1, n1⟩, -, X1, ⟨Lc1, hQ1, l1, y1, z1⟩, st1⟩ := Jvm.LawKit.callS X0 hx (y := (⟨"com/example/fact4/fact4/model/AnswerRecordWithAnswerPinLaw", "str", "(IIZ)Ljava/lang/String;"⟩ : MethodName)) hown (mvT hZ (hw _ (List.mem_of_getElem? (i := 0) rfl))) (mvT hZ (hw _ (List.mem_of_getElem? (i := 1) rfl))) (mvT hZ (hw _ (List.mem_of_getElem? (i := 2) rfl))) (mvT hZ (hw _ (List.mem_of_getElem? (i := 3) rfl))) (by decide) (backOf (W := 0) (own_rms1 l Z aA hw [] p0 (0 : Int32) cs h0 n0 Z0 pre0 hw_2) hZ (hw _ (List.mem_of_getElem? (i := 3) rfl)) (hw _ (List.mem_of_getElem? (i := 2) rfl)) (by decide) (by decide)) (g := (mkF m 3 #[.val (.int p0), .val (.int p1), .val (.int p2), .val (.int p3), .val (.int p4), .val (.int p5), .unset, .unset, .unset, .unset, .unset, .unset, .unset, .unset, .unset, .unset, .unset, .unset] [(.int (1 : Int32)), (.int (0 : Int32)), (.int p0)])) rfl (by rw [hml]; rfl) (argsL := [(.int p0), (.int (0 : Int32)), (.int (1 : Int32))]) (rest := []) (lenOf own_pd9 rfl) rfl (by show 2 * 0 + _ ≤ _; exact Nat.le_of_eq rfl) (hb hby at_3) (fun _ _ => ⟨rfl, e0, (by dsimp only [Pt.cells, Pt.slots]; decide +kernel), (by dsimp only [Pt.cells, Pt.slots]; decide +kernel)⟩)
  dsimp only [Pt.U, Pt.locs, Pt.cells, Pt.slots] at X1 l1 y1 z1 st1 hQ1
  rw [l1, y1, z1] at X1
  obtain ⟨x1_0, rfl, N1q, K1, f1_0, f1_1⟩ := hQ1
  have N3 := Fr.app N0 N1q
  have Kp4 : Keep h0 T1.heap [] := (Keep.refl h0 []).trans K1 all0
  refine og_of st1 ?_
  show OG p e below _ _ (T1.setTop (mkF m 6 #[.val (.int p0), .val (.int p1), .val (.int p2), .val (.int p3), .val (.int p4), .val (.int p5), .unset, .unset, .unset, .unset, .unset, .unset, .unset, .unset, .unset, .unset, .unset, .unset] [x1_0]))
  clear X0 st1
  refine o_astore X1 hx rfl (hb hby at_6) f1_0 (L' := #[.val (.int p0), .val (.int p1), .val (.int p2), .val (.int p3), .val (.int p4), .val (.int p5), .val x1_0, .unset, .unset, .unset, .unset, .unset, .unset, .unset, .unset, .unset, .unset, .unset]) (by rcases ref_cases f1_0 with hh | ⟨aa, hh⟩ <;> rw [hh] <;> rfl) ?_
  refine o_iloadN X1 hx rfl (hb hby at_8) rfl ?_
  refine o_bipush (z := (9 : Int32)) X1 hx rfl (hb hby at_9) (by decide) ?_
  refine o_iconst (z := (1 : Int32)) X1 hx rfl (hb hby at_11) (by decide) ?_
  have Fc6 : Sta Z T1.heap "java/lang/String" "COMPACT_STRINGS" "Z" (.int cs) := (own_staK pre0 Kp4)
  have hw_7 : ¬ (cs = (0 : Int32)) := hcs
  have zz8 := (Nat.le_trans Z0 K1.1)
  have zz9 := (Nat.le_trans (Nat.le_refl h0.size) K1.1)
  obtain ⟨_, _, ⟨T5, L5, k5, n5⟩, -, X5, ⟨Lc5, hQ5, l5, y5, z5⟩, st5⟩ := Jvm.LawKit.callS X1 hx (y := (⟨"com/example/fact4/fact4/model/AnswerRecordWithAnswerPinLaw", "str", "(IIZ)Ljava/lang/String;"⟩ : MethodName)) hown (mvT hZ (hw _ (List.mem_of_getElem? (i := 0) rfl))) (mvT hZ (hw _ (List.mem_of_getElem? (i := 1) rfl))) (mvT hZ (hw _ (List.mem_of_getElem? (i := 2) rfl))) (mvT hZ (hw _ (List.mem_of_getElem? (i := 3) rfl))) (by decide) (backOf (W := 0) (own_rms1 l Z aA hw [] p0 (9 : Int32) cs T1.heap n0 zz8 Fc6 hw_7) hZ (hw _ (List.mem_of_getElem? (i := 3) rfl)) (hw _ (List.mem_of_getElem? (i := 2) rfl)) (by decide) (by decide)) (g := (mkF m 12 #[.val (.int p0), .val (.int p1), .val (.int p2), .val (.int p3), .val (.int p4), .val (.int p5), .val x1_0, .unset, .unset, .unset, .unset, .unset, .unset, .unset, .unset, .unset, .unset, .unset] [(.int (1 : Int32)), (.int (9 : Int32)), (.int p0)])) rfl (by rw [hml]; rfl) (argsL := [(.int p0), (.int (9 : Int32)), (.int (1 : Int32))]) (rest := []) (lenOf own_pd9 rfl) rfl (by show 2 * 0 + _ ≤ _; exact Nat.le_of_eq rfl) (hb hby at_12) (fun _ _ => ⟨rfl, rfl, (by dsimp only [Pt.cells, Pt.slots]; decide +kernel), (by dsimp only [Pt.cells, Pt.slots]; decide +kernel)⟩)
  dsimp only [Pt.U, Pt.locs, Pt.cells, Pt.slots] at X5 l5 y5 z5 st5 hQ5
  rw [l5, y5, z5] at X5
  obtain ⟨x5_0, rfl, N5q, K5, f5_0, f5_1⟩ := hQ5
  have N10 := Fr.app N3 N5q
  have Kp11 : Keep h0 T5.heap [] := Kp4.trans K5 all0
  refine og_of st5 ?_
  show OG p e below _ _ (T5.setTop (mkF m 15 #[.val (.int p0), .val (.int p1), .val (.int p2), .val (.int p3), .val (.int p4), .val (.int p5), .val x1_0, .unset, .unset, .unset, .unset, .unset, .unset, .unset, .unset, .unset, .unset, .unset] [x5_0]))
  clear X1 st5
  refine o_astore X5 hx rfl (hb hby at_15) f5_0 (L' := #[.val (.int p0), .val (.int p1), .val (.int p2), .val (.int p3), .val (.int p4), .val (.int p5), .val x1_0, .val x5_0, .unset, .unset, .unset, .unset, .unset, .unset, .unset, .unset, .unset, .unset]) (by rcases ref_cases f5_0 with hh | ⟨aa, hh⟩ <;> rw [hh] <;> rfl) ?_
  refine o_iloadN X5 hx rfl (hb hby at_17) rfl ?_
  refine o_bipush (z := (18 : Int32)) X5 hx rfl (hb hby at_18) (by decide) ?_
  refine o_iconst (z := (1 : Int32)) X5 hx rfl (hb hby at_20) (by decide) ?_
  have Fc13 : Sta Z T5.heap "java/lang/String" "COMPACT_STRINGS" "Z" (.int cs) := (own_staK pre0 Kp11)
  have hw_14 : ¬ (cs = (0 : Int32)) := hcs
  have zz15 := (Nat.le_trans zz8 K5.1)
  have zz16 := (Nat.le_trans zz9 K5.1)
  obtain ⟨_, _, ⟨T12, L12, k12, n12⟩, -, X12, ⟨Lc12, hQ12, l12, y12, z12⟩, st12⟩ := Jvm.LawKit.callS X5 hx (y := (⟨"com/example/fact4/fact4/model/AnswerRecordWithAnswerPinLaw", "str", "(IIZ)Ljava/lang/String;"⟩ : MethodName)) hown (mvT hZ (hw _ (List.mem_of_getElem? (i := 0) rfl))) (mvT hZ (hw _ (List.mem_of_getElem? (i := 1) rfl))) (mvT hZ (hw _ (List.mem_of_getElem? (i := 2) rfl))) (mvT hZ (hw _ (List.mem_of_getElem? (i := 3) rfl))) (by decide) (backOf (W := 0) (own_rms1 l Z aA hw [] p0 (18 : Int32) cs T5.heap n0 zz15 Fc13 hw_14) hZ (hw _ (List.mem_of_getElem? (i := 3) rfl)) (hw _ (List.mem_of_getElem? (i := 2) rfl)) (by decide) (by decide)) (g := (mkF m 21 #[.val (.int p0), .val (.int p1), .val (.int p2), .val (.int p3), .val (.int p4), .val (.int p5), .val x1_0, .val x5_0, .unset, .unset, .unset, .unset, .unset, .unset, .unset, .unset, .unset, .unset] [(.int (1 : Int32)), (.int (18 : Int32)), (.int p0)])) rfl (by rw [hml]; rfl) (argsL := [(.int p0), (.int (18 : Int32)), (.int (1 : Int32))]) (rest := []) (lenOf own_pd9 rfl) rfl (by show 2 * 0 + _ ≤ _; exact Nat.le_of_eq rfl) (hb hby at_21) (fun _ _ => ⟨rfl, rfl, (by dsimp only [Pt.cells, Pt.slots]; decide +kernel), (by dsimp only [Pt.cells, Pt.slots]; decide +kernel)⟩)
  dsimp only [Pt.U, Pt.locs, Pt.cells, Pt.slots] at X12 l12 y12 z12 st12 hQ12
  rw [l12, y12, z12] at X12
  obtain ⟨x12_0, rfl, N12q, K12, f12_0, f12_1⟩ := hQ12
  have N17 := Fr.app N10 N12q
  have Kp18 : Keep h0 T12.heap [] := Kp11.trans K12 all0
  refine og_of st12 ?_
  show OG p e below _ _ (T12.setTop (mkF m 24 #[.val (.int p0), .val (.int p1), .val (.int p2), .val (.int p3), .val (.int p4), .val (.int p5), .val x1_0, .val x5_0, .unset, .unset, .unset, .unset, .unset, .unset, .unset, .unset, .unset, .unset] [x12_0]))
  clear X5 st12
  refine o_astore X12 hx rfl (hb hby at_24) f12_0 (L' := #[.val (.int p0), .val (.int p1), .val (.int p2), .val (.int p3), .val (.int p4), .val (.int p5), .val x1_0, .val x5_0, .val x12_0, .unset, .unset, .unset, .unset, .unset, .unset, .unset, .unset, .unset]) (by rcases ref_cases f12_0 with hh | ⟨aa, hh⟩ <;> rw [hh] <;> rfl) ?_
  refine o_iloadN X12 hx rfl (hb hby at_26) rfl ?_
  refine o_iconst (z := (0 : Int32)) X12 hx rfl (hb hby at_27) (by decide) ?_
  refine o_iconst (z := (1 : Int32)) X12 hx rfl (hb hby at_28) (by decide) ?_
  have Fc20 : Sta Z T12.heap "java/lang/String" "COMPACT_STRINGS" "Z" (.int cs) := (own_staK pre0 Kp18)
  have hw_21 : ¬ (cs = (0 : Int32)) := hcs
  have zz22 := (Nat.le_trans zz15 K12.1)
  have zz23 := (Nat.le_trans zz16 K12.1)
  obtain ⟨_, _, ⟨T19, L19, k19, n19⟩, -, X19, ⟨Lc19, hQ19, l19, y19, z19⟩, st19⟩ := Jvm.LawKit.callS X12 hx (y := (⟨"com/example/fact4/fact4/model/AnswerRecordWithAnswerPinLaw", "str", "(IIZ)Ljava/lang/String;"⟩ : MethodName)) hown (mvT hZ (hw _ (List.mem_of_getElem? (i := 0) rfl))) (mvT hZ (hw _ (List.mem_of_getElem? (i := 1) rfl))) (mvT hZ (hw _ (List.mem_of_getElem? (i := 2) rfl))) (mvT hZ (hw _ (List.mem_of_getElem? (i := 3) rfl))) (by decide) (backOf (W := 0) (own_rms1 l Z aA hw [] p1 (0 : Int32) cs T12.heap n0 zz22 Fc20 hw_21) hZ (hw _ (List.mem_of_getElem? (i := 3) rfl)) (hw _ (List.mem_of_getElem? (i := 2) rfl)) (by decide) (by decide)) (g := (mkF m 29 #[.val (.int p0), .val (.int p1), .val (.int p2), .val (.int p3), .val (.int p4), .val (.int p5), .val x1_0, .val x5_0, .val x12_0, .unset, .unset, .unset, .unset, .unset, .unset, .unset, .unset, .unset] [(.int (1 : Int32)), (.int (0 : Int32)), (.int p1)])) rfl (by rw [hml]; rfl) (argsL := [(.int p1), (.int (0 : Int32)), (.int (1 : Int32))]) (rest := []) (lenOf own_pd9 rfl) rfl (by show 2 * 0 + _ ≤ _; exact Nat.le_of_eq rfl) (hb hby at_29) (fun _ _ => ⟨rfl, rfl, (by dsimp only [Pt.cells, Pt.slots]; decide +kernel), (by dsimp only [Pt.cells, Pt.slots]; decide +kernel)⟩)
  dsimp only [Pt.U, Pt.locs, Pt.cells, Pt.slots] at X19 l19 y19 z19 st19 hQ19
  rw [l19, y19, z19] at X19
  obtain ⟨x19_0, rfl, N19q, K19, f19_0, f19_1⟩ := hQ19
  have N24 := Fr.app N17 N19q
  have Kp25 : Keep h0 T19.heap [] := Kp18.trans K19 all0
  refine og_of st19 ?_
  show OG p e below _ _ (T19.setTop (mkF m 32 #[.val (.int p0), .val (.int p1), .val (.int p2), .val (.int p3), .val (.int p4), .val (.int p5), .val x1_0, .val x5_0, .val x12_0, .unset, .unset, .unset, .unset, .unset, .unset, .unset, .unset, .unset] [x19_0]))
  clear X12 st19
  refine o_astore X19 hx rfl (hb hby at_32) f19_0 (L' := #[.val (.int p0), .val (.int p1), .val (.int p2), .val (.int p3), .val (.int p4), .val (.int p5), .val x1_0, .val x5_0, .val x12_0, .val x19_0, .unset, .unset, .unset, .unset, .unset, .unset, .unset, .unset]) (by rcases ref_cases f19_0 with hh | ⟨aa, hh⟩ <;> rw [hh] <;> rfl) ?_
  refine o_iloadN X19 hx rfl (hb hby at_34) rfl ?_
  refine o_bipush (z := (9 : Int32)) X19 hx rfl (hb hby at_35) (by decide) ?_
  refine o_iconst (z := (1 : Int32)) X19 hx rfl (hb hby at_37) (by decide) ?_
  have Fc27 : Sta Z T19.heap "java/lang/String" "COMPACT_STRINGS" "Z" (.int cs) := (own_staK pre0 Kp25)
  have hw_28 : ¬ (cs = (0 : Int32)) := hcs
  have zz29 := (Nat.le_trans zz22 K19.1)
  have zz30 := (Nat.le_trans zz23 K19.1)
  obtain ⟨_, _, ⟨T26, L26, k26, n26⟩, -, X26, ⟨Lc26, hQ26, l26, y26, z26⟩, st26⟩ := Jvm.LawKit.callS X19 hx (y := (⟨"com/example/fact4/fact4/model/AnswerRecordWithAnswerPinLaw", "str", "(IIZ)Ljava/lang/String;"⟩ : MethodName)) hown (mvT hZ (hw _ (List.mem_of_getElem? (i := 0) rfl))) (mvT hZ (hw _ (List.mem_of_getElem? (i := 1) rfl))) (mvT hZ (hw _ (List.mem_of_getElem? (i := 2) rfl))) (mvT hZ (hw _ (List.mem_of_getElem? (i := 3) rfl))) (by decide) (backOf (W := 0) (own_rms1 l Z aA hw [] p1 (9 : Int32) cs T19.heap n0 zz29 Fc27 hw_28) hZ (hw _ (List.mem_of_getElem? (i := 3) rfl)) (hw _ (List.mem_of_getElem? (i := 2) rfl)) (by decide) (by decide)) (g := (mkF m 38 #[.val (.int p0), .val (.int p1), .val (.int p2), .val (.int p3), .val (.int p4), .val (.int p5), .val x1_0, .val x5_0, .val x12_0, .val x19_0, .unset, .unset, .unset, .unset, .unset, .unset, .unset, .unset] [(.int (1 : Int32)), (.int (9 : Int32)), (.int p1)])) rfl (by rw [hml]; rfl) (argsL := [(.int p1), (.int (9 : Int32)), (.int (1 : Int32))]) (rest := []) (lenOf own_pd9 rfl) rfl (by show 2 * 0 + _ ≤ _; exact Nat.le_of_eq rfl) (hb hby at_38) (fun _ _ => ⟨rfl, rfl, (by dsimp only [Pt.cells, Pt.slots]; decide +kernel), (by dsimp only [Pt.cells, Pt.slots]; decide +kernel)⟩)
  dsimp only [Pt.U, Pt.locs, Pt.cells, Pt.slots] at X26 l26 y26 z26 st26 hQ26
  rw [l26, y26, z26] at X26
  obtain ⟨x26_0, rfl, N26q, K26, f26_0, f26_1⟩ := hQ26
  have N31 := Fr.app N24 N26q
  have Kp32 : Keep h0 T26.heap [] := Kp25.trans K26 all0
  refine og_of st26 ?_
  show OG p e below _ _ (T26.setTop (mkF m 41 #[.val (.int p0), .val (.int p1), .val (.int p2), .val (.int p3), .val (.int p4), .val (.int p5), .val x1_0, .val x5_0, .val x12_0, .val x19_0, .unset, .unset, .unset, .unset, .unset, .unset, .unset, .unset] [x26_0]))
  clear X19 st26
  refine o_astore X26 hx rfl (hb hby at_41) f26_0 (L' := #[.val (.int p0), .val (.int p1), .val (.int p2), .val (.int p3), .val (.int p4), .val (.int p5), .val x1_0, .val x5_0, .val x12_0, .val x19_0, .val x26_0, .unset, .unset, .unset, .unset, .unset, .unset, .unset]) (by rcases ref_cases f26_0 with hh | ⟨aa, hh⟩ <;> rw [hh] <;> rfl) ?_
  refine o_iloadN X26 hx rfl (hb hby at_43) rfl ?_
  refine o_bipush (z := (18 : Int32)) X26 hx rfl (hb hby at_44) (by decide) ?_
  refine o_iconst (z := (1 : Int32)) X26 hx rfl (hb hby at_46) (by decide) ?_
  have Fc34 : Sta Z T26.heap "java/lang/String" "COMPACT_STRINGS" "Z" (.int cs) := (own_staK pre0 Kp32)
  have hw_35 : ¬ (cs = (0 : Int32)) := hcs
  have zz36 := (Nat.le_trans zz29 K26.1)
  have zz37 := (Nat.le_trans zz30 K26.1)
  obtain ⟨_, _, ⟨T33, L33, k33, n33⟩, -, X33, ⟨Lc33, hQ33, l33, y33, z33⟩, st33⟩ := Jvm.LawKit.callS X26 hx (y := (⟨"com/example/fact4/fact4/model/AnswerRecordWithAnswerPinLaw", "str", "(IIZ)Ljava/lang/String;"⟩ : MethodName)) hown (mvT hZ (hw _ (List.mem_of_getElem? (i := 0) rfl))) (mvT hZ (hw _ (List.mem_of_getElem? (i := 1) rfl))) (mvT hZ (hw _ (List.mem_of_getElem? (i := 2) rfl))) (mvT hZ (hw _ (List.mem_of_getElem? (i := 3) rfl))) (by decide) (backOf (W := 0) (own_rms1 l Z aA hw [] p1 (18 : Int32) cs T26.heap n0 zz36 Fc34 hw_35) hZ (hw _ (List.mem_of_getElem? (i := 3) rfl)) (hw _ (List.mem_of_getElem? (i := 2) rfl)) (by decide) (by decide)) (g := (mkF m 47 #[.val (.int p0), .val (.int p1), .val (.int p2), .val (.int p3), .val (.int p4), .val (.int p5), .val x1_0, .val x5_0, .val x12_0, .val x19_0, .val x26_0, .unset, .unset, .unset, .unset, .unset, .unset, .unset] [(.int (1 : Int32)), (.int (18 : Int32)), (.int p1)])) rfl (by rw [hml]; rfl) (argsL := [(.int p1), (.int (18 : Int32)), (.int (1 : Int32))]) (rest := []) (lenOf own_pd9 rfl) rfl (by show 2 * 0 + _ ≤ _; exact Nat.le_of_eq rfl) (hb hby at_47) (fun _ _ => ⟨rfl, rfl, (by dsimp only [Pt.cells, Pt.slots]; decide +kernel), (by dsimp only [Pt.cells, Pt.slots]; decide +kernel)⟩)
  dsimp only [Pt.U, Pt.locs, Pt.cells, Pt.slots] at X33 l33 y33 z33 st33 hQ33
  rw [l33, y33, z33] at X33
  obtain ⟨x33_0, rfl, N33q, K33, f33_0, f33_1⟩ := hQ33
  have N38 := Fr.app N31 N33q
  have Kp39 : Keep h0 T33.heap [] := Kp32.trans K33 all0
  refine og_of st33 ?_
  show OG p e below _ _ (T33.setTop (mkF m 50 #[.val (.int p0), .val (.int p1), .val (.int p2), .val (.int p3), .val (.int p4), .val (.int p5), .val x1_0, .val x5_0, .val x12_0, .val x19_0, .val x26_0, .unset, .unset, .unset, .unset, .unset, .unset, .unset] [x33_0]))
  clear X26 st33
  refine o_astore X33 hx rfl (hb hby at_50) f33_0 (L' := #[.val (.int p0), .val (.int p1), .val (.int p2), .val (.int p3), .val (.int p4), .val (.int p5), .val x1_0, .val x5_0, .val x12_0, .val x19_0, .val x26_0, .val x33_0, .unset, .unset, .unset, .unset, .unset, .unset]) (by rcases ref_cases f33_0 with hh | ⟨aa, hh⟩ <;> rw [hh] <;> rfl) ?_
  refine o_iloadN X33 hx rfl (hb hby at_52) rfl ?_
  refine o_iconst (z := (0 : Int32)) X33 hx rfl (hb hby at_53) (by decide) ?_
  refine o_iconst (z := (1 : Int32)) X33 hx rfl (hb hby at_54) (by decide) ?_
  have Fc41 : Sta Z T33.heap "java/lang/String" "COMPACT_STRINGS" "Z" (.int cs) := (own_staK pre0 Kp39)
  have hw_42 : ¬ (cs = (0 : Int32)) := hcs
  have zz43 := (Nat.le_trans zz36 K33.1)
  have zz44 := (Nat.le_trans zz37 K33.1)
  obtain ⟨_, _, ⟨T40, L40, k40, n40⟩, -, X40, ⟨Lc40, hQ40, l40, y40, z40⟩, st40⟩ := Jvm.LawKit.callS X33 hx (y := (⟨"com/example/fact4/fact4/model/AnswerRecordWithAnswerPinLaw", "str", "(IIZ)Ljava/lang/String;"⟩ : MethodName)) hown (mvT hZ (hw _ (List.mem_of_getElem? (i := 0) rfl))) (mvT hZ (hw _ (List.mem_of_getElem? (i := 1) rfl))) (mvT hZ (hw _ (List.mem_of_getElem? (i := 2) rfl))) (mvT hZ (hw _ (List.mem_of_getElem? (i := 3) rfl))) (by decide) (backOf (W := 0) (own_rms1 l Z aA hw [] p2 (0 : Int32) cs T33.heap n0 zz43 Fc41 hw_42) hZ (hw _ (List.mem_of_getElem? (i := 3) rfl)) (hw _ (List.mem_of_getElem? (i := 2) rfl)) (by decide) (by decide)) (g := (mkF m 55 #[.val (.int p0), .val (.int p1), .val (.int p2), .val (.int p3), .val (.int p4), .val (.int p5), .val x1_0, .val x5_0, .val x12_0, .val x19_0, .val x26_0, .val x33_0, .unset, .unset, .unset, .unset, .unset, .unset] [(.int (1 : Int32)), (.int (0 : Int32)), (.int p2)])) rfl (by rw [hml]; rfl) (argsL := [(.int p2), (.int (0 : Int32)), (.int (1 : Int32))]) (rest := []) (lenOf own_pd9 rfl) rfl (by show 2 * 0 + _ ≤ _; exact Nat.le_of_eq rfl) (hb hby at_55) (fun _ _ => ⟨rfl, rfl, (by dsimp only [Pt.cells, Pt.slots]; decide +kernel), (by dsimp only [Pt.cells, Pt.slots]; decide +kernel)⟩)
  dsimp only [Pt.U, Pt.locs, Pt.cells, Pt.slots] at X40 l40 y40 z40 st40 hQ40
  rw [l40, y40, z40] at X40
  obtain ⟨x40_0, rfl, N40q, K40, f40_0, f40_1⟩ := hQ40
  have N45 := Fr.app N38 N40q
  have Kp46 : Keep h0 T40.heap [] := Kp39.trans K40 all0
  refine og_of st40 ?_
  show OG p e below _ _ (T40.setTop (mkF m 58 #[.val (.int p0), .val (.int p1), .val (.int p2), .val (.int p3), .val (.int p4), .val (.int p5), .val x1_0, .val x5_0, .val x12_0, .val x19_0, .val x26_0, .val x33_0, .unset, .unset, .unset, .unset, .unset, .unset] [x40_0]))
  clear X33 st40
  refine o_astore X40 hx rfl (hb hby at_58) f40_0 (L' := #[.val (.int p0), .val (.int p1), .val (.int p2), .val (.int p3), .val (.int p4), .val (.int p5), .val x1_0, .val x5_0, .val x12_0, .val x19_0, .val x26_0, .val x33_0, .val x40_0, .unset, .unset, .unset, .unset, .unset]) (by rcases ref_cases f40_0 with hh | ⟨aa, hh⟩ <;> rw [hh] <;> rfl) ?_
  refine o_iloadN X40 hx rfl (hb hby at_60) rfl ?_
  refine o_bipush (z := (9 : Int32)) X40 hx rfl (hb hby at_61) (by decide) ?_
  refine o_iconst (z := (0 : Int32)) X40 hx rfl (hb hby at_63) (by decide) ?_
  have Fc48 : Sta Z T40.heap "java/lang/String" "COMPACT_STRINGS" "Z" (.int cs) := (own_staK pre0 Kp46)
  have hw_49 : ¬ (cs = (0 : Int32)) := hcs
  have zz50 := (Nat.le_trans zz43 K40.1)
  have zz51 := (Nat.le_trans zz44 K40.1)
  obtain ⟨_, _, ⟨T47, L47, k47, n47⟩, -, X47, ⟨Lc47, hQ47, l47, y47, z47⟩, st47⟩ := Jvm.LawKit.callS X40 hx (y := (⟨"com/example/fact4/fact4/model/AnswerRecordWithAnswerPinLaw", "str", "(IIZ)Ljava/lang/String;"⟩ : MethodName)) hown (mvT hZ (hw _ (List.mem_of_getElem? (i := 0) rfl))) (mvT hZ (hw _ (List.mem_of_getElem? (i := 1) rfl))) (mvT hZ (hw _ (List.mem_of_getElem? (i := 2) rfl))) (mvT hZ (hw _ (List.mem_of_getElem? (i := 3) rfl))) (by decide) (backOf (W := 0) (own_rms0 l Z aA hw [] p2 (9 : Int32) cs T40.heap n0 zz50 Fc48 hw_49) hZ (hw _ (List.mem_of_getElem? (i := 3) rfl)) (hw _ (List.mem_of_getElem? (i := 2) rfl)) (by decide) (by decide)) (g := (mkF m 64 #[.val (.int p0), .val (.int p1), .val (.int p2), .val (.int p3), .val (.int p4), .val (.int p5), .val x1_0, .val x5_0, .val x12_0, .val x19_0, .val x26_0, .val x33_0, .val x40_0, .unset, .unset, .unset, .unset, .unset] [(.int (0 : Int32)), (.int (9 : Int32)), (.int p2)])) rfl (by rw [hml]; rfl) (argsL := [(.int p2), (.int (9 : Int32)), (.int (0 : Int32))]) (rest := []) (lenOf own_pd9 rfl) rfl (by show 2 * 0 + _ ≤ _; exact Nat.le_of_eq rfl) (hb hby at_64) (fun _ _ => ⟨rfl, rfl, (by dsimp only [Pt.cells, Pt.slots]; decide +kernel), (by dsimp only [Pt.cells, Pt.slots]; decide +kernel)⟩)
  dsimp only [Pt.U, Pt.locs, Pt.cells, Pt.slots] at X47 l47 y47 z47 st47 hQ47
  rw [l47, y47, z47] at X47
  obtain ⟨b47, rfl, N47q, K47, sq47_0, f47_0⟩ := hQ47
  have gnb47 : n0 ≤ b47 := Nat.le_trans zz50 sq47_0
  have szb47 : h0.size ≤ b47 := Nat.le_trans Kp46.1 sq47_0
  have N52 := Fr.app N45 N47q
  have Kp53 : Keep h0 T47.heap [] := Kp46.trans K47 all0
  refine og_of st47 ?_
  show OG p e below _ _ (T47.setTop (mkF m 67 #[.val (.int p0), .val (.int p1), .val (.int p2), .val (.int p3), .val (.int p4), .val (.int p5), .val x1_0, .val x5_0, .val x12_0, .val x19_0, .val x26_0, .val x33_0, .val x40_0, .unset, .unset, .unset, .unset, .unset] [(.ref b47)]))
  clear X40 st47
  refine o_astore X47 hx rfl (hb hby at_67) rfl (L' := #[.val (.int p0), .val (.int p1), .val (.int p2), .val (.int p3), .val (.int p4), .val (.int p5), .val x1_0, .val x5_0, .val x12_0, .val x19_0, .val x26_0, .val x33_0, .val x40_0, .val (.ref b47), .unset, .unset, .unset, .unset]) rfl ?_
  refine o_iloadN X47 hx rfl (hb hby at_69) rfl ?_
  refine o_ldcI X47 hx rfl (hb hby at_70) hZ hown (hw _ (List.mem_of_getElem? (i := 30) rfl)) ?_
  obtain ⟨z54, hz54⟩ : ∃ z : Int32, p2 &&& (262144 : Int32) = z := ⟨_, rfl⟩
  refine o_iand (z := z54) X47 hx rfl (hb hby at_72) hz54 ?_
  by_cases hc55 : z54 = (0 : Int32)
  · skip
    refine o_ifN (pc' := 76) X47 hx rfl (hb hby at_73) ((if0 _ _).trans (teq hc55).2) ?_
    refine o_aconst_null X47 hx rfl (hb hby at_76) ?_
    refine o_goto (pc' := 85) X47 hx (hb hby at_77) (by decide) (by decide) ?_
    refine o_astore X47 hx rfl (hb hby at_85) rfl (L' := #[.val (.int p0), .val (.int p1), .val (.int p2), .val (.int p3), .val (.int p4), .val (.int p5), .val x1_0, .val x5_0, .val x12_0, .val x19_0, .val x26_0, .val x33_0, .val x40_0, .val (.ref b47), .val .null, .unset, .unset, .unset]) rfl ?_
    obtain ⟨T56, h56, X56, e56, E56, A56, D56, -, st56⟩ := newO X47 hx hZ hown (hw _ (List.mem_of_getElem? (i := 31) rfl)) (hw _ (List.mem_of_getElem? (i := 32) rfl)) (hw _ (List.mem_of_getElem? (i := 33) rfl)) rfl (g := (mkF m 87 #[.val (.int p0), .val (.int p1), .val (.int p2), .val (.int p3), .val (.int p4), .val (.int p5), .val x1_0, .val x5_0, .val x12_0, .val x19_0, .val x26_0, .val x33_0, .val x40_0, .val (.ref b47), .val .null, .unset, .unset, .unset] [])) rfl (hb hby at_87) (by decide +kernel) (by decide +kernel)
    obtain ⟨b56, g56⟩ : ∃ z, z = T47.heap.size := ⟨_, rfl⟩
    rw [← g56] at A56 D56 st56
    have ne57 : b47 ≠ b56 := Nat.ne_of_lt (Nat.lt_of_lt_of_le f47_0.lt (Nat.le_of_eq g56.symm))
    have zz58 := (Nat.le_trans zz50 K47.1)
    have zz59 := (Nat.le_trans zz51 K47.1)
    have gn56 : n0 ≤ b56 := Nat.le_trans zz58 (Nat.le_of_eq g56.symm)
    have sz56 : h0.size ≤ b56 := Nat.le_trans Kp53.1 (Nat.le_of_eq g56.symm)
    have Kp60 : Keep h0 h56 [] := Kp53.ext E56
    have F56_51 : Fld Z h56 b56 "com/example/fact4/fact4/model/AnswerRecord" "section" "Ljava/lang/String;" .null := D56 (Or.inr (hw _ (List.mem_of_getElem? (i := 51) rfl))) (ty := (.object "java/lang/String")) (by decide)
    have F56_53 : Fld Z h56 b56 "com/example/fact4/fact4/model/AnswerRecord" "question" "Ljava/lang/String;" .null := D56 (Or.inr (hw _ (List.mem_of_getElem? (i := 53) rfl))) (ty := (.object "java/lang/String")) (by decide)
    have F56_55 : Fld Z h56 b56 "com/example/fact4/fact4/model/AnswerRecord" "answerColumn" "Ljava/lang/String;" .null := D56 (Or.inr (hw _ (List.mem_of_getElem? (i := 55) rfl))) (ty := (.object "java/lang/String")) (by decide)
    have F56_57 : Fld Z h56 b56 "com/example/fact4/fact4/model/AnswerRecord" "answer" "I" (.int (0 : Int32)) := D56 (Or.inr (hw _ (List.mem_of_getElem? (i := 57) rfl))) (ty := .int) (by decide)
    have F56_59 : Fld Z h56 b56 "com/example/fact4/fact4/model/AnswerRecord" "score" "Ljava/lang/Integer;" .null := D56 (Or.inr (hw _ (List.mem_of_getElem? (i := 59) rfl))) (ty := (.object "java/lang/Integer")) (by decide)
    have F56_61 : Fld Z h56 b56 "com/example/fact4/fact4/model/AnswerRecord" "answerType" "Ljava/lang/String;" .null := D56 (Or.inr (hw _ (List.mem_of_getElem? (i := 61) rfl))) (ty := (.object "java/lang/String")) (by decide)
    have F56_63 : Fld Z h56 b56 "com/example/fact4/fact4/model/AnswerRecord" "answerStyle" "Ljava/lang/String;" .null := D56 (Or.inr (hw _ (List.mem_of_getElem? (i := 63) rfl))) (ty := (.object "java/lang/String")) (by decide)
    have F56_65 : Fld Z h56 b56 "com/example/fact4/fact4/model/AnswerRecord" "knowledgeType" "Ljava/lang/String;" .null := D56 (Or.inr (hw _ (List.mem_of_getElem? (i := 65) rfl))) (ty := (.object "java/lang/String")) (by decide)
    have F56_67 : Fld Z h56 b56 "com/example/fact4/fact4/model/AnswerRecord" "questionId" "Ljava/lang/String;" .null := D56 (Or.inr (hw _ (List.mem_of_getElem? (i := 67) rfl))) (ty := (.object "java/lang/String")) (by decide)
    have F56_69 : Fld Z h56 b56 "com/example/fact4/fact4/model/AnswerRecord" "anscolumnId" "Ljava/lang/String;" .null := D56 (Or.inr (hw _ (List.mem_of_getElem? (i := 69) rfl))) (ty := (.object "java/lang/String")) (by decide)
    refine og_of st56 ?_
    show OG p e below _ _ (T56.setTop (mkF m 90 #[.val (.int p0), .val (.int p1), .val (.int p2), .val (.int p3), .val (.int p4), .val (.int p5), .val x1_0, .val x5_0, .val x12_0, .val x19_0, .val x26_0, .val x33_0, .val x40_0, .val (.ref b47), .val .null, .unset, .unset, .unset] [(.ref b56)]))
    clear X47 st56
    refine o_dup X56 hx rfl (hb hby at_90) rfl ?_
    refine o_aload X56 hx rfl (hb hby at_91) rfl f1_0 ?_
    refine o_aload X56 hx rfl (hb hby at_93) rfl f5_0 ?_
    refine o_aload X56 hx rfl (hb hby at_95) rfl f12_0 ?_
    refine o_iloadN X56 hx rfl (hb hby at_97) rfl ?_
    refine o_aload X56 hx rfl (hb hby at_98) rfl rfl ?_
    refine o_aload X56 hx rfl (hb hby at_100) rfl f19_0 ?_
    refine o_aload X56 hx rfl (hb hby at_102) rfl f26_0 ?_
    refine o_aload X56 hx rfl (hb hby at_104) rfl f33_0 ?_
    refine o_aload X56 hx rfl (hb hby at_106) rfl f40_0 ?_
    refine o_aload X56 hx rfl (hb hby at_108) rfl rfl ?_
    have zz62 := (Nat.le_trans zz58 E56.1)
    have zz63 := (Nat.le_trans zz59 E56.1)
    obtain ⟨_, _, ⟨T61, L61, k61, n61⟩, -, X61, hS61', hg61', ⟨Lc61, hQ61, l61, y61, z61⟩, st61⟩ := X56.specialBackS hx (y := (⟨"com/example/fact4/fact4/model/AnswerRecord", "<init>", "(Ljava/lang/String;Ljava/lang/String;Ljava/lang/String;ILjava/lang/Integer;Ljava/lang/String;Ljava/lang/String;Ljava/lang/String;Ljava/lang/String;Ljava/lang/String;)V"⟩ : MethodName)) rfl hown (mvT hZ (hw _ (List.mem_of_getElem? (i := 34) rfl))) (mvT hZ (hw _ (List.mem_of_getElem? (i := 35) rfl))) (mvT hZ (hw _ (List.mem_of_getElem? (i := 36) rfl))) (by decide) (backOfS (W := 1) (own_rm7 l Z aA hw [] b56 x1_0 x5_0 x12_0 p3 .null x19_0 x26_0 x33_0 x40_0 b47 h56 n0 zz62 A56 gn56 F56_51 F56_53 F56_55 F56_57 F56_59 F56_61 F56_63 F56_65 F56_67 F56_69 f1_0 f5_0 f12_0 rfl f19_0 f26_0 f33_0 f40_0) hZ (hw _ (List.mem_of_getElem? (i := 36) rfl)) (hw _ (List.mem_of_getElem? (i := 33) rfl)) (by decide) (by decide)) (g := (mkF m 110 #[.val (.int p0), .val (.int p1), .val (.int p2), .val (.int p3), .val (.int p4), .val (.int p5), .val x1_0, .val x5_0, .val x12_0, .val x19_0, .val x26_0, .val x33_0, .val x40_0, .val (.ref b47), .val .null, .unset, .unset, .unset] [(.ref b47), x40_0, x33_0, x26_0, x19_0, .null, (.int p3), x12_0, x5_0, x1_0, (.ref b56), (.ref b56)])) rfl (by rw [hml]; rfl) (Steps.refl _) (a := b56) (argsL := [x1_0, x5_0, x12_0, (.int p3), .null, x19_0, x26_0, x33_0, x40_0, (.ref b47)]) (rest := [(.ref b56)]) (lenOf own_pd7 rfl) rfl (by show 2 * 0 + _ ≤ _; exact Nat.le_of_eq rfl) (hb hby at_110) (fun _ _ => ⟨rfl, e56, (by dsimp only [Pt.cells, Pt.slots]; decide +kernel), (by dsimp only [Pt.cells, Pt.slots]; decide +kernel)⟩)
    dsimp only [Pt.U, Pt.locs, Pt.cells, Pt.slots] at X61 l61 y61 z61 st61 hQ61 hS61' hg61'
    rw [l61, y61, z61] at X61
    obtain ⟨X61, hS61, hZ, hown⟩ := rebS hS0 (Nat.le_trans zz63 (Nat.le_of_eq (congrArg Array.size e56.symm))) X61 hS61' hg61' hZ hown
    obtain ⟨rfl, N61q, K61, f61_0, f61_1, f61_2, f61_3, f61_4, f61_5, f61_6, f61_7, f61_8, f61_9⟩ := hQ61
    have N64 := Fr.app N52 N61q
    have Kp65 : Keep h0 T61.heap [] := Kp60.trans K61 (allS (Or.inr sz56) all0)
    refine og_tr st61 ?_
    show OG p e below _ _ (T61.setTop (mkF m 113 #[.val (.int p0), .val (.int p1), .val (.int p2), .val (.int p3), .val (.int p4), .val (.int p5), .val x1_0, .val x5_0, .val x12_0, .val x19_0, .val x26_0, .val x33_0, .val x40_0, .val (.ref b47), .val .null, .unset, .unset, .unset] [(.ref b56)]))
    clear X56 st61
    refine o_astore X61 hx rfl (hb hby at_113) rfl (L' := #[.val (.int p0), .val (.int p1), .val (.int p2), .val (.int p3), .val (.int p4), .val (.int p5), .val x1_0, .val x5_0, .val x12_0, .val x19_0, .val x26_0, .val x33_0, .val x40_0, .val (.ref b47), .val .null, .val (.ref b56), .unset, .unset]) rfl ?_
    refine o_aload X61 hx rfl (hb hby at_115) rfl rfl ?_
    refine o_iload X61 hx rfl (hb hby at_117) rfl ?_
    have zz67 := (Nat.le_trans zz62 K61.1)
    have Fc68 : Exa Z T61.heap b56 "com/example/fact4/fact4/model/AnswerRecord" := (A56.keep K61)
    obtain ⟨cq66, kq66, q66a, q66b, q66c⟩ := isOf hZ rfl Fc68
    obtain ⟨_, _, ⟨T66, L66, k66, n66⟩, -, X66, hS66', hg66', ⟨Lc66, hQ66, l66, y66, z66⟩, st66⟩ := X61.virtualBackS hx (y := (⟨"com/example/fact4/fact4/model/AnswerRecord", "withAnswer", "(I)Lcom/example/fact4/fact4/model/AnswerRecord;"⟩ : MethodName)) (z := (⟨"com/example/fact4/fact4/model/AnswerRecord", "withAnswer", "(I)Lcom/example/fact4/fact4/model/AnswerRecord;"⟩ : MethodName)) hown (mvT hZ (hw _ (List.mem_of_getElem? (i := 70) rfl))) (mvT hZ (hw _ (List.mem_of_getElem? (i := 71) rfl))) (notFace_of_selects (args := #[]) (mvT hZ (hw _ (List.mem_of_getElem? (i := 73) rfl)))) (mvT hZ (hw _ (List.mem_of_getElem? (i := 73) rfl))) (mvT hZ (hw _ (List.mem_of_getElem? (i := 72) rfl))) (by decide) (backOfS (W := 0) (own_rm10 l Z aA hw [] b56 p5 x1_0 x5_0 x12_0 .null x19_0 x26_0 x33_0 x40_0 p3 b47 T61.heap n0 zz67 f61_0 f61_1 f61_2 f61_3 f61_4 f61_5 f61_6 f61_7 f61_8 f61_9 f1_0 f5_0 f12_0 rfl f19_0 f26_0 f33_0 f40_0) hZ (hw _ (List.mem_of_getElem? (i := 74) rfl)) (hw _ (List.mem_of_getElem? (i := 33) rfl)) (by decide) (by decide)) q66a q66c (g := (mkF m 119 #[.val (.int p0), .val (.int p1), .val (.int p2), .val (.int p3), .val (.int p4), .val (.int p5), .val x1_0, .val x5_0, .val x12_0, .val x19_0, .val x26_0, .val x33_0, .val x40_0, .val (.ref b47), .val .null, .val (.ref b56), .unset, .unset] [(.int p5), (.ref b56)])) rfl (by rw [hml]; rfl) (Steps.refl _) (argsL := [(.int p5)]) (rest := []) (lenOf own_pd10 rfl) rfl (by show 2 * 0 + _ ≤ _; exact Nat.le_of_eq rfl) (hb hby at_119) (fun _ _ => ⟨rfl, rfl, (by dsimp only [Pt.cells, Pt.slots]; decide +kernel), (by dsimp only [Pt.cells, Pt.slots]; decide +kernel)⟩)
    dsimp only [Pt.U, Pt.locs, Pt.cells, Pt.slots] at X66 l66 y66 z66 st66 hQ66 hS66' hg66'
    rw [l66, y66, z66] at X66
    obtain ⟨X66, hS66, hZ, hown⟩ := rebS hS61 (Nat.le_trans (Nat.le_refl _) (Nat.le_of_eq rfl)) X66 hS66' hg66' hZ hown
    obtain ⟨b66, rfl, N66q, K66, sq66_0, f66_0, f66_1, f66_2, f66_3, f66_4, f66_5, f66_6, f66_7, f66_8, f66_9, f66_10⟩ := hQ66
    have Fc69 : Exa Z T61.heap b47 "java/lang/String" := ((Exa.ext E56 f47_0).keep K61)
    have ne70 : b47 ≠ b66 := Nat.ne_of_lt (Nat.lt_of_lt_of_le Fc69.lt sq66_0)
    have ne71 : b56 ≠ b66 := Nat.ne_of_lt (Nat.lt_of_lt_of_le Fc68.lt sq66_0)
    have gnb66 : n0 ≤ b66 := Nat.le_trans zz67 sq66_0
    have szb66 : h0.size ≤ b66 := Nat.le_trans Kp65.1 sq66_0
    have N72 := Fr.app N64 N66q
    have Kp73 : Keep h0 T66.heap [] := Kp65.trans K66 all0
    refine og_tr st66 ?_
    show OG p e below _ _ (T66.setTop (mkF m 122 #[.val (.int p0), .val (.int p1), .val (.int p2), .val (.int p3), .val (.int p4), .val (.int p5), .val x1_0, .val x5_0, .val x12_0, .val x19_0, .val x26_0, .val x33_0, .val x40_0, .val (.ref b47), .val .null, .val (.ref b56), .unset, .unset] [(.ref b66)]))
    clear X61 st66
    refine o_astore X66 hx rfl (hb hby at_122) rfl (L' := #[.val (.int p0), .val (.int p1), .val (.int p2), .val (.int p3), .val (.int p4), .val (.int p5), .val x1_0, .val x5_0, .val x12_0, .val x19_0, .val x26_0, .val x33_0, .val x40_0, .val (.ref b47), .val .null, .val (.ref b56), .val (.ref b66), .unset]) rfl ?_
    refine o_aload X66 hx rfl (hb hby at_124) rfl rfl ?_
    have zz75 := (Nat.le_trans zz67 K66.1)
    obtain ⟨cq74, kq74, q74a, q74b, q74c⟩ := isOf hZ rfl f66_0
    obtain ⟨_, _, ⟨T74, L74, k74, n74⟩, -, X74, ⟨Lc74, hQ74, l74, y74, z74⟩, st74⟩ := X66.virtualBack hx (y := (⟨"com/example/fact4/fact4/model/AnswerRecord", "answer", "()I"⟩ : MethodName)) (z := (⟨"com/example/fact4/fact4/model/AnswerRecord", "answer", "()I"⟩ : MethodName)) hown (mvT hZ (hw _ (List.mem_of_getElem? (i := 77) rfl))) (mvT hZ (hw _ (List.mem_of_getElem? (i := 78) rfl))) (notFace_of_selects (args := #[]) (mvT hZ (hw _ (List.mem_of_getElem? (i := 80) rfl)))) (mvT hZ (hw _ (List.mem_of_getElem? (i := 80) rfl))) (mvT hZ (hw _ (List.mem_of_getElem? (i := 79) rfl))) (by decide) (backOf (W := 0) (own_rm11 l Z aA hw [] b66 p5 T66.heap n0 zz75 f66_9) hZ (hw _ (List.mem_of_getElem? (i := 81) rfl)) (hw _ (List.mem_of_getElem? (i := 33) rfl)) (by decide) (by decide)) q74a q74c (g := (mkF m 126 #[.val (.int p0), .val (.int p1), .val (.int p2), .val (.int p3), .val (.int p4), .val (.int p5), .val x1_0, .val x5_0, .val x12_0, .val x19_0, .val x26_0, .val x33_0, .val x40_0, .val (.ref b47), .val .null, .val (.ref b56), .val (.ref b66), .unset] [(.ref b66)])) rfl (by rw [hml]; rfl) (Steps.refl _) (argsL := []) (rest := []) (lenOf own_pd11 rfl) rfl (by show 2 * 0 + _ ≤ _; exact Nat.le_of_eq rfl) (hb hby at_126) (fun _ _ => ⟨rfl, rfl, (by dsimp only [Pt.cells, Pt.slots]; decide +kernel), (by dsimp only [Pt.cells, Pt.slots]; decide +kernel)⟩)
    dsimp only [Pt.U, Pt.locs, Pt.cells, Pt.slots] at X74 l74 y74 z74 st74 hQ74
    rw [l74, y74, z74] at X74
    obtain ⟨rfl, N74q, ee74⟩ := hQ74
    have N76 := Fr.app N72 N74q
    refine og_tr st74 ?_
    show OG p e below _ _ (T74.setTop (mkF m 129 #[.val (.int p0), .val (.int p1), .val (.int p2), .val (.int p3), .val (.int p4), .val (.int p5), .val x1_0, .val x5_0, .val x12_0, .val x19_0, .val x26_0, .val x33_0, .val x40_0, .val (.ref b47), .val .null, .val (.ref b56), .val (.ref b66), .unset] [(.int p5)]))
    clear X66 st74
    refine o_iload X74 hx rfl (hb hby at_129) rfl ?_
    have hk77 : p5 = p5 := rfl
    refine o_icmpY (pc' := 136) X74 hx (hb hby at_131) (teq hk77).1 (by decide) (by decide) ?_
    refine o_aload X74 hx rfl (hb hby at_136) rfl rfl ?_
    obtain ⟨cq78, kq78, q78a, q78b, q78c⟩ := isOf hZ ee74 f66_0
    obtain ⟨_, _, ⟨T78, L78, k78, n78⟩, -, X78, ⟨Lc78, hQ78, l78, y78, z78⟩, st78⟩ := X74.virtualBack hx (y := (⟨"com/example/fact4/fact4/model/AnswerRecord", "section", "()Ljava/lang/String;"⟩ : MethodName)) (z := (⟨"com/example/fact4/fact4/model/AnswerRecord", "section", "()Ljava/lang/String;"⟩ : MethodName)) hown (mvT hZ (hw _ (List.mem_of_getElem? (i := 82) rfl))) (mvT hZ (hw _ (List.mem_of_getElem? (i := 83) rfl))) (notFace_of_selects (args := #[]) (mvT hZ (hw _ (List.mem_of_getElem? (i := 85) rfl)))) (mvT hZ (hw _ (List.mem_of_getElem? (i := 85) rfl))) (mvT hZ (hw _ (List.mem_of_getElem? (i := 84) rfl))) (by decide) (backOf (W := 0) (own_rm12 l Z aA hw [] b66 x1_0 T66.heap n0 zz75 f66_1 f1_0) hZ (hw _ (List.mem_of_getElem? (i := 86) rfl)) (hw _ (List.mem_of_getElem? (i := 33) rfl)) (by decide) (by decide)) q78a q78c (g := (mkF m 138 #[.val (.int p0), .val (.int p1), .val (.int p2), .val (.int p3), .val (.int p4), .val (.int p5), .val x1_0, .val x5_0, .val x12_0, .val x19_0, .val x26_0, .val x33_0, .val x40_0, .val (.ref b47), .val .null, .val (.ref b56), .val (.ref b66), .unset] [(.ref b66)])) rfl (by rw [hml]; rfl) (Steps.refl _) (argsL := []) (rest := []) (lenOf own_pd12 rfl) rfl (by show 2 * 0 + _ ≤ _; exact Nat.le_of_eq rfl) (hb hby at_138) (fun _ _ => ⟨rfl, ee74, (by dsimp only [Pt.cells, Pt.slots]; decide +kernel), (by dsimp only [Pt.cells, Pt.slots]; decide +kernel)⟩)
    dsimp only [Pt.U, Pt.locs, Pt.cells, Pt.slots] at X78 l78 y78 z78 st78 hQ78
    rw [l78, y78, z78] at X78
    obtain ⟨rfl, N78q, ee78⟩ := hQ78
    have N79 := Fr.app N76 N78q
    refine og_tr st78 ?_
    show OG p e below _ _ (T78.setTop (mkF m 141 #[.val (.int p0), .val (.int p1), .val (.int p2), .val (.int p3), .val (.int p4), .val (.int p5), .val x1_0, .val x5_0, .val x12_0, .val x19_0, .val x26_0, .val x33_0, .val x40_0, .val (.ref b47), .val .null, .val (.ref b56), .val (.ref b66), .unset] [x1_0]))
    clear X74 st78
    refine o_aload X78 hx rfl (hb hby at_141) rfl f1_0 ?_
    have Fc81 : own_S Z T66.heap x1_0 := (own_S_map (fun _ _ qq => qq.keep K66) (own_S_map (fun _ _ qq => qq.keep K61) (own_S_map (fun _ _ qq => Exa.ext E56 qq) (own_S_map (fun _ _ qq => qq.keep K47) (own_S_map (fun _ _ qq => qq.keep K40) (own_S_map (fun _ _ qq => qq.keep K33) (own_S_map (fun _ _ qq => qq.keep K26) (own_S_map (fun _ _ qq => qq.keep K19) (own_S_map (fun _ _ qq => qq.keep K12) (own_S_map (fun _ _ qq => qq.keep K5) f1_1))))))))))
    obtain ⟨_, _, ⟨T80, L80, k80, n80⟩, -, X80, ⟨Lc80, hQ80, l80, y80, z80⟩, st80⟩ := Jvm.LawKit.callS X78 hx (y := (⟨"com/example/fact4/fact4/model/AnswerRecordWithAnswerPinLaw", "eq", "(Ljava/lang/String;Ljava/lang/String;)Z"⟩ : MethodName)) hown (mvT hZ (hw _ (List.mem_of_getElem? (i := 87) rfl))) (mvT hZ (hw _ (List.mem_of_getElem? (i := 88) rfl))) (mvT hZ (hw _ (List.mem_of_getElem? (i := 2) rfl))) (mvT hZ (hw _ (List.mem_of_getElem? (i := 89) rfl))) (by decide) (backOf (W := 0) (own_rmeq l Z aA hw [] x1_0 T66.heap n0 zz75 Fc81) hZ (hw _ (List.mem_of_getElem? (i := 89) rfl)) (hw _ (List.mem_of_getElem? (i := 2) rfl)) (by decide) (by decide)) (g := (mkF m 143 #[.val (.int p0), .val (.int p1), .val (.int p2), .val (.int p3), .val (.int p4), .val (.int p5), .val x1_0, .val x5_0, .val x12_0, .val x19_0, .val x26_0, .val x33_0, .val x40_0, .val (.ref b47), .val .null, .val (.ref b56), .val (.ref b66), .unset] [x1_0, x1_0])) rfl (by rw [hml]; rfl) (argsL := [x1_0, x1_0]) (rest := []) (lenOf own_pd13 rfl) rfl (by show 2 * 0 + _ ≤ _; exact Nat.le_of_eq rfl) (hb hby at_143) (fun _ _ => ⟨rfl, ee78, (by dsimp only [Pt.cells, Pt.slots]; decide +kernel), (by dsimp only [Pt.cells, Pt.slots]; decide +kernel)⟩)
    dsimp only [Pt.U, Pt.locs, Pt.cells, Pt.slots] at X80 l80 y80 z80 st80 hQ80
    rw [l80, y80, z80] at X80
    obtain ⟨rfl, N80q, ee80⟩ := hQ80
    have N82 := Fr.app N79 N80q
    refine og_of st80 ?_
    show OG p e below _ _ (T80.setTop (mkF m 146 #[.val (.int p0), .val (.int p1), .val (.int p2), .val (.int p3), .val (.int p4), .val (.int p5), .val x1_0, .val x5_0, .val x12_0, .val x19_0, .val x26_0, .val x33_0, .val x40_0, .val (.ref b47), .val .null, .val (.ref b56), .val (.ref b66), .unset] [(.int (1 : Int32))]))
    clear X78 st80
    refine o_ifY (pc' := 151) X80 hx (hb hby at_146) ((if0 _ _).trans (feq (by decide : ¬ ((1 : Int32) = (0 : Int32)))).2) (by decide) (by decide) ?_
    refine o_aload X80 hx rfl (hb hby at_151) rfl rfl ?_
    obtain ⟨cq83, kq83, q83a, q83b, q83c⟩ := isOf hZ ee80 f66_0
    obtain ⟨_, _, ⟨T83, L83, k83, n83⟩, -, X83, ⟨Lc83, hQ83, l83, y83, z83⟩, st83⟩ := X80.virtualBack hx (y := (⟨"com/example/fact4/fact4/model/AnswerRecord", "question", "()Ljava/lang/String;"⟩ : MethodName)) (z := (⟨"com/example/fact4/fact4/model/AnswerRecord", "question", "()Ljava/lang/String;"⟩ : MethodName)) hown (mvT hZ (hw _ (List.mem_of_getElem? (i := 90) rfl))) (mvT hZ (hw _ (List.mem_of_getElem? (i := 91) rfl))) (notFace_of_selects (args := #[]) (mvT hZ (hw _ (List.mem_of_getElem? (i := 93) rfl)))) (mvT hZ (hw _ (List.mem_of_getElem? (i := 93) rfl))) (mvT hZ (hw _ (List.mem_of_getElem? (i := 92) rfl))) (by decide) (backOf (W := 0) (own_rm14 l Z aA hw [] b66 x5_0 T66.heap n0 zz75 f66_2 f5_0) hZ (hw _ (List.mem_of_getElem? (i := 94) rfl)) (hw _ (List.mem_of_getElem? (i := 33) rfl)) (by decide) (by decide)) q83a q83c (g := (mkF m 153 #[.val (.int p0), .val (.int p1), .val (.int p2), .val (.int p3), .val (.int p4), .val (.int p5), .val x1_0, .val x5_0, .val x12_0, .val x19_0, .val x26_0, .val x33_0, .val x40_0, .val (.ref b47), .val .null, .val (.ref b56), .val (.ref b66), .unset] [(.ref b66)])) rfl (by rw [hml]; rfl) (Steps.refl _) (argsL := []) (rest := []) (lenOf own_pd12 rfl) rfl (by show 2 * 0 + _ ≤ _; exact Nat.le_of_eq rfl) (hb hby at_153) (fun _ _ => ⟨rfl, ee80, (by dsimp only [Pt.cells, Pt.slots]; decide +kernel), (by dsimp only [Pt.cells, Pt.slots]; decide +kernel)⟩)
    dsimp only [Pt.U, Pt.locs, Pt.cells, Pt.slots] at X83 l83 y83 z83 st83 hQ83
    rw [l83, y83, z83] at X83
    obtain ⟨rfl, N83q, ee83⟩ := hQ83
    have N84 := Fr.app N82 N83q
    refine og_tr st83 ?_
    show OG p e below _ _ (T83.setTop (mkF m 156 #[.val (.int p0), .val (.int p1), .val (.int p2), .val (.int p3), .val (.int p4), .val (.int p5), .val x1_0, .val x5_0, .val x12_0, .val x19_0, .val x26_0, .val x33_0, .val x40_0, .val (.ref b47), .val .null, .val (.ref b56), .val (.ref b66), .unset] [x5_0]))
    clear X80 st83
    refine o_aload X83 hx rfl (hb hby at_156) rfl f5_0 ?_
    have Fc86 : own_S Z T66.heap x5_0 := (own_S_map (fun _ _ qq => qq.keep K66) (own_S_map (fun _ _ qq => qq.keep K61) (own_S_map (fun _ _ qq => Exa.ext E56 qq) (own_S_map (fun _ _ qq => qq.keep K47) (own_S_map (fun _ _ qq => qq.keep K40) (own_S_map (fun _ _ qq => qq.keep K33) (own_S_map (fun _ _ qq => qq.keep K26) (own_S_map (fun _ _ qq => qq.keep K19) (own_S_map (fun _ _ qq => qq.keep K12) f5_1)))))))))
    obtain ⟨_, _, ⟨T85, L85, k85, n85⟩, -, X85, ⟨Lc85, hQ85, l85, y85, z85⟩, st85⟩ := Jvm.LawKit.callS X83 hx (y := (⟨"com/example/fact4/fact4/model/AnswerRecordWithAnswerPinLaw", "eq", "(Ljava/lang/String;Ljava/lang/String;)Z"⟩ : MethodName)) hown (mvT hZ (hw _ (List.mem_of_getElem? (i := 87) rfl))) (mvT hZ (hw _ (List.mem_of_getElem? (i := 88) rfl))) (mvT hZ (hw _ (List.mem_of_getElem? (i := 2) rfl))) (mvT hZ (hw _ (List.mem_of_getElem? (i := 89) rfl))) (by decide) (backOf (W := 0) (own_rmeq l Z aA hw [] x5_0 T66.heap n0 zz75 Fc86) hZ (hw _ (List.mem_of_getElem? (i := 89) rfl)) (hw _ (List.mem_of_getElem? (i := 2) rfl)) (by decide) (by decide)) (g := (mkF m 158 #[.val (.int p0), .val (.int p1), .val (.int p2), .val (.int p3), .val (.int p4), .val (.int p5), .val x1_0, .val x5_0, .val x12_0, .val x19_0, .val x26_0, .val x33_0, .val x40_0, .val (.ref b47), .val .null, .val (.ref b56), .val (.ref b66), .unset] [x5_0, x5_0])) rfl (by rw [hml]; rfl) (argsL := [x5_0, x5_0]) (rest := []) (lenOf own_pd13 rfl) rfl (by show 2 * 0 + _ ≤ _; exact Nat.le_of_eq rfl) (hb hby at_158) (fun _ _ => ⟨rfl, ee83, (by dsimp only [Pt.cells, Pt.slots]; decide +kernel), (by dsimp only [Pt.cells, Pt.slots]; decide +kernel)⟩)
    dsimp only [Pt.U, Pt.locs, Pt.cells, Pt.slots] at X85 l85 y85 z85 st85 hQ85
    rw [l85, y85, z85] at X85
    obtain ⟨rfl, N85q, ee85⟩ := hQ85
    have N87 := Fr.app N84 N85q
    refine og_of st85 ?_
    show OG p e below _ _ (T85.setTop (mkF m 161 #[.val (.int p0), .val (.int p1), .val (.int p2), .val (.int p3), .val (.int p4), .val (.int p5), .val x1_0, .val x5_0, .val x12_0, .val x19_0, .val x26_0, .val x33_0, .val x40_0, .val (.ref b47), .val .null, .val (.ref b56), .val (.ref b66), .unset] [(.int (1 : Int32))]))
    clear X83 st85
    refine o_ifY (pc' := 166) X85 hx (hb hby at_161) ((if0 _ _).trans (feq (by decide : ¬ ((1 : Int32) = (0 : Int32)))).2) (by decide) (by decide) ?_
    refine o_aload X85 hx rfl (hb hby at_166) rfl rfl ?_
    obtain ⟨cq88, kq88, q88a, q88b, q88c⟩ := isOf hZ ee85 f66_0
    obtain ⟨_, _, ⟨T88, L88, k88, n88⟩, -, X88, ⟨Lc88, hQ88, l88, y88, z88⟩, st88⟩ := X85.virtualBack hx (y := (⟨"com/example/fact4/fact4/model/AnswerRecord", "answerColumn", "()Ljava/lang/String;"⟩ : MethodName)) (z := (⟨"com/example/fact4/fact4/model/AnswerRecord", "answerColumn", "()Ljava/lang/String;"⟩ : MethodName)) hown (mvT hZ (hw _ (List.mem_of_getElem? (i := 95) rfl))) (mvT hZ (hw _ (List.mem_of_getElem? (i := 96) rfl))) (notFace_of_selects (args := #[]) (mvT hZ (hw _ (List.mem_of_getElem? (i := 98) rfl)))) (mvT hZ (hw _ (List.mem_of_getElem? (i := 98) rfl))) (mvT hZ (hw _ (List.mem_of_getElem? (i := 97) rfl))) (by decide) (backOf (W := 0) (own_rm15 l Z aA hw [] b66 x12_0 T66.heap n0 zz75 f66_3 f12_0) hZ (hw _ (List.mem_of_getElem? (i := 99) rfl)) (hw _ (List.mem_of_getElem? (i := 33) rfl)) (by decide) (by decide)) q88a q88c (g := (mkF m 168 #[.val (.int p0), .val (.int p1), .val (.int p2), .val (.int p3), .val (.int p4), .val (.int p5), .val x1_0, .val x5_0, .val x12_0, .val x19_0, .val x26_0, .val x33_0, .val x40_0, .val (.ref b47), .val .null, .val (.ref b56), .val (.ref b66), .unset] [(.ref b66)])) rfl (by rw [hml]; rfl) (Steps.refl _) (argsL := []) (rest := []) (lenOf own_pd12 rfl) rfl (by show 2 * 0 + _ ≤ _; exact Nat.le_of_eq rfl) (hb hby at_168) (fun _ _ => ⟨rfl, ee85, (by dsimp only [Pt.cells, Pt.slots]; decide +kernel), (by dsimp only [Pt.cells, Pt.slots]; decide +kernel)⟩)
    dsimp only [Pt.U, Pt.locs, Pt.cells, Pt.slots] at X88 l88 y88 z88 st88 hQ88
    rw [l88, y88, z88] at X88
    obtain ⟨rfl, N88q, ee88⟩ := hQ88
    have N89 := Fr.app N87 N88q
    refine og_tr st88 ?_
    show OG p e below _ _ (T88.setTop (mkF m 171 #[.val (.int p0), .val (.int p1), .val (.int p2), .val (.int p3), .val (.int p4), .val (.int p5), .val x1_0, .val x5_0, .val x12_0, .val x19_0, .val x26_0, .val x33_0, .val x40_0, .val (.ref b47), .val .null, .val (.ref b56), .val (.ref b66), .unset] [x12_0]))
    clear X85 st88
    refine o_aload X88 hx rfl (hb hby at_171) rfl f12_0 ?_
    have Fc91 : own_S Z T66.heap x12_0 := (own_S_map (fun _ _ qq => qq.keep K66) (own_S_map (fun _ _ qq => qq.keep K61) (own_S_map (fun _ _ qq => Exa.ext E56 qq) (own_S_map (fun _ _ qq => qq.keep K47) (own_S_map (fun _ _ qq => qq.keep K40) (own_S_map (fun _ _ qq => qq.keep K33) (own_S_map (fun _ _ qq => qq.keep K26) (own_S_map (fun _ _ qq => qq.keep K19) f12_1))))))))
    obtain ⟨_, _, ⟨T90, L90, k90, n90⟩, -, X90, ⟨Lc90, hQ90, l90, y90, z90⟩, st90⟩ := Jvm.LawKit.callS X88 hx (y := (⟨"com/example/fact4/fact4/model/AnswerRecordWithAnswerPinLaw", "eq", "(Ljava/lang/String;Ljava/lang/String;)Z"⟩ : MethodName)) hown (mvT hZ (hw _ (List.mem_of_getElem? (i := 87) rfl))) (mvT hZ (hw _ (List.mem_of_getElem? (i := 88) rfl))) (mvT hZ (hw _ (List.mem_of_getElem? (i := 2) rfl))) (mvT hZ (hw _ (List.mem_of_getElem? (i := 89) rfl))) (by decide) (backOf (W := 0) (own_rmeq l Z aA hw [] x12_0 T66.heap n0 zz75 Fc91) hZ (hw _ (List.mem_of_getElem? (i := 89) rfl)) (hw _ (List.mem_of_getElem? (i := 2) rfl)) (by decide) (by decide)) (g := (mkF m 173 #[.val (.int p0), .val (.int p1), .val (.int p2), .val (.int p3), .val (.int p4), .val (.int p5), .val x1_0, .val x5_0, .val x12_0, .val x19_0, .val x26_0, .val x33_0, .val x40_0, .val (.ref b47), .val .null, .val (.ref b56), .val (.ref b66), .unset] [x12_0, x12_0])) rfl (by rw [hml]; rfl) (argsL := [x12_0, x12_0]) (rest := []) (lenOf own_pd13 rfl) rfl (by show 2 * 0 + _ ≤ _; exact Nat.le_of_eq rfl) (hb hby at_173) (fun _ _ => ⟨rfl, ee88, (by dsimp only [Pt.cells, Pt.slots]; decide +kernel), (by dsimp only [Pt.cells, Pt.slots]; decide +kernel)⟩)
    dsimp only [Pt.U, Pt.locs, Pt.cells, Pt.slots] at X90 l90 y90 z90 st90 hQ90
    rw [l90, y90, z90] at X90
    obtain ⟨rfl, N90q, ee90⟩ := hQ90
    have N92 := Fr.app N89 N90q
    refine og_of st90 ?_
    show OG p e below _ _ (T90.setTop (mkF m 176 #[.val (.int p0), .val (.int p1), .val (.int p2), .val (.int p3), .val (.int p4), .val (.int p5), .val x1_0, .val x5_0, .val x12_0, .val x19_0, .val x26_0, .val x33_0, .val x40_0, .val (.ref b47), .val .null, .val (.ref b56), .val (.ref b66), .unset] [(.int (1 : Int32))]))
    clear X88 st90
    refine o_ifY (pc' := 181) X90 hx (hb hby at_176) ((if0 _ _).trans (feq (by decide : ¬ ((1 : Int32) = (0 : Int32)))).2) (by decide) (by decide) ?_
    refine o_aload X90 hx rfl (hb hby at_181) rfl rfl ?_
    obtain ⟨cq93, kq93, q93a, q93b, q93c⟩ := isOf hZ ee90 f66_0
    obtain ⟨_, _, ⟨T93, L93, k93, n93⟩, -, X93, ⟨Lc93, hQ93, l93, y93, z93⟩, st93⟩ := X90.virtualBack hx (y := (⟨"com/example/fact4/fact4/model/AnswerRecord", "answerType", "()Ljava/lang/String;"⟩ : MethodName)) (z := (⟨"com/example/fact4/fact4/model/AnswerRecord", "answerType", "()Ljava/lang/String;"⟩ : MethodName)) hown (mvT hZ (hw _ (List.mem_of_getElem? (i := 100) rfl))) (mvT hZ (hw _ (List.mem_of_getElem? (i := 101) rfl))) (notFace_of_selects (args := #[]) (mvT hZ (hw _ (List.mem_of_getElem? (i := 103) rfl)))) (mvT hZ (hw _ (List.mem_of_getElem? (i := 103) rfl))) (mvT hZ (hw _ (List.mem_of_getElem? (i := 102) rfl))) (by decide) (backOf (W := 0) (own_rm16 l Z aA hw [] b66 x19_0 T66.heap n0 zz75 f66_5 f19_0) hZ (hw _ (List.mem_of_getElem? (i := 104) rfl)) (hw _ (List.mem_of_getElem? (i := 33) rfl)) (by decide) (by decide)) q93a q93c (g := (mkF m 183 #[.val (.int p0), .val (.int p1), .val (.int p2), .val (.int p3), .val (.int p4), .val (.int p5), .val x1_0, .val x5_0, .val x12_0, .val x19_0, .val x26_0, .val x33_0, .val x40_0, .val (.ref b47), .val .null, .val (.ref b56), .val (.ref b66), .unset] [(.ref b66)])) rfl (by rw [hml]; rfl) (Steps.refl _) (argsL := []) (rest := []) (lenOf own_pd12 rfl) rfl (by show 2 * 0 + _ ≤ _; exact Nat.le_of_eq rfl) (hb hby at_183) (fun _ _ => ⟨rfl, ee90, (by dsimp only [Pt.cells, Pt.slots]; decide +kernel), (by dsimp only [Pt.cells, Pt.slots]; decide +kernel)⟩)
    dsimp only [Pt.U, Pt.locs, Pt.cells, Pt.slots] at X93 l93 y93 z93 st93 hQ93
    rw [l93, y93, z93] at X93
    obtain ⟨rfl, N93q, ee93⟩ := hQ93
    have N94 := Fr.app N92 N93q
    refine og_tr st93 ?_
    show OG p e below _ _ (T93.setTop (mkF m 186 #[.val (.int p0), .val (.int p1), .val (.int p2), .val (.int p3), .val (.int p4), .val (.int p5), .val x1_0, .val x5_0, .val x12_0, .val x19_0, .val x26_0, .val x33_0, .val x40_0, .val (.ref b47), .val .null, .val (.ref b56), .val (.ref b66), .unset] [x19_0]))
    clear X90 st93
    refine o_aload X93 hx rfl (hb hby at_186) rfl f19_0 ?_
    have Fc96 : own_S Z T66.heap x19_0 := (own_S_map (fun _ _ qq => qq.keep K66) (own_S_map (fun _ _ qq => qq.keep K61) (own_S_map (fun _ _ qq => Exa.ext E56 qq) (own_S_map (fun _ _ qq => qq.keep K47) (own_S_map (fun _ _ qq => qq.keep K40) (own_S_map (fun _ _ qq => qq.keep K33) (own_S_map (fun _ _ qq => qq.keep K26) f19_1)))))))
    obtain ⟨_, _, ⟨T95, L95, k95, n95⟩, -, X95, ⟨Lc95, hQ95, l95, y95, z95⟩, st95⟩ := Jvm.LawKit.callS X93 hx (y := (⟨"com/example/fact4/fact4/model/AnswerRecordWithAnswerPinLaw", "eq", "(Ljava/lang/String;Ljava/lang/String;)Z"⟩ : MethodName)) hown (mvT hZ (hw _ (List.mem_of_getElem? (i := 87) rfl))) (mvT hZ (hw _ (List.mem_of_getElem? (i := 88) rfl))) (mvT hZ (hw _ (List.mem_of_getElem? (i := 2) rfl))) (mvT hZ (hw _ (List.mem_of_getElem? (i := 89) rfl))) (by decide) (backOf (W := 0) (own_rmeq l Z aA hw [] x19_0 T66.heap n0 zz75 Fc96) hZ (hw _ (List.mem_of_getElem? (i := 89) rfl)) (hw _ (List.mem_of_getElem? (i := 2) rfl)) (by decide) (by decide)) (g := (mkF m 188 #[.val (.int p0), .val (.int p1), .val (.int p2), .val (.int p3), .val (.int p4), .val (.int p5), .val x1_0, .val x5_0, .val x12_0, .val x19_0, .val x26_0, .val x33_0, .val x40_0, .val (.ref b47), .val .null, .val (.ref b56), .val (.ref b66), .unset] [x19_0, x19_0])) rfl (by rw [hml]; rfl) (argsL := [x19_0, x19_0]) (rest := []) (lenOf own_pd13 rfl) rfl (by show 2 * 0 + _ ≤ _; exact Nat.le_of_eq rfl) (hb hby at_188) (fun _ _ => ⟨rfl, ee93, (by dsimp only [Pt.cells, Pt.slots]; decide +kernel), (by dsimp only [Pt.cells, Pt.slots]; decide +kernel)⟩)
    dsimp only [Pt.U, Pt.locs, Pt.cells, Pt.slots] at X95 l95 y95 z95 st95 hQ95
    rw [l95, y95, z95] at X95
    obtain ⟨rfl, N95q, ee95⟩ := hQ95
    have N97 := Fr.app N94 N95q
    refine og_of st95 ?_
    show OG p e below _ _ (T95.setTop (mkF m 191 #[.val (.int p0), .val (.int p1), .val (.int p2), .val (.int p3), .val (.int p4), .val (.int p5), .val x1_0, .val x5_0, .val x12_0, .val x19_0, .val x26_0, .val x33_0, .val x40_0, .val (.ref b47), .val .null, .val (.ref b56), .val (.ref b66), .unset] [(.int (1 : Int32))]))
    clear X93 st95
    refine o_ifY (pc' := 196) X95 hx (hb hby at_191) ((if0 _ _).trans (feq (by decide : ¬ ((1 : Int32) = (0 : Int32)))).2) (by decide) (by decide) ?_
    refine o_aload X95 hx rfl (hb hby at_196) rfl rfl ?_
    obtain ⟨cq98, kq98, q98a, q98b, q98c⟩ := isOf hZ ee95 f66_0
    obtain ⟨_, _, ⟨T98, L98, k98, n98⟩, -, X98, ⟨Lc98, hQ98, l98, y98, z98⟩, st98⟩ := X95.virtualBack hx (y := (⟨"com/example/fact4/fact4/model/AnswerRecord", "answerStyle", "()Ljava/lang/String;"⟩ : MethodName)) (z := (⟨"com/example/fact4/fact4/model/AnswerRecord", "answerStyle", "()Ljava/lang/String;"⟩ : MethodName)) hown (mvT hZ (hw _ (List.mem_of_getElem? (i := 105) rfl))) (mvT hZ (hw _ (List.mem_of_getElem? (i := 106) rfl))) (notFace_of_selects (args := #[]) (mvT hZ (hw _ (List.mem_of_getElem? (i := 108) rfl)))) (mvT hZ (hw _ (List.mem_of_getElem? (i := 108) rfl))) (mvT hZ (hw _ (List.mem_of_getElem? (i := 107) rfl))) (by decide) (backOf (W := 0) (own_rm17 l Z aA hw [] b66 x26_0 T66.heap n0 zz75 f66_6 f26_0) hZ (hw _ (List.mem_of_getElem? (i := 109) rfl)) (hw _ (List.mem_of_getElem? (i := 33) rfl)) (by decide) (by decide)) q98a q98c (g := (mkF m 198 #[.val (.int p0), .val (.int p1), .val (.int p2), .val (.int p3), .val (.int p4), .val (.int p5), .val x1_0, .val x5_0, .val x12_0, .val x19_0, .val x26_0, .val x33_0, .val x40_0, .val (.ref b47), .val .null, .val (.ref b56), .val (.ref b66), .unset] [(.ref b66)])) rfl (by rw [hml]; rfl) (Steps.refl _) (argsL := []) (rest := []) (lenOf own_pd12 rfl) rfl (by show 2 * 0 + _ ≤ _; exact Nat.le_of_eq rfl) (hb hby at_198) (fun _ _ => ⟨rfl, ee95, (by dsimp only [Pt.cells, Pt.slots]; decide +kernel), (by dsimp only [Pt.cells, Pt.slots]; decide +kernel)⟩)
    dsimp only [Pt.U, Pt.locs, Pt.cells, Pt.slots] at X98 l98 y98 z98 st98 hQ98
    rw [l98, y98, z98] at X98
    obtain ⟨rfl, N98q, ee98⟩ := hQ98
    have N99 := Fr.app N97 N98q
    refine og_tr st98 ?_
    show OG p e below _ _ (T98.setTop (mkF m 201 #[.val (.int p0), .val (.int p1), .val (.int p2), .val (.int p3), .val (.int p4), .val (.int p5), .val x1_0, .val x5_0, .val x12_0, .val x19_0, .val x26_0, .val x33_0, .val x40_0, .val (.ref b47), .val .null, .val (.ref b56), .val (.ref b66), .unset] [x26_0]))
    clear X95 st98
    refine o_aload X98 hx rfl (hb hby at_201) rfl f26_0 ?_
    have Fc101 : own_S Z T66.heap x26_0 := (own_S_map (fun _ _ qq => qq.keep K66) (own_S_map (fun _ _ qq => qq.keep K61) (own_S_map (fun _ _ qq => Exa.ext E56 qq) (own_S_map (fun _ _ qq => qq.keep K47) (own_S_map (fun _ _ qq => qq.keep K40) (own_S_map (fun _ _ qq => qq.keep K33) f26_1))))))
    obtain ⟨_, _, ⟨T100, L100, k100, n100⟩, -, X100, ⟨Lc100, hQ100, l100, y100, z100⟩, st100⟩ := Jvm.LawKit.callS X98 hx (y := (⟨"com/example/fact4/fact4/model/AnswerRecordWithAnswerPinLaw", "eq", "(Ljava/lang/String;Ljava/lang/String;)Z"⟩ : MethodName)) hown (mvT hZ (hw _ (List.mem_of_getElem? (i := 87) rfl))) (mvT hZ (hw _ (List.mem_of_getElem? (i := 88) rfl))) (mvT hZ (hw _ (List.mem_of_getElem? (i := 2) rfl))) (mvT hZ (hw _ (List.mem_of_getElem? (i := 89) rfl))) (by decide) (backOf (W := 0) (own_rmeq l Z aA hw [] x26_0 T66.heap n0 zz75 Fc101) hZ (hw _ (List.mem_of_getElem? (i := 89) rfl)) (hw _ (List.mem_of_getElem? (i := 2) rfl)) (by decide) (by decide)) (g := (mkF m 203 #[.val (.int p0), .val (.int p1), .val (.int p2), .val (.int p3), .val (.int p4), .val (.int p5), .val x1_0, .val x5_0, .val x12_0, .val x19_0, .val x26_0, .val x33_0, .val x40_0, .val (.ref b47), .val .null, .val (.ref b56), .val (.ref b66), .unset] [x26_0, x26_0])) rfl (by rw [hml]; rfl) (argsL := [x26_0, x26_0]) (rest := []) (lenOf own_pd13 rfl) rfl (by show 2 * 0 + _ ≤ _; exact Nat.le_of_eq rfl) (hb hby at_203) (fun _ _ => ⟨rfl, ee98, (by dsimp only [Pt.cells, Pt.slots]; decide +kernel), (by dsimp only [Pt.cells, Pt.slots]; decide +kernel)⟩)
    dsimp only [Pt.U, Pt.locs, Pt.cells, Pt.slots] at X100 l100 y100 z100 st100 hQ100
    rw [l100, y100, z100] at X100
    obtain ⟨rfl, N100q, ee100⟩ := hQ100
    have N102 := Fr.app N99 N100q
    refine og_of st100 ?_
    show OG p e below _ _ (T100.setTop (mkF m 206 #[.val (.int p0), .val (.int p1), .val (.int p2), .val (.int p3), .val (.int p4), .val (.int p5), .val x1_0, .val x5_0, .val x12_0, .val x19_0, .val x26_0, .val x33_0, .val x40_0, .val (.ref b47), .val .null, .val (.ref b56), .val (.ref b66), .unset] [(.int (1 : Int32))]))
    clear X98 st100
    refine o_ifY (pc' := 211) X100 hx (hb hby at_206) ((if0 _ _).trans (feq (by decide : ¬ ((1 : Int32) = (0 : Int32)))).2) (by decide) (by decide) ?_
    refine o_aload X100 hx rfl (hb hby at_211) rfl rfl ?_
    obtain ⟨cq103, kq103, q103a, q103b, q103c⟩ := isOf hZ ee100 f66_0
    obtain ⟨_, _, ⟨T103, L103, k103, n103⟩, -, X103, ⟨Lc103, hQ103, l103, y103, z103⟩, st103⟩ := X100.virtualBack hx (y := (⟨"com/example/fact4/fact4/model/AnswerRecord", "knowledgeType", "()Ljava/lang/String;"⟩ : MethodName)) (z := (⟨"com/example/fact4/fact4/model/AnswerRecord", "knowledgeType", "()Ljava/lang/String;"⟩ : MethodName)) hown (mvT hZ (hw _ (List.mem_of_getElem? (i := 110) rfl))) (mvT hZ (hw _ (List.mem_of_getElem? (i := 111) rfl))) (notFace_of_selects (args := #[]) (mvT hZ (hw _ (List.mem_of_getElem? (i := 113) rfl)))) (mvT hZ (hw _ (List.mem_of_getElem? (i := 113) rfl))) (mvT hZ (hw _ (List.mem_of_getElem? (i := 112) rfl))) (by decide) (backOf (W := 0) (own_rm18 l Z aA hw [] b66 x33_0 T66.heap n0 zz75 f66_7 f33_0) hZ (hw _ (List.mem_of_getElem? (i := 114) rfl)) (hw _ (List.mem_of_getElem? (i := 33) rfl)) (by decide) (by decide)) q103a q103c (g := (mkF m 213 #[.val (.int p0), .val (.int p1), .val (.int p2), .val (.int p3), .val (.int p4), .val (.int p5), .val x1_0, .val x5_0, .val x12_0, .val x19_0, .val x26_0, .val x33_0, .val x40_0, .val (.ref b47), .val .null, .val (.ref b56), .val (.ref b66), .unset] [(.ref b66)])) rfl (by rw [hml]; rfl) (Steps.refl _) (argsL := []) (rest := []) (lenOf own_pd12 rfl) rfl (by show 2 * 0 + _ ≤ _; exact Nat.le_of_eq rfl) (hb hby at_213) (fun _ _ => ⟨rfl, ee100, (by dsimp only [Pt.cells, Pt.slots]; decide +kernel), (by dsimp only [Pt.cells, Pt.slots]; decide +kernel)⟩)
    dsimp only [Pt.U, Pt.locs, Pt.cells, Pt.slots] at X103 l103 y103 z103 st103 hQ103
    rw [l103, y103, z103] at X103
    obtain ⟨rfl, N103q, ee103⟩ := hQ103
    have N104 := Fr.app N102 N103q
    refine og_tr st103 ?_
    show OG p e below _ _ (T103.setTop (mkF m 216 #[.val (.int p0), .val (.int p1), .val (.int p2), .val (.int p3), .val (.int p4), .val (.int p5), .val x1_0, .val x5_0, .val x12_0, .val x19_0, .val x26_0, .val x33_0, .val x40_0, .val (.ref b47), .val .null, .val (.ref b56), .val (.ref b66), .unset] [x33_0]))
    clear X100 st103
    refine o_aload X103 hx rfl (hb hby at_216) rfl f33_0 ?_
    have Fc106 : own_S Z T66.heap x33_0 := (own_S_map (fun _ _ qq => qq.keep K66) (own_S_map (fun _ _ qq => qq.keep K61) (own_S_map (fun _ _ qq => Exa.ext E56 qq) (own_S_map (fun _ _ qq => qq.keep K47) (own_S_map (fun _ _ qq => qq.keep K40) f33_1)))))
    obtain ⟨_, _, ⟨T105, L105, k105, n105⟩, -, X105, ⟨Lc105, hQ105, l105, y105, z105⟩, st105⟩ := Jvm.LawKit.callS X103 hx (y := (⟨"com/example/fact4/fact4/model/AnswerRecordWithAnswerPinLaw", "eq", "(Ljava/lang/String;Ljava/lang/String;)Z"⟩ : MethodName)) hown (mvT hZ (hw _ (List.mem_of_getElem? (i := 87) rfl))) (mvT hZ (hw _ (List.mem_of_getElem? (i := 88) rfl))) (mvT hZ (hw _ (List.mem_of_getElem? (i := 2) rfl))) (mvT hZ (hw _ (List.mem_of_getElem? (i := 89) rfl))) (by decide) (backOf (W := 0) (own_rmeq l Z aA hw [] x33_0 T66.heap n0 zz75 Fc106) hZ (hw _ (List.mem_of_getElem? (i := 89) rfl)) (hw _ (List.mem_of_getElem? (i := 2) rfl)) (by decide) (by decide)) (g := (mkF m 218 #[.val (.int p0), .val (.int p1), .val (.int p2), .val (.int p3), .val (.int p4), .val (.int p5), .val x1_0, .val x5_0, .val x12_0, .val x19_0, .val x26_0, .val x33_0, .val x40_0, .val (.ref b47), .val .null, .val (.ref b56), .val (.ref b66), .unset] [x33_0, x33_0])) rfl (by rw [hml]; rfl) (argsL := [x33_0, x33_0]) (rest := []) (lenOf own_pd13 rfl) rfl (by show 2 * 0 + _ ≤ _; exact Nat.le_of_eq rfl) (hb hby at_218) (fun _ _ => ⟨rfl, ee103, (by dsimp only [Pt.cells, Pt.slots]; decide +kernel), (by dsimp only [Pt.cells, Pt.slots]; decide +kernel)⟩)
    dsimp only [Pt.U, Pt.locs, Pt.cells, Pt.slots] at X105 l105 y105 z105 st105 hQ105
    rw [l105, y105, z105] at X105
    obtain ⟨rfl, N105q, ee105⟩ := hQ105
    have N107 := Fr.app N104 N105q
    refine og_of st105 ?_
    show OG p e below _ _ (T105.setTop (mkF m 221 #[.val (.int p0), .val (.int p1), .val (.int p2), .val (.int p3), .val (.int p4), .val (.int p5), .val x1_0, .val x5_0, .val x12_0, .val x19_0, .val x26_0, .val x33_0, .val x40_0, .val (.ref b47), .val .null, .val (.ref b56), .val (.ref b66), .unset] [(.int (1 : Int32))]))
    clear X103 st105
    refine o_ifY (pc' := 226) X105 hx (hb hby at_221) ((if0 _ _).trans (feq (by decide : ¬ ((1 : Int32) = (0 : Int32)))).2) (by decide) (by decide) ?_
    refine o_aload X105 hx rfl (hb hby at_226) rfl rfl ?_
    obtain ⟨cq108, kq108, q108a, q108b, q108c⟩ := isOf hZ ee105 f66_0
    obtain ⟨_, _, ⟨T108, L108, k108, n108⟩, -, X108, ⟨Lc108, hQ108, l108, y108, z108⟩, st108⟩ := X105.virtualBack hx (y := (⟨"com/example/fact4/fact4/model/AnswerRecord", "questionId", "()Ljava/lang/String;"⟩ : MethodName)) (z := (⟨"com/example/fact4/fact4/model/AnswerRecord", "questionId", "()Ljava/lang/String;"⟩ : MethodName)) hown (mvT hZ (hw _ (List.mem_of_getElem? (i := 115) rfl))) (mvT hZ (hw _ (List.mem_of_getElem? (i := 116) rfl))) (notFace_of_selects (args := #[]) (mvT hZ (hw _ (List.mem_of_getElem? (i := 118) rfl)))) (mvT hZ (hw _ (List.mem_of_getElem? (i := 118) rfl))) (mvT hZ (hw _ (List.mem_of_getElem? (i := 117) rfl))) (by decide) (backOf (W := 0) (own_rm19 l Z aA hw [] b66 x40_0 T66.heap n0 zz75 f66_8 f40_0) hZ (hw _ (List.mem_of_getElem? (i := 119) rfl)) (hw _ (List.mem_of_getElem? (i := 33) rfl)) (by decide) (by decide)) q108a q108c (g := (mkF m 228 #[.val (.int p0), .val (.int p1), .val (.int p2), .val (.int p3), .val (.int p4), .val (.int p5), .val x1_0, .val x5_0, .val x12_0, .val x19_0, .val x26_0, .val x33_0, .val x40_0, .val (.ref b47), .val .null, .val (.ref b56), .val (.ref b66), .unset] [(.ref b66)])) rfl (by rw [hml]; rfl) (Steps.refl _) (argsL := []) (rest := []) (lenOf own_pd12 rfl) rfl (by show 2 * 0 + _ ≤ _; exact Nat.le_of_eq rfl) (hb hby at_228) (fun _ _ => ⟨rfl, ee105, (by dsimp only [Pt.cells, Pt.slots]; decide +kernel), (by dsimp only [Pt.cells, Pt.slots]; decide +kernel)⟩)
    dsimp only [Pt.U, Pt.locs, Pt.cells, Pt.slots] at X108 l108 y108 z108 st108 hQ108
    rw [l108, y108, z108] at X108
    obtain ⟨rfl, N108q, ee108⟩ := hQ108
    have N109 := Fr.app N107 N108q
    refine og_tr st108 ?_
    show OG p e below _ _ (T108.setTop (mkF m 231 #[.val (.int p0), .val (.int p1), .val (.int p2), .val (.int p3), .val (.int p4), .val (.int p5), .val x1_0, .val x5_0, .val x12_0, .val x19_0, .val x26_0, .val x33_0, .val x40_0, .val (.ref b47), .val .null, .val (.ref b56), .val (.ref b66), .unset] [x40_0]))
    clear X105 st108
    refine o_aload X108 hx rfl (hb hby at_231) rfl f40_0 ?_
    have Fc111 : own_S Z T66.heap x40_0 := (own_S_map (fun _ _ qq => qq.keep K66) (own_S_map (fun _ _ qq => qq.keep K61) (own_S_map (fun _ _ qq => Exa.ext E56 qq) (own_S_map (fun _ _ qq => qq.keep K47) f40_1))))
    obtain ⟨_, _, ⟨T110, L110, k110, n110⟩, -, X110, ⟨Lc110, hQ110, l110, y110, z110⟩, st110⟩ := Jvm.LawKit.callS X108 hx (y := (⟨"com/example/fact4/fact4/model/AnswerRecordWithAnswerPinLaw", "eq", "(Ljava/lang/String;Ljava/lang/String;)Z"⟩ : MethodName)) hown (mvT hZ (hw _ (List.mem_of_getElem? (i := 87) rfl))) (mvT hZ (hw _ (List.mem_of_getElem? (i := 88) rfl))) (mvT hZ (hw _ (List.mem_of_getElem? (i := 2) rfl))) (mvT hZ (hw _ (List.mem_of_getElem? (i := 89) rfl))) (by decide) (backOf (W := 0) (own_rmeq l Z aA hw [] x40_0 T66.heap n0 zz75 Fc111) hZ (hw _ (List.mem_of_getElem? (i := 89) rfl)) (hw _ (List.mem_of_getElem? (i := 2) rfl)) (by decide) (by decide)) (g := (mkF m 233 #[.val (.int p0), .val (.int p1), .val (.int p2), .val (.int p3), .val (.int p4), .val (.int p5), .val x1_0, .val x5_0, .val x12_0, .val x19_0, .val x26_0, .val x33_0, .val x40_0, .val (.ref b47), .val .null, .val (.ref b56), .val (.ref b66), .unset] [x40_0, x40_0])) rfl (by rw [hml]; rfl) (argsL := [x40_0, x40_0]) (rest := []) (lenOf own_pd13 rfl) rfl (by show 2 * 0 + _ ≤ _; exact Nat.le_of_eq rfl) (hb hby at_233) (fun _ _ => ⟨rfl, ee108, (by dsimp only [Pt.cells, Pt.slots]; decide +kernel), (by dsimp only [Pt.cells, Pt.slots]; decide +kernel)⟩)
    dsimp only [Pt.U, Pt.locs, Pt.cells, Pt.slots] at X110 l110 y110 z110 st110 hQ110
    rw [l110, y110, z110] at X110
    obtain ⟨rfl, N110q, ee110⟩ := hQ110
    have N112 := Fr.app N109 N110q
    refine og_of st110 ?_
    show OG p e below _ _ (T110.setTop (mkF m 236 #[.val (.int p0), .val (.int p1), .val (.int p2), .val (.int p3), .val (.int p4), .val (.int p5), .val x1_0, .val x5_0, .val x12_0, .val x19_0, .val x26_0, .val x33_0, .val x40_0, .val (.ref b47), .val .null, .val (.ref b56), .val (.ref b66), .unset] [(.int (1 : Int32))]))
    clear X108 st110
    refine o_ifY (pc' := 241) X110 hx (hb hby at_236) ((if0 _ _).trans (feq (by decide : ¬ ((1 : Int32) = (0 : Int32)))).2) (by decide) (by decide) ?_
    refine o_aload X110 hx rfl (hb hby at_241) rfl rfl ?_
    obtain ⟨cq113, kq113, q113a, q113b, q113c⟩ := isOf hZ ee110 f66_0
    obtain ⟨_, _, ⟨T113, L113, k113, n113⟩, -, X113, ⟨Lc113, hQ113, l113, y113, z113⟩, st113⟩ := X110.virtualBack hx (y := (⟨"com/example/fact4/fact4/model/AnswerRecord", "anscolumnId", "()Ljava/lang/String;"⟩ : MethodName)) (z := (⟨"com/example/fact4/fact4/model/AnswerRecord", "anscolumnId", "()Ljava/lang/String;"⟩ : MethodName)) hown (mvT hZ (hw _ (List.mem_of_getElem? (i := 120) rfl))) (mvT hZ (hw _ (List.mem_of_getElem? (i := 121) rfl))) (notFace_of_selects (args := #[]) (mvT hZ (hw _ (List.mem_of_getElem? (i := 123) rfl)))) (mvT hZ (hw _ (List.mem_of_getElem? (i := 123) rfl))) (mvT hZ (hw _ (List.mem_of_getElem? (i := 122) rfl))) (by decide) (backOf (W := 0) (own_rm20 l Z aA hw [] b66 (.ref b47) T66.heap n0 zz75 f66_10 rfl) hZ (hw _ (List.mem_of_getElem? (i := 124) rfl)) (hw _ (List.mem_of_getElem? (i := 33) rfl)) (by decide) (by decide)) q113a q113c (g := (mkF m 243 #[.val (.int p0), .val (.int p1), .val (.int p2), .val (.int p3), .val (.int p4), .val (.int p5), .val x1_0, .val x5_0, .val x12_0, .val x19_0, .val x26_0, .val x33_0, .val x40_0, .val (.ref b47), .val .null, .val (.ref b56), .val (.ref b66), .unset] [(.ref b66)])) rfl (by rw [hml]; rfl) (Steps.refl _) (argsL := []) (rest := []) (lenOf own_pd12 rfl) rfl (by show 2 * 0 + _ ≤ _; exact Nat.le_of_eq rfl) (hb hby at_243) (fun _ _ => ⟨rfl, ee110, (by dsimp only [Pt.cells, Pt.slots]; decide +kernel), (by dsimp only [Pt.cells, Pt.slots]; decide +kernel)⟩)
    dsimp only [Pt.U, Pt.locs, Pt.cells, Pt.slots] at X113 l113 y113 z113 st113 hQ113
    rw [l113, y113, z113] at X113
    obtain ⟨rfl, N113q, ee113⟩ := hQ113
    have N114 := Fr.app N112 N113q
    refine og_tr st113 ?_
    show OG p e below _ _ (T113.setTop (mkF m 246 #[.val (.int p0), .val (.int p1), .val (.int p2), .val (.int p3), .val (.int p4), .val (.int p5), .val x1_0, .val x5_0, .val x12_0, .val x19_0, .val x26_0, .val x33_0, .val x40_0, .val (.ref b47), .val .null, .val (.ref b56), .val (.ref b66), .unset] [(.ref b47)]))
    clear X110 st113
    refine o_aload X113 hx rfl (hb hby at_246) rfl rfl ?_
    have Fc116 : Exa Z T66.heap b47 "java/lang/String" := (Fc69.keep K66)
    obtain ⟨_, _, ⟨T115, L115, k115, n115⟩, -, X115, ⟨Lc115, hQ115, l115, y115, z115⟩, st115⟩ := Jvm.LawKit.callS X113 hx (y := (⟨"com/example/fact4/fact4/model/AnswerRecordWithAnswerPinLaw", "eq", "(Ljava/lang/String;Ljava/lang/String;)Z"⟩ : MethodName)) hown (mvT hZ (hw _ (List.mem_of_getElem? (i := 87) rfl))) (mvT hZ (hw _ (List.mem_of_getElem? (i := 88) rfl))) (mvT hZ (hw _ (List.mem_of_getElem? (i := 2) rfl))) (mvT hZ (hw _ (List.mem_of_getElem? (i := 89) rfl))) (by decide) (backOf (W := 0) (own_rmeq l Z aA hw [] (.ref b47) T66.heap n0 zz75 (Or.inr ⟨b47, rfl, Fc116⟩)) hZ (hw _ (List.mem_of_getElem? (i := 89) rfl)) (hw _ (List.mem_of_getElem? (i := 2) rfl)) (by decide) (by decide)) (g := (mkF m 248 #[.val (.int p0), .val (.int p1), .val (.int p2), .val (.int p3), .val (.int p4), .val (.int p5), .val x1_0, .val x5_0, .val x12_0, .val x19_0, .val x26_0, .val x33_0, .val x40_0, .val (.ref b47), .val .null, .val (.ref b56), .val (.ref b66), .unset] [(.ref b47), (.ref b47)])) rfl (by rw [hml]; rfl) (argsL := [(.ref b47), (.ref b47)]) (rest := []) (lenOf own_pd13 rfl) rfl (by show 2 * 0 + _ ≤ _; exact Nat.le_of_eq rfl) (hb hby at_248) (fun _ _ => ⟨rfl, ee113, (by dsimp only [Pt.cells, Pt.slots]; decide +kernel), (by dsimp only [Pt.cells, Pt.slots]; decide +kernel)⟩)
    dsimp only [Pt.U, Pt.locs, Pt.cells, Pt.slots] at X115 l115 y115 z115 st115 hQ115
    rw [l115, y115, z115] at X115
    obtain ⟨rfl, N115q, ee115⟩ := hQ115
    have N117 := Fr.app N114 N115q
    refine og_of st115 ?_
    show OG p e below _ _ (T115.setTop (mkF m 251 #[.val (.int p0), .val (.int p1), .val (.int p2), .val (.int p3), .val (.int p4), .val (.int p5), .val x1_0, .val x5_0, .val x12_0, .val x19_0, .val x26_0, .val x33_0, .val x40_0, .val (.ref b47), .val .null, .val (.ref b56), .val (.ref b66), .unset] [(.int (1 : Int32))]))
    clear X113 st115
    refine o_ifY (pc' := 256) X115 hx (hb hby at_251) ((if0 _ _).trans (feq (by decide : ¬ ((1 : Int32) = (0 : Int32)))).2) (by decide) (by decide) ?_
    refine o_aload X115 hx rfl (hb hby at_256) rfl rfl ?_
    obtain ⟨cq118, kq118, q118a, q118b, q118c⟩ := isOf hZ ee115 f66_0
    obtain ⟨_, _, ⟨T118, L118, k118, n118⟩, -, X118, ⟨Lc118, hQ118, l118, y118, z118⟩, st118⟩ := X115.virtualBack hx (y := (⟨"com/example/fact4/fact4/model/AnswerRecord", "score", "()Ljava/lang/Integer;"⟩ : MethodName)) (z := (⟨"com/example/fact4/fact4/model/AnswerRecord", "score", "()Ljava/lang/Integer;"⟩ : MethodName)) hown (mvT hZ (hw _ (List.mem_of_getElem? (i := 130) rfl))) (mvT hZ (hw _ (List.mem_of_getElem? (i := 131) rfl))) (notFace_of_selects (args := #[]) (mvT hZ (hw _ (List.mem_of_getElem? (i := 133) rfl)))) (mvT hZ (hw _ (List.mem_of_getElem? (i := 133) rfl))) (mvT hZ (hw _ (List.mem_of_getElem? (i := 132) rfl))) (by decide) (backOf (W := 0) (own_rm22 l Z aA hw [] b66 .null T66.heap n0 zz75 f66_4 rfl) hZ (hw _ (List.mem_of_getElem? (i := 134) rfl)) (hw _ (List.mem_of_getElem? (i := 33) rfl)) (by decide) (by decide)) q118a q118c (g := (mkF m 258 #[.val (.int p0), .val (.int p1), .val (.int p2), .val (.int p3), .val (.int p4), .val (.int p5), .val x1_0, .val x5_0, .val x12_0, .val x19_0, .val x26_0, .val x33_0, .val x40_0, .val (.ref b47), .val .null, .val (.ref b56), .val (.ref b66), .unset] [(.ref b66)])) rfl (by rw [hml]; rfl) (Steps.refl _) (argsL := []) (rest := []) (lenOf own_pd14 rfl) rfl (by show 2 * 0 + _ ≤ _; exact Nat.le_of_eq rfl) (hb hby at_258) (fun _ _ => ⟨rfl, ee115, (by dsimp only [Pt.cells, Pt.slots]; decide +kernel), (by dsimp only [Pt.cells, Pt.slots]; decide +kernel)⟩)
    dsimp only [Pt.U, Pt.locs, Pt.cells, Pt.slots] at X118 l118 y118 z118 st118 hQ118
    rw [l118, y118, z118] at X118
    obtain ⟨rfl, N118q, ee118⟩ := hQ118
    have N119 := Fr.app N117 N118q
    refine og_tr st118 ?_
    show OG p e below _ _ (T118.setTop (mkF m 261 #[.val (.int p0), .val (.int p1), .val (.int p2), .val (.int p3), .val (.int p4), .val (.int p5), .val x1_0, .val x5_0, .val x12_0, .val x19_0, .val x26_0, .val x33_0, .val x40_0, .val (.ref b47), .val .null, .val (.ref b56), .val (.ref b66), .unset] [.null]))
    clear X115 st118
    refine o_astore X118 hx rfl (hb hby at_261) rfl (L' := #[.val (.int p0), .val (.int p1), .val (.int p2), .val (.int p3), .val (.int p4), .val (.int p5), .val x1_0, .val x5_0, .val x12_0, .val x19_0, .val x26_0, .val x33_0, .val x40_0, .val (.ref b47), .val .null, .val (.ref b56), .val (.ref b66), .val .null]) rfl ?_
    refine o_aload X118 hx rfl (hb hby at_263) rfl rfl ?_
    refine o_ifnonnullN X118 hx rfl (hb hby at_265) ?_
    refine o_aload X118 hx rfl (hb hby at_268) rfl rfl ?_
    refine o_ifnonnullN X118 hx rfl (hb hby at_270) ?_
    refine o_iconst (z := (1 : Int32)) X118 hx rfl (hb hby at_273) (by decide) ?_
    refine o_goto (pc' := 278) X118 hx (hb hby at_274) (by decide) (by decide) ?_
    exact o_retB X118 hx Bd.returns (own_lvW X118 hlk hS66 (by rw [ee118]; exact (Nat.le_refl _)) (by decide +kernel) (by decide +kernel)) (hb hby at_278) (by decide) ⟨rfl, N119⟩
  · skip
    refine o_ifY (pc' := 80) X47 hx (hb hby at_73) ((if0 _ _).trans (feq hc55).2) (by decide) (by decide) ?_
    refine o_iload X47 hx rfl (hb hby at_80) rfl ?_
    have Fc121 : Sta Z T47.heap "java/lang/Integer$IntegerCache" "high" "I" (.int (127 : Int32)) := (own_staK pre1 Kp53)
    have Fc122 : Sta Z T47.heap "java/lang/Integer$IntegerCache" "cache" "[Ljava/lang/Integer;" (.ref arr) := (own_staK pre2 Kp53)
    have hw_123 : own_C Z T47.heap arr := own_C_keep hC Kp53
    have zz124 := (Nat.le_trans zz50 K47.1)
    have zz125 := (Nat.le_trans zz51 K47.1)
    obtain ⟨_, _, ⟨T120, L120, k120, n120⟩, -, X120, ⟨Lc120, hQ120, l120, y120, z120⟩, st120⟩ := Jvm.LawKit.callS X47 hx (y := (⟨"java/lang/Integer", "valueOf", "(I)Ljava/lang/Integer;"⟩ : MethodName)) hown (mvT hZ (hw _ (List.mem_of_getElem? (i := 135) rfl))) (mvT hZ (hw _ (List.mem_of_getElem? (i := 136) rfl))) (mvT hZ (hw _ (List.mem_of_getElem? (i := 137) rfl))) (mvT hZ (hw _ (List.mem_of_getElem? (i := 138) rfl))) (by decide) (backOf (W := 0) (own_rm23 l Z aA hw [] p4 arr T47.heap n0 zz124 Fc121 Fc122 hw_123) hZ (hw _ (List.mem_of_getElem? (i := 138) rfl)) (hw _ (List.mem_of_getElem? (i := 137) rfl)) (by decide) (by decide)) (g := (mkF m 82 #[.val (.int p0), .val (.int p1), .val (.int p2), .val (.int p3), .val (.int p4), .val (.int p5), .val x1_0, .val x5_0, .val x12_0, .val x19_0, .val x26_0, .val x33_0, .val x40_0, .val (.ref b47), .unset, .unset, .unset, .unset] [(.int p4)])) rfl (by rw [hml]; rfl) (argsL := [(.int p4)]) (rest := []) (lenOf own_pd15 rfl) rfl (by show 2 * 0 + _ ≤ _; exact Nat.le_of_eq rfl) (hb hby at_82) (fun _ _ => ⟨rfl, rfl, (by dsimp only [Pt.cells, Pt.slots]; decide +kernel), (by dsimp only [Pt.cells, Pt.slots]; decide +kernel)⟩)
    dsimp only [Pt.U, Pt.locs, Pt.cells, Pt.slots] at X120 l120 y120 z120 st120 hQ120
    rw [l120, y120, z120] at X120
    obtain ⟨b120, rfl, N120q, K120, f120_0, f120_1⟩ := hQ120
    have N126 := Fr.app N52 N120q
    have Kp127 : Keep h0 T120.heap [] := Kp53.trans K120 all0
    refine og_of st120 ?_
    show OG p e below _ _ (T120.setTop (mkF m 85 #[.val (.int p0), .val (.int p1), .val (.int p2), .val (.int p3), .val (.int p4), .val (.int p5), .val x1_0, .val x5_0, .val x12_0, .val x19_0, .val x26_0, .val x33_0, .val x40_0, .val (.ref b47), .unset, .unset, .unset, .unset] [(.ref b120)]))
    clear X47 st120
    refine o_astore X120 hx rfl (hb hby at_85) rfl (L' := #[.val (.int p0), .val (.int p1), .val (.int p2), .val (.int p3), .val (.int p4), .val (.int p5), .val x1_0, .val x5_0, .val x12_0, .val x19_0, .val x26_0, .val x33_0, .val x40_0, .val (.ref b47), .val (.ref b120), .unset, .unset, .unset]) rfl ?_
    obtain ⟨T128, h128, X128, e128, E128, A128, D128, -, st128⟩ := newO X120 hx hZ hown (hw _ (List.mem_of_getElem? (i := 31) rfl)) (hw _ (List.mem_of_getElem? (i := 32) rfl)) (hw _ (List.mem_of_getElem? (i := 33) rfl)) rfl (g := (mkF m 87 #[.val (.int p0), .val (.int p1), .val (.int p2), .val (.int p3), .val (.int p4), .val (.int p5), .val x1_0, .val x5_0, .val x12_0, .val x19_0, .val x26_0, .val x33_0, .val x40_0, .val (.ref b47), .val (.ref b120), .unset, .unset, .unset] [])) rfl (hb hby at_87) (by decide +kernel) (by decide +kernel)
    obtain ⟨b128, g128⟩ : ∃ z, z = T120.heap.size := ⟨_, rfl⟩
    rw [← g128] at A128 D128 st128
    have Fc129 : Exa Z T120.heap b47 "java/lang/String" := (f47_0.keep K120)
    have ne130 : b47 ≠ b128 := Nat.ne_of_lt (Nat.lt_of_lt_of_le Fc129.lt (Nat.le_of_eq g128.symm))
    have ne131 : b120 ≠ b128 := Nat.ne_of_lt (Nat.lt_of_lt_of_le f120_0.lt (Nat.le_of_eq g128.symm))
    have zz132 := (Nat.le_trans zz124 K120.1)
    have zz133 := (Nat.le_trans zz125 K120.1)
    have gn128 : n0 ≤ b128 := Nat.le_trans zz132 (Nat.le_of_eq g128.symm)
    have sz128 : h0.size ≤ b128 := Nat.le_trans Kp127.1 (Nat.le_of_eq g128.symm)
    have Kp134 : Keep h0 h128 [] := Kp127.ext E128
    have F128_51 : Fld Z h128 b128 "com/example/fact4/fact4/model/AnswerRecord" "section" "Ljava/lang/String;" .null := D128 (Or.inr (hw _ (List.mem_of_getElem? (i := 51) rfl))) (ty := (.object "java/lang/String")) (by decide)
    have F128_53 : Fld Z h128 b128 "com/example/fact4/fact4/model/AnswerRecord" "question" "Ljava/lang/String;" .null := D128 (Or.inr (hw _ (List.mem_of_getElem? (i := 53) rfl))) (ty := (.object "java/lang/String")) (by decide)
    have F128_55 : Fld Z h128 b128 "com/example/fact4/fact4/model/AnswerRecord" "answerColumn" "Ljava/lang/String;" .null := D128 (Or.inr (hw _ (List.mem_of_getElem? (i := 55) rfl))) (ty := (.object "java/lang/String")) (by decide)
    have F128_57 : Fld Z h128 b128 "com/example/fact4/fact4/model/AnswerRecord" "answer" "I" (.int (0 : Int32)) := D128 (Or.inr (hw _ (List.mem_of_getElem? (i := 57) rfl))) (ty := .int) (by decide)
    have F128_59 : Fld Z h128 b128 "com/example/fact4/fact4/model/AnswerRecord" "score" "Ljava/lang/Integer;" .null := D128 (Or.inr (hw _ (List.mem_of_getElem? (i := 59) rfl))) (ty := (.object "java/lang/Integer")) (by decide)
    have F128_61 : Fld Z h128 b128 "com/example/fact4/fact4/model/AnswerRecord" "answerType" "Ljava/lang/String;" .null := D128 (Or.inr (hw _ (List.mem_of_getElem? (i := 61) rfl))) (ty := (.object "java/lang/String")) (by decide)
    have F128_63 : Fld Z h128 b128 "com/example/fact4/fact4/model/AnswerRecord" "answerStyle" "Ljava/lang/String;" .null := D128 (Or.inr (hw _ (List.mem_of_getElem? (i := 63) rfl))) (ty := (.object "java/lang/String")) (by decide)
    have F128_65 : Fld Z h128 b128 "com/example/fact4/fact4/model/AnswerRecord" "knowledgeType" "Ljava/lang/String;" .null := D128 (Or.inr (hw _ (List.mem_of_getElem? (i := 65) rfl))) (ty := (.object "java/lang/String")) (by decide)
    have F128_67 : Fld Z h128 b128 "com/example/fact4/fact4/model/AnswerRecord" "questionId" "Ljava/lang/String;" .null := D128 (Or.inr (hw _ (List.mem_of_getElem? (i := 67) rfl))) (ty := (.object "java/lang/String")) (by decide)
    have F128_69 : Fld Z h128 b128 "com/example/fact4/fact4/model/AnswerRecord" "anscolumnId" "Ljava/lang/String;" .null := D128 (Or.inr (hw _ (List.mem_of_getElem? (i := 69) rfl))) (ty := (.object "java/lang/String")) (by decide)
    refine og_of st128 ?_
    show OG p e below _ _ (T128.setTop (mkF m 90 #[.val (.int p0), .val (.int p1), .val (.int p2), .val (.int p3), .val (.int p4), .val (.int p5), .val x1_0, .val x5_0, .val x12_0, .val x19_0, .val x26_0, .val x33_0, .val x40_0, .val (.ref b47), .val (.ref b120), .unset, .unset, .unset] [(.ref b128)]))
    clear X120 st128
    refine o_dup X128 hx rfl (hb hby at_90) rfl ?_
    refine o_aload X128 hx rfl (hb hby at_91) rfl f1_0 ?_
    refine o_aload X128 hx rfl (hb hby at_93) rfl f5_0 ?_
    refine o_aload X128 hx rfl (hb hby at_95) rfl f12_0 ?_
    refine o_iloadN X128 hx rfl (hb hby at_97) rfl ?_
    refine o_aload X128 hx rfl (hb hby at_98) rfl rfl ?_
    refine o_aload X128 hx rfl (hb hby at_100) rfl f19_0 ?_
    refine o_aload X128 hx rfl (hb hby at_102) rfl f26_0 ?_
    refine o_aload X128 hx rfl (hb hby at_104) rfl f33_0 ?_
    refine o_aload X128 hx rfl (hb hby at_106) rfl f40_0 ?_
    refine o_aload X128 hx rfl (hb hby at_108) rfl rfl ?_
    have zz136 := (Nat.le_trans zz132 E128.1)
    have zz137 := (Nat.le_trans zz133 E128.1)
    obtain ⟨_, _, ⟨T135, L135, k135, n135⟩, -, X135, hS135', hg135', ⟨Lc135, hQ135, l135, y135, z135⟩, st135⟩ := X128.specialBackS hx (y := (⟨"com/example/fact4/fact4/model/AnswerRecord", "<init>", "(Ljava/lang/String;Ljava/lang/String;Ljava/lang/String;ILjava/lang/Integer;Ljava/lang/String;Ljava/lang/String;Ljava/lang/String;Ljava/lang/String;Ljava/lang/String;)V"⟩ : MethodName)) rfl hown (mvT hZ (hw _ (List.mem_of_getElem? (i := 34) rfl))) (mvT hZ (hw _ (List.mem_of_getElem? (i := 35) rfl))) (mvT hZ (hw _ (List.mem_of_getElem? (i := 36) rfl))) (by decide) (backOfS (W := 1) (own_rm7 l Z aA hw [] b128 x1_0 x5_0 x12_0 p3 (.ref b120) x19_0 x26_0 x33_0 x40_0 b47 h128 n0 zz136 A128 gn128 F128_51 F128_53 F128_55 F128_57 F128_59 F128_61 F128_63 F128_65 F128_67 F128_69 f1_0 f5_0 f12_0 rfl f19_0 f26_0 f33_0 f40_0) hZ (hw _ (List.mem_of_getElem? (i := 36) rfl)) (hw _ (List.mem_of_getElem? (i := 33) rfl)) (by decide) (by decide)) (g := (mkF m 110 #[.val (.int p0), .val (.int p1), .val (.int p2), .val (.int p3), .val (.int p4), .val (.int p5), .val x1_0, .val x5_0, .val x12_0, .val x19_0, .val x26_0, .val x33_0, .val x40_0, .val (.ref b47), .val (.ref b120), .unset, .unset, .unset] [(.ref b47), x40_0, x33_0, x26_0, x19_0, (.ref b120), (.int p3), x12_0, x5_0, x1_0, (.ref b128), (.ref b128)])) rfl (by rw [hml]; rfl) (Steps.refl _) (a := b128) (argsL := [x1_0, x5_0, x12_0, (.int p3), (.ref b120), x19_0, x26_0, x33_0, x40_0, (.ref b47)]) (rest := [(.ref b128)]) (lenOf own_pd7 rfl) rfl (by show 2 * 0 + _ ≤ _; exact Nat.le_of_eq rfl) (hb hby at_110) (fun _ _ => ⟨rfl, e128, (by dsimp only [Pt.cells, Pt.slots]; decide +kernel), (by dsimp only [Pt.cells, Pt.slots]; decide +kernel)⟩)
    dsimp only [Pt.U, Pt.locs, Pt.cells, Pt.slots] at X135 l135 y135 z135 st135 hQ135 hS135' hg135'
    rw [l135, y135, z135] at X135
    obtain ⟨X135, hS135, hZ, hown⟩ := rebS hS0 (Nat.le_trans zz137 (Nat.le_of_eq (congrArg Array.size e128.symm))) X135 hS135' hg135' hZ hown
    obtain ⟨rfl, N135q, K135, f135_0, f135_1, f135_2, f135_3, f135_4, f135_5, f135_6, f135_7, f135_8, f135_9⟩ := hQ135
    have N138 := Fr.app N126 N135q
    have Kp139 : Keep h0 T135.heap [] := Kp134.trans K135 (allS (Or.inr sz128) all0)
    refine og_tr st135 ?_
    show OG p e below _ _ (T135.setTop (mkF m 113 #[.val (.int p0), .val (.int p1), .val (.int p2), .val (.int p3), .val (.int p4), .val (.int p5), .val x1_0, .val x5_0, .val x12_0, .val x19_0, .val x26_0, .val x33_0, .val x40_0, .val (.ref b47), .val (.ref b120), .unset, .unset, .unset] [(.ref b128)]))
    clear X128 st135
    refine o_astore X135 hx rfl (hb hby at_113) rfl (L' := #[.val (.int p0), .val (.int p1), .val (.int p2), .val (.int p3), .val (.int p4), .val (.int p5), .val x1_0, .val x5_0, .val x12_0, .val x19_0, .val x26_0, .val x33_0, .val x40_0, .val (.ref b47), .val (.ref b120), .val (.ref b128), .unset, .unset]) rfl ?_
    refine o_aload X135 hx rfl (hb hby at_115) rfl rfl ?_
    refine o_iload X135 hx rfl (hb hby at_117) rfl ?_
    have zz141 := (Nat.le_trans zz136 K135.1)
    have Fc142 : Exa Z T135.heap b128 "com/example/fact4/fact4/model/AnswerRecord" := (A128.keep K135)
    obtain ⟨cq140, kq140, q140a, q140b, q140c⟩ := isOf hZ rfl Fc142
    obtain ⟨_, _, ⟨T140, L140, k140, n140⟩, -, X140, hS140', hg140', ⟨Lc140, hQ140, l140, y140, z140⟩, st140⟩ := X135.virtualBackS hx (y := (⟨"com/example/fact4/fact4/model/AnswerRecord", "withAnswer", "(I)Lcom/example/fact4/fact4/model/AnswerRecord;"⟩ : MethodName)) (z := (⟨"com/example/fact4/fact4/model/AnswerRecord", "withAnswer", "(I)Lcom/example/fact4/fact4/model/AnswerRecord;"⟩ : MethodName)) hown (mvT hZ (hw _ (List.mem_of_getElem? (i := 70) rfl))) (mvT hZ (hw _ (List.mem_of_getElem? (i := 71) rfl))) (notFace_of_selects (args := #[]) (mvT hZ (hw _ (List.mem_of_getElem? (i := 73) rfl)))) (mvT hZ (hw _ (List.mem_of_getElem? (i := 73) rfl))) (mvT hZ (hw _ (List.mem_of_getElem? (i := 72) rfl))) (by decide) (backOfS (W := 0) (own_rm10 l Z aA hw [] b128 p5 x1_0 x5_0 x12_0 (.ref b120) x19_0 x26_0 x33_0 x40_0 p3 b47 T135.heap n0 zz141 f135_0 f135_1 f135_2 f135_3 f135_4 f135_5 f135_6 f135_7 f135_8 f135_9 f1_0 f5_0 f12_0 rfl f19_0 f26_0 f33_0 f40_0) hZ (hw _ (List.mem_of_getElem? (i := 74) rfl)) (hw _ (List.mem_of_getElem? (i := 33) rfl)) (by decide) (by decide)) q140a q140c (g := (mkF m 119 #[.val (.int p0), .val (.int p1), .val (.int p2), .val (.int p3), .val (.int p4), .val (.int p5), .val x1_0, .val x5_0, .val x12_0, .val x19_0, .val x26_0, .val x33_0, .val x40_0, .val (.ref b47), .val (.ref b120), .val (.ref b128), .unset, .unset] [(.int p5), (.ref b128)])) rfl (by rw [hml]; rfl) (Steps.refl _) (argsL := [(.int p5)]) (rest := []) (lenOf own_pd10 rfl) rfl (by show 2 * 0 + _ ≤ _; exact Nat.le_of_eq rfl) (hb hby at_119) (fun _ _ => ⟨rfl, rfl, (by dsimp only [Pt.cells, Pt.slots]; decide +kernel), (by dsimp only [Pt.cells, Pt.slots]; decide +kernel)⟩)
    dsimp only [Pt.U, Pt.locs, Pt.cells, Pt.slots] at X140 l140 y140 z140 st140 hQ140 hS140' hg140'
    rw [l140, y140, z140] at X140
    obtain ⟨X140, hS140, hZ, hown⟩ := rebS hS135 (Nat.le_trans (Nat.le_refl _) (Nat.le_of_eq rfl)) X140 hS140' hg140' hZ hown
    obtain ⟨b140, rfl, N140q, K140, sq140_0, f140_0, f140_1, f140_2, f140_3, f140_4, f140_5, f140_6, f140_7, f140_8, f140_9, f140_10⟩ := hQ140
    have Fc143 : Exa Z T135.heap b47 "java/lang/String" := ((Exa.ext E128 Fc129).keep K135)
    have ne144 : b47 ≠ b140 := Nat.ne_of_lt (Nat.lt_of_lt_of_le Fc143.lt sq140_0)
    have Fc145 : Exa Z T135.heap b120 "java/lang/Integer" := ((Exa.ext E128 f120_0).keep K135)
    have ne146 : b120 ≠ b140 := Nat.ne_of_lt (Nat.lt_of_lt_of_le Fc145.lt sq140_0)
    have ne147 : b128 ≠ b140 := Nat.ne_of_lt (Nat.lt_of_lt_of_le Fc142.lt sq140_0)
    have gnb140 : n0 ≤ b140 := Nat.le_trans zz141 sq140_0
    have szb140 : h0.size ≤ b140 := Nat.le_trans Kp139.1 sq140_0
    have N148 := Fr.app N138 N140q
    have Kp149 : Keep h0 T140.heap [] := Kp139.trans K140 all0
    refine og_tr st140 ?_
    show OG p e below _ _ (T140.setTop (mkF m 122 #[.val (.int p0), .val (.int p1), .val (.int p2), .val (.int p3), .val (.int p4), .val (.int p5), .val x1_0, .val x5_0, .val x12_0, .val x19_0, .val x26_0, .val x33_0, .val x40_0, .val (.ref b47), .val (.ref b120), .val (.ref b128), .unset, .unset] [(.ref b140)]))
    clear X135 st140
    refine o_astore X140 hx rfl (hb hby at_122) rfl (L' := #[.val (.int p0), .val (.int p1), .val (.int p2), .val (.int p3), .val (.int p4), .val (.int p5), .val x1_0, .val x5_0, .val x12_0, .val x19_0, .val x26_0, .val x33_0, .val x40_0, .val (.ref b47), .val (.ref b120), .val (.ref b128), .val (.ref b140), .unset]) rfl ?_
    refine o_aload X140 hx rfl (hb hby at_124) rfl rfl ?_
    have zz151 := (Nat.le_trans zz141 K140.1)
    obtain ⟨cq150, kq150, q150a, q150b, q150c⟩ := isOf hZ rfl f140_0
    obtain ⟨_, _, ⟨T150, L150, k150, n150⟩, -, X150, ⟨Lc150, hQ150, l150, y150, z150⟩, st150⟩ := X140.virtualBack hx (y := (⟨"com/example/fact4/fact4/model/AnswerRecord", "answer", "()I"⟩ : MethodName)) (z := (⟨"com/example/fact4/fact4/model/AnswerRecord", "answer", "()I"⟩ : MethodName)) hown (mvT hZ (hw _ (List.mem_of_getElem? (i := 77) rfl))) (mvT hZ (hw _ (List.mem_of_getElem? (i := 78) rfl))) (notFace_of_selects (args := #[]) (mvT hZ (hw _ (List.mem_of_getElem? (i := 80) rfl)))) (mvT hZ (hw _ (List.mem_of_getElem? (i := 80) rfl))) (mvT hZ (hw _ (List.mem_of_getElem? (i := 79) rfl))) (by decide) (backOf (W := 0) (own_rm11 l Z aA hw [] b140 p5 T140.heap n0 zz151 f140_9) hZ (hw _ (List.mem_of_getElem? (i := 81) rfl)) (hw _ (List.mem_of_getElem? (i := 33) rfl)) (by decide) (by decide)) q150a q150c (g := (mkF m 126 #[.val (.int p0), .val (.int p1), .val (.int p2), .val (.int p3), .val (.int p4), .val (.int p5), .val x1_0, .val x5_0, .val x12_0, .val x19_0, .val x26_0, .val x33_0, .val x40_0, .val (.ref b47), .val (.ref b120), .val (.ref b128), .val (.ref b140), .unset] [(.ref b140)])) rfl (by rw [hml]; rfl) (Steps.refl _) (argsL := []) (rest := []) (lenOf own_pd11 rfl) rfl (by show 2 * 0 + _ ≤ _; exact Nat.le_of_eq rfl) (hb hby at_126) (fun _ _ => ⟨rfl, rfl, (by dsimp only [Pt.cells, Pt.slots]; decide +kernel), (by dsimp only [Pt.cells, Pt.slots]; decide +kernel)⟩)
    dsimp only [Pt.U, Pt.locs, Pt.cells, Pt.slots] at X150 l150 y150 z150 st150 hQ150
    rw [l150, y150, z150] at X150
    obtain ⟨rfl, N150q, ee150⟩ := hQ150
    have N152 := Fr.app N148 N150q
    refine og_tr st150 ?_
    show OG p e below _ _ (T150.setTop (mkF m 129 #[.val (.int p0), .val (.int p1), .val (.int p2), .val (.int p3), .val (.int p4), .val (.int p5), .val x1_0, .val x5_0, .val x12_0, .val x19_0, .val x26_0, .val x33_0, .val x40_0, .val (.ref b47), .val (.ref b120), .val (.ref b128), .val (.ref b140), .unset] [(.int p5)]))
    clear X140 st150
    refine o_iload X150 hx rfl (hb hby at_129) rfl ?_
    have hk153 : p5 = p5 := rfl
    refine o_icmpY (pc' := 136) X150 hx (hb hby at_131) (teq hk153).1 (by decide) (by decide) ?_
    refine o_aload X150 hx rfl (hb hby at_136) rfl rfl ?_
    obtain ⟨cq154, kq154, q154a, q154b, q154c⟩ := isOf hZ ee150 f140_0
    obtain ⟨_, _, ⟨T154, L154, k154, n154⟩, -, X154, ⟨Lc154, hQ154, l154, y154, z154⟩, st154⟩ := X150.virtualBack hx (y := (⟨"com/example/fact4/fact4/model/AnswerRecord", "section", "()Ljava/lang/String;"⟩ : MethodName)) (z := (⟨"com/example/fact4/fact4/model/AnswerRecord", "section", "()Ljava/lang/String;"⟩ : MethodName)) hown (mvT hZ (hw _ (List.mem_of_getElem? (i := 82) rfl))) (mvT hZ (hw _ (List.mem_of_getElem? (i := 83) rfl))) (notFace_of_selects (args := #[]) (mvT hZ (hw _ (List.mem_of_getElem? (i := 85) rfl)))) (mvT hZ (hw _ (List.mem_of_getElem? (i := 85) rfl))) (mvT hZ (hw _ (List.mem_of_getElem? (i := 84) rfl))) (by decide) (backOf (W := 0) (own_rm12 l Z aA hw [] b140 x1_0 T140.heap n0 zz151 f140_1 f1_0) hZ (hw _ (List.mem_of_getElem? (i := 86) rfl)) (hw _ (List.mem_of_getElem? (i := 33) rfl)) (by decide) (by decide)) q154a q154c (g := (mkF m 138 #[.val (.int p0), .val (.int p1), .val (.int p2), .val (.int p3), .val (.int p4), .val (.int p5), .val x1_0, .val x5_0, .val x12_0, .val x19_0, .val x26_0, .val x33_0, .val x40_0, .val (.ref b47), .val (.ref b120), .val (.ref b128), .val (.ref b140), .unset] [(.ref b140)])) rfl (by rw [hml]; rfl) (Steps.refl _) (argsL := []) (rest := []) (lenOf own_pd12 rfl) rfl (by show 2 * 0 + _ ≤ _; exact Nat.le_of_eq rfl) (hb hby at_138) (fun _ _ => ⟨rfl, ee150, (by dsimp only [Pt.cells, Pt.slots]; decide +kernel), (by dsimp only [Pt.cells, Pt.slots]; decide +kernel)⟩)
    dsimp only [Pt.U, Pt.locs, Pt.cells, Pt.slots] at X154 l154 y154 z154 st154 hQ154
    rw [l154, y154, z154] at X154
    obtain ⟨rfl, N154q, ee154⟩ := hQ154
    have N155 := Fr.app N152 N154q
    refine og_tr st154 ?_
    show OG p e below _ _ (T154.setTop (mkF m 141 #[.val (.int p0), .val (.int p1), .val (.int p2), .val (.int p3), .val (.int p4), .val (.int p5), .val x1_0, .val x5_0, .val x12_0, .val x19_0, .val x26_0, .val x33_0, .val x40_0, .val (.ref b47), .val (.ref b120), .val (.ref b128), .val (.ref b140), .unset] [x1_0]))
    clear X150 st154
    refine o_aload X154 hx rfl (hb hby at_141) rfl f1_0 ?_
    have Fc157 : own_S Z T140.heap x1_0 := (own_S_map (fun _ _ qq => qq.keep K140) (own_S_map (fun _ _ qq => qq.keep K135) (own_S_map (fun _ _ qq => Exa.ext E128 qq) (own_S_map (fun _ _ qq => qq.keep K120) (own_S_map (fun _ _ qq => qq.keep K47) (own_S_map (fun _ _ qq => qq.keep K40) (own_S_map (fun _ _ qq => qq.keep K33) (own_S_map (fun _ _ qq => qq.keep K26) (own_S_map (fun _ _ qq => qq.keep K19) (own_S_map (fun _ _ qq => qq.keep K12) (own_S_map (fun _ _ qq => qq.keep K5) f1_1)))))))))))
    obtain ⟨_, _, ⟨T156, L156, k156, n156⟩, -, X156, ⟨Lc156, hQ156, l156, y156, z156⟩, st156⟩ := Jvm.LawKit.callS X154 hx (y := (⟨"com/example/fact4/fact4/model/AnswerRecordWithAnswerPinLaw", "eq", "(Ljava/lang/String;Ljava/lang/String;)Z"⟩ : MethodName)) hown (mvT hZ (hw _ (List.mem_of_getElem? (i := 87) rfl))) (mvT hZ (hw _ (List.mem_of_getElem? (i := 88) rfl))) (mvT hZ (hw _ (List.mem_of_getElem? (i := 2) rfl))) (mvT hZ (hw _ (List.mem_of_getElem? (i := 89) rfl))) (by decide) (backOf (W := 0) (own_rmeq l Z aA hw [] x1_0 T140.heap n0 zz151 Fc157) hZ (hw _ (List.mem_of_getElem? (i := 89) rfl)) (hw _ (List.mem_of_getElem? (i := 2) rfl)) (by decide) (by decide)) (g := (mkF m 143 #[.val (.int p0), .val (.int p1), .val (.int p2), .val (.int p3), .val (.int p4), .val (.int p5), .val x1_0, .val x5_0, .val x12_0, .val x19_0, .val x26_0, .val x33_0, .val x40_0, .val (.ref b47), .val (.ref b120), .val (.ref b128), .val (.ref b140), .unset] [x1_0, x1_0])) rfl (by rw [hml]; rfl) (argsL := [x1_0, x1_0]) (rest := []) (lenOf own_pd13 rfl) rfl (by show 2 * 0 + _ ≤ _; exact Nat.le_of_eq rfl) (hb hby at_143) (fun _ _ => ⟨rfl, ee154, (by dsimp only [Pt.cells, Pt.slots]; decide +kernel), (by dsimp only [Pt.cells, Pt.slots]; decide +kernel)⟩)
    dsimp only [Pt.U, Pt.locs, Pt.cells, Pt.slots] at X156 l156 y156 z156 st156 hQ156
    rw [l156, y156, z156] at X156
    obtain ⟨rfl, N156q, ee156⟩ := hQ156
    have N158 := Fr.app N155 N156q
    refine og_of st156 ?_
    show OG p e below _ _ (T156.setTop (mkF m 146 #[.val (.int p0), .val (.int p1), .val (.int p2), .val (.int p3), .val (.int p4), .val (.int p5), .val x1_0, .val x5_0, .val x12_0, .val x19_0, .val x26_0, .val x33_0, .val x40_0, .val (.ref b47), .val (.ref b120), .val (.ref b128), .val (.ref b140), .unset] [(.int (1 : Int32))]))
    clear X154 st156
    refine o_ifY (pc' := 151) X156 hx (hb hby at_146) ((if0 _ _).trans (feq (by decide : ¬ ((1 : Int32) = (0 : Int32)))).2) (by decide) (by decide) ?_
    refine o_aload X156 hx rfl (hb hby at_151) rfl rfl ?_
    obtain ⟨cq159, kq159, q159a, q159b, q159c⟩ := isOf hZ ee156 f140_0
    obtain ⟨_, _, ⟨T159, L159, k159, n159⟩, -, X159, ⟨Lc159, hQ159, l159, y159, z159⟩, st159⟩ := X156.virtualBack hx (y := (⟨"com/example/fact4/fact4/model/AnswerRecord", "question", "()Ljava/lang/String;"⟩ : MethodName)) (z := (⟨"com/example/fact4/fact4/model/AnswerRecord", "question", "()Ljava/lang/String;"⟩ : MethodName)) hown (mvT hZ (hw _ (List.mem_of_getElem? (i := 90) rfl))) (mvT hZ (hw _ (List.mem_of_getElem? (i := 91) rfl))) (notFace_of_selects (args := #[]) (mvT hZ (hw _ (List.mem_of_getElem? (i := 93) rfl)))) (mvT hZ (hw _ (List.mem_of_getElem? (i := 93) rfl))) (mvT hZ (hw _ (List.mem_of_getElem? (i := 92) rfl))) (by decide) (backOf (W := 0) (own_rm14 l Z aA hw [] b140 x5_0 T140.heap n0 zz151 f140_2 f5_0) hZ (hw _ (List.mem_of_getElem? (i := 94) rfl)) (hw _ (List.mem_of_getElem? (i := 33) rfl)) (by decide) (by decide)) q159a q159c (g := (mkF m 153 #[.val (.int p0), .val (.int p1), .val (.int p2), .val (.int p3), .val (.int p4), .val (.int p5), .val x1_0, .val x5_0, .val x12_0, .val x19_0, .val x26_0, .val x33_0, .val x40_0, .val (.ref b47), .val (.ref b120), .val (.ref b128), .val (.ref b140), .unset] [(.ref b140)])) rfl (by rw [hml]; rfl) (Steps.refl _) (argsL := []) (rest := []) (lenOf own_pd12 rfl) rfl (by show 2 * 0 + _ ≤ _; exact Nat.le_of_eq rfl) (hb hby at_153) (fun _ _ => ⟨rfl, ee156, (by dsimp only [Pt.cells, Pt.slots]; decide +kernel), (by dsimp only [Pt.cells, Pt.slots]; decide +kernel)⟩)
    dsimp only [Pt.U, Pt.locs, Pt.cells, Pt.slots] at X159 l159 y159 z159 st159 hQ159
    rw [l159, y159, z159] at X159
    obtain ⟨rfl, N159q, ee159⟩ := hQ159
    have N160 := Fr.app N158 N159q
    refine og_tr st159 ?_
    show OG p e below _ _ (T159.setTop (mkF m 156 #[.val (.int p0), .val (.int p1), .val (.int p2), .val (.int p3), .val (.int p4), .val (.int p5), .val x1_0, .val x5_0, .val x12_0, .val x19_0, .val x26_0, .val x33_0, .val x40_0, .val (.ref b47), .val (.ref b120), .val (.ref b128), .val (.ref b140), .unset] [x5_0]))
    clear X156 st159
    refine o_aload X159 hx rfl (hb hby at_156) rfl f5_0 ?_
    have Fc162 : own_S Z T140.heap x5_0 := (own_S_map (fun _ _ qq => qq.keep K140) (own_S_map (fun _ _ qq => qq.keep K135) (own_S_map (fun _ _ qq => Exa.ext E128 qq) (own_S_map (fun _ _ qq => qq.keep K120) (own_S_map (fun _ _ qq => qq.keep K47) (own_S_map (fun _ _ qq => qq.keep K40) (own_S_map (fun _ _ qq => qq.keep K33) (own_S_map (fun _ _ qq => qq.keep K26) (own_S_map (fun _ _ qq => qq.keep K19) (own_S_map (fun _ _ qq => qq.keep K12) f5_1))))))))))
    obtain ⟨_, _, ⟨T161, L161, k161, n161⟩, -, X161, ⟨Lc161, hQ161, l161, y161, z161⟩, st161⟩ := Jvm.LawKit.callS X159 hx (y := (⟨"com/example/fact4/fact4/model/AnswerRecordWithAnswerPinLaw", "eq", "(Ljava/lang/String;Ljava/lang/String;)Z"⟩ : MethodName)) hown (mvT hZ (hw _ (List.mem_of_getElem? (i := 87) rfl))) (mvT hZ (hw _ (List.mem_of_getElem? (i := 88) rfl))) (mvT hZ (hw _ (List.mem_of_getElem? (i := 2) rfl))) (mvT hZ (hw _ (List.mem_of_getElem? (i := 89) rfl))) (by decide) (backOf (W := 0) (own_rmeq l Z aA hw [] x5_0 T140.heap n0 zz151 Fc162) hZ (hw _ (List.mem_of_getElem? (i := 89) rfl)) (hw _ (List.mem_of_getElem? (i := 2) rfl)) (by decide) (by decide)) (g := (mkF m 158 #[.val (.int p0), .val (.int p1), .val (.int p2), .val (.int p3), .val (.int p4), .val (.int p5), .val x1_0, .val x5_0, .val x12_0, .val x19_0, .val x26_0, .val x33_0, .val x40_0, .val (.ref b47), .val (.ref b120), .val (.ref b128), .val (.ref b140), .unset] [x5_0, x5_0])) rfl (by rw [hml]; rfl) (argsL := [x5_0, x5_0]) (rest := []) (lenOf own_pd13 rfl) rfl (by show 2 * 0 + _ ≤ _; exact Nat.le_of_eq rfl) (hb hby at_158) (fun _ _ => ⟨rfl, ee159, (by dsimp only [Pt.cells, Pt.slots]; decide +kernel), (by dsimp only [Pt.cells, Pt.slots]; decide +kernel)⟩)
    dsimp only [Pt.U, Pt.locs, Pt.cells, Pt.slots] at X161 l161 y161 z161 st161 hQ161
    rw [l161, y161, z161] at X161
    obtain ⟨rfl, N161q, ee161⟩ := hQ161
    have N163 := Fr.app N160 N161q
    refine og_of st161 ?_
    show OG p e below _ _ (T161.setTop (mkF m 161 #[.val (.int p0), .val (.int p1), .val (.int p2), .val (.int p3), .val (.int p4), .val (.int p5), .val x1_0, .val x5_0, .val x12_0, .val x19_0, .val x26_0, .val x33_0, .val x40_0, .val (.ref b47), .val (.ref b120), .val (.ref b128), .val (.ref b140), .unset] [(.int (1 : Int32))]))
    clear X159 st161
    refine o_ifY (pc' := 166) X161 hx (hb hby at_161) ((if0 _ _).trans (feq (by decide : ¬ ((1 : Int32) = (0 : Int32)))).2) (by decide) (by decide) ?_
    refine o_aload X161 hx rfl (hb hby at_166) rfl rfl ?_
    obtain ⟨cq164, kq164, q164a, q164b, q164c⟩ := isOf hZ ee161 f140_0
    obtain ⟨_, _, ⟨T164, L164, k164, n164⟩, -, X164, ⟨Lc164, hQ164, l164, y164, z164⟩, st164⟩ := X161.virtualBack hx (y := (⟨"com/example/fact4/fact4/model/AnswerRecord", "answerColumn", "()Ljava/lang/String;"⟩ : MethodName)) (z := (⟨"com/example/fact4/fact4/model/AnswerRecord", "answerColumn", "()Ljava/lang/String;"⟩ : MethodName)) hown (mvT hZ (hw _ (List.mem_of_getElem? (i := 95) rfl))) (mvT hZ (hw _ (List.mem_of_getElem? (i := 96) rfl))) (notFace_of_selects (args := #[]) (mvT hZ (hw _ (List.mem_of_getElem? (i := 98) rfl)))) (mvT hZ (hw _ (List.mem_of_getElem? (i := 98) rfl))) (mvT hZ (hw _ (List.mem_of_getElem? (i := 97) rfl))) (by decide) (backOf (W := 0) (own_rm15 l Z aA hw [] b140 x12_0 T140.heap n0 zz151 f140_3 f12_0) hZ (hw _ (List.mem_of_getElem? (i := 99) rfl)) (hw _ (List.mem_of_getElem? (i := 33) rfl)) (by decide) (by decide)) q164a q164c (g := (mkF m 168 #[.val (.int p0), .val (.int p1), .val (.int p2), .val (.int p3), .val (.int p4), .val (.int p5), .val x1_0, .val x5_0, .val x12_0, .val x19_0, .val x26_0, .val x33_0, .val x40_0, .val (.ref b47), .val (.ref b120), .val (.ref b128), .val (.ref b140), .unset] [(.ref b140)])) rfl (by rw [hml]; rfl) (Steps.refl _) (argsL := []) (rest := []) (lenOf own_pd12 rfl) rfl (by show 2 * 0 + _ ≤ _; exact Nat.le_of_eq rfl) (hb hby at_168) (fun _ _ => ⟨rfl, ee161, (by dsimp only [Pt.cells, Pt.slots]; decide +kernel), (by dsimp only [Pt.cells, Pt.slots]; decide +kernel)⟩)
    dsimp only [Pt.U, Pt.locs, Pt.cells, Pt.slots] at X164 l164 y164 z164 st164 hQ164
    rw [l164, y164, z164] at X164
    obtain ⟨rfl, N164q, ee164⟩ := hQ164
    have N165 := Fr.app N163 N164q
    refine og_tr st164 ?_
    show OG p e below _ _ (T164.setTop (mkF m 171 #[.val (.int p0), .val (.int p1), .val (.int p2), .val (.int p3), .val (.int p4), .val (.int p5), .val x1_0, .val x5_0, .val x12_0, .val x19_0, .val x26_0, .val x33_0, .val x40_0, .val (.ref b47), .val (.ref b120), .val (.ref b128), .val (.ref b140), .unset] [x12_0]))
    clear X161 st164
    refine o_aload X164 hx rfl (hb hby at_171) rfl f12_0 ?_
    have Fc167 : own_S Z T140.heap x12_0 := (own_S_map (fun _ _ qq => qq.keep K140) (own_S_map (fun _ _ qq => qq.keep K135) (own_S_map (fun _ _ qq => Exa.ext E128 qq) (own_S_map (fun _ _ qq => qq.keep K120) (own_S_map (fun _ _ qq => qq.keep K47) (own_S_map (fun _ _ qq => qq.keep K40) (own_S_map (fun _ _ qq => qq.keep K33) (own_S_map (fun _ _ qq => qq.keep K26) (own_S_map (fun _ _ qq => qq.keep K19) f12_1)))))))))
    obtain ⟨_, _, ⟨T166, L166, k166, n166⟩, -, X166, ⟨Lc166, hQ166, l166, y166, z166⟩, st166⟩ := Jvm.LawKit.callS X164 hx (y := (⟨"com/example/fact4/fact4/model/AnswerRecordWithAnswerPinLaw", "eq", "(Ljava/lang/String;Ljava/lang/String;)Z"⟩ : MethodName)) hown (mvT hZ (hw _ (List.mem_of_getElem? (i := 87) rfl))) (mvT hZ (hw _ (List.mem_of_getElem? (i := 88) rfl))) (mvT hZ (hw _ (List.mem_of_getElem? (i := 2) rfl))) (mvT hZ (hw _ (List.mem_of_getElem? (i := 89) rfl))) (by decide) (backOf (W := 0) (own_rmeq l Z aA hw [] x12_0 T140.heap n0 zz151 Fc167) hZ (hw _ (List.mem_of_getElem? (i := 89) rfl)) (hw _ (List.mem_of_getElem? (i := 2) rfl)) (by decide) (by decide)) (g := (mkF m 173 #[.val (.int p0), .val (.int p1), .val (.int p2), .val (.int p3), .val (.int p4), .val (.int p5), .val x1_0, .val x5_0, .val x12_0, .val x19_0, .val x26_0, .val x33_0, .val x40_0, .val (.ref b47), .val (.ref b120), .val (.ref b128), .val (.ref b140), .unset] [x12_0, x12_0])) rfl (by rw [hml]; rfl) (argsL := [x12_0, x12_0]) (rest := []) (lenOf own_pd13 rfl) rfl (by show 2 * 0 + _ ≤ _; exact Nat.le_of_eq rfl) (hb hby at_173) (fun _ _ => ⟨rfl, ee164, (by dsimp only [Pt.cells, Pt.slots]; decide +kernel), (by dsimp only [Pt.cells, Pt.slots]; decide +kernel)⟩)
    dsimp only [Pt.U, Pt.locs, Pt.cells, Pt.slots] at X166 l166 y166 z166 st166 hQ166
    rw [l166, y166, z166] at X166
    obtain ⟨rfl, N166q, ee166⟩ := hQ166
    have N168 := Fr.app N165 N166q
    refine og_of st166 ?_
    show OG p e below _ _ (T166.setTop (mkF m 176 #[.val (.int p0), .val (.int p1), .val (.int p2), .val (.int p3), .val (.int p4), .val (.int p5), .val x1_0, .val x5_0, .val x12_0, .val x19_0, .val x26_0, .val x33_0, .val x40_0, .val (.ref b47), .val (.ref b120), .val (.ref b128), .val (.ref b140), .unset] [(.int (1 : Int32))]))
    clear X164 st166
    refine o_ifY (pc' := 181) X166 hx (hb hby at_176) ((if0 _ _).trans (feq (by decide : ¬ ((1 : Int32) = (0 : Int32)))).2) (by decide) (by decide) ?_
    refine o_aload X166 hx rfl (hb hby at_181) rfl rfl ?_
    obtain ⟨cq169, kq169, q169a, q169b, q169c⟩ := isOf hZ ee166 f140_0
    obtain ⟨_, _, ⟨T169, L169, k169, n169⟩, -, X169, ⟨Lc169, hQ169, l169, y169, z169⟩, st169⟩ := X166.virtualBack hx (y := (⟨"com/example/fact4/fact4/model/AnswerRecord", "answerType", "()Ljava/lang/String;"⟩ : MethodName)) (z := (⟨"com/example/fact4/fact4/model/AnswerRecord", "answerType", "()Ljava/lang/String;"⟩ : MethodName)) hown (mvT hZ (hw _ (List.mem_of_getElem? (i := 100) rfl))) (mvT hZ (hw _ (List.mem_of_getElem? (i := 101) rfl))) (notFace_of_selects (args := #[]) (mvT hZ (hw _ (List.mem_of_getElem? (i := 103) rfl)))) (mvT hZ (hw _ (List.mem_of_getElem? (i := 103) rfl))) (mvT hZ (hw _ (List.mem_of_getElem? (i := 102) rfl))) (by decide) (backOf (W := 0) (own_rm16 l Z aA hw [] b140 x19_0 T140.heap n0 zz151 f140_5 f19_0) hZ (hw _ (List.mem_of_getElem? (i := 104) rfl)) (hw _ (List.mem_of_getElem? (i := 33) rfl)) (by decide) (by decide)) q169a q169c (g := (mkF m 183 #[.val (.int p0), .val (.int p1), .val (.int p2), .val (.int p3), .val (.int p4), .val (.int p5), .val x1_0, .val x5_0, .val x12_0, .val x19_0, .val x26_0, .val x33_0, .val x40_0, .val (.ref b47), .val (.ref b120), .val (.ref b128), .val (.ref b140), .unset] [(.ref b140)])) rfl (by rw [hml]; rfl) (Steps.refl _) (argsL := []) (rest := []) (lenOf own_pd12 rfl) rfl (by show 2 * 0 + _ ≤ _; exact Nat.le_of_eq rfl) (hb hby at_183) (fun _ _ => ⟨rfl, ee166, (by dsimp only [Pt.cells, Pt.slots]; decide +kernel), (by dsimp only [Pt.cells, Pt.slots]; decide +kernel)⟩)
    dsimp only [Pt.U, Pt.locs, Pt.cells, Pt.slots] at X169 l169 y169 z169 st169 hQ169
    rw [l169, y169, z169] at X169
    obtain ⟨rfl, N169q, ee169⟩ := hQ169
    have N170 := Fr.app N168 N169q
    refine og_tr st169 ?_
    show OG p e below _ _ (T169.setTop (mkF m 186 #[.val (.int p0), .val (.int p1), .val (.int p2), .val (.int p3), .val (.int p4), .val (.int p5), .val x1_0, .val x5_0, .val x12_0, .val x19_0, .val x26_0, .val x33_0, .val x40_0, .val (.ref b47), .val (.ref b120), .val (.ref b128), .val (.ref b140), .unset] [x19_0]))
    clear X166 st169
    refine o_aload X169 hx rfl (hb hby at_186) rfl f19_0 ?_
    have Fc172 : own_S Z T140.heap x19_0 := (own_S_map (fun _ _ qq => qq.keep K140) (own_S_map (fun _ _ qq => qq.keep K135) (own_S_map (fun _ _ qq => Exa.ext E128 qq) (own_S_map (fun _ _ qq => qq.keep K120) (own_S_map (fun _ _ qq => qq.keep K47) (own_S_map (fun _ _ qq => qq.keep K40) (own_S_map (fun _ _ qq => qq.keep K33) (own_S_map (fun _ _ qq => qq.keep K26) f19_1))))))))
    obtain ⟨_, _, ⟨T171, L171, k171, n171⟩, -, X171, ⟨Lc171, hQ171, l171, y171, z171⟩, st171⟩ := Jvm.LawKit.callS X169 hx (y := (⟨"com/example/fact4/fact4/model/AnswerRecordWithAnswerPinLaw", "eq", "(Ljava/lang/String;Ljava/lang/String;)Z"⟩ : MethodName)) hown (mvT hZ (hw _ (List.mem_of_getElem? (i := 87) rfl))) (mvT hZ (hw _ (List.mem_of_getElem? (i := 88) rfl))) (mvT hZ (hw _ (List.mem_of_getElem? (i := 2) rfl))) (mvT hZ (hw _ (List.mem_of_getElem? (i := 89) rfl))) (by decide) (backOf (W := 0) (own_rmeq l Z aA hw [] x19_0 T140.heap n0 zz151 Fc172) hZ (hw _ (List.mem_of_getElem? (i := 89) rfl)) (hw _ (List.mem_of_getElem? (i := 2) rfl)) (by decide) (by decide)) (g := (mkF m 188 #[.val (.int p0), .val (.int p1), .val (.int p2), .val (.int p3), .val (.int p4), .val (.int p5), .val x1_0, .val x5_0, .val x12_0, .val x19_0, .val x26_0, .val x33_0, .val x40_0, .val (.ref b47), .val (.ref b120), .val (.ref b128), .val (.ref b140), .unset] [x19_0, x19_0])) rfl (by rw [hml]; rfl) (argsL := [x19_0, x19_0]) (rest := []) (lenOf own_pd13 rfl) rfl (by show 2 * 0 + _ ≤ _; exact Nat.le_of_eq rfl) (hb hby at_188) (fun _ _ => ⟨rfl, ee169, (by dsimp only [Pt.cells, Pt.slots]; decide +kernel), (by dsimp only [Pt.cells, Pt.slots]; decide +kernel)⟩)
    dsimp only [Pt.U, Pt.locs, Pt.cells, Pt.slots] at X171 l171 y171 z171 st171 hQ171
    rw [l171, y171, z171] at X171
    obtain ⟨rfl, N171q, ee171⟩ := hQ171
    have N173 := Fr.app N170 N171q
    refine og_of st171 ?_
    show OG p e below _ _ (T171.setTop (mkF m 191 #[.val (.int p0), .val (.int p1), .val (.int p2), .val (.int p3), .val (.int p4), .val (.int p5), .val x1_0, .val x5_0, .val x12_0, .val x19_0, .val x26_0, .val x33_0, .val x40_0, .val (.ref b47), .val (.ref b120), .val (.ref b128), .val (.ref b140), .unset] [(.int (1 : Int32))]))
    clear X169 st171
    refine o_ifY (pc' := 196) X171 hx (hb hby at_191) ((if0 _ _).trans (feq (by decide : ¬ ((1 : Int32) = (0 : Int32)))).2) (by decide) (by decide) ?_
    refine o_aload X171 hx rfl (hb hby at_196) rfl rfl ?_
    obtain ⟨cq174, kq174, q174a, q174b, q174c⟩ := isOf hZ ee171 f140_0
    obtain ⟨_, _, ⟨T174, L174, k174, n174⟩, -, X174, ⟨Lc174, hQ174, l174, y174, z174⟩, st174⟩ := X171.virtualBack hx (y := (⟨"com/example/fact4/fact4/model/AnswerRecord", "answerStyle", "()Ljava/lang/String;"⟩ : MethodName)) (z := (⟨"com/example/fact4/fact4/model/AnswerRecord", "answerStyle", "()Ljava/lang/String;"⟩ : MethodName)) hown (mvT hZ (hw _ (List.mem_of_getElem? (i := 105) rfl))) (mvT hZ (hw _ (List.mem_of_getElem? (i := 106) rfl))) (notFace_of_selects (args := #[]) (mvT hZ (hw _ (List.mem_of_getElem? (i := 108) rfl)))) (mvT hZ (hw _ (List.mem_of_getElem? (i := 108) rfl))) (mvT hZ (hw _ (List.mem_of_getElem? (i := 107) rfl))) (by decide) (backOf (W := 0) (own_rm17 l Z aA hw [] b140 x26_0 T140.heap n0 zz151 f140_6 f26_0) hZ (hw _ (List.mem_of_getElem? (i := 109) rfl)) (hw _ (List.mem_of_getElem? (i := 33) rfl)) (by decide) (by decide)) q174a q174c (g := (mkF m 198 #[.val (.int p0), .val (.int p1), .val (.int p2), .val (.int p3), .val (.int p4), .val (.int p5), .val x1_0, .val x5_0, .val x12_0, .val x19_0, .val x26_0, .val x33_0, .val x40_0, .val (.ref b47), .val (.ref b120), .val (.ref b128), .val (.ref b140), .unset] [(.ref b140)])) rfl (by rw [hml]; rfl) (Steps.refl _) (argsL := []) (rest := []) (lenOf own_pd12 rfl) rfl (by show 2 * 0 + _ ≤ _; exact Nat.le_of_eq rfl) (hb hby at_198) (fun _ _ => ⟨rfl, ee171, (by dsimp only [Pt.cells, Pt.slots]; decide +kernel), (by dsimp only [Pt.cells, Pt.slots]; decide +kernel)⟩)
    dsimp only [Pt.U, Pt.locs, Pt.cells, Pt.slots] at X174 l174 y174 z174 st174 hQ174
    rw [l174, y174, z174] at X174
    obtain ⟨rfl, N174q, ee174⟩ := hQ174
    have N175 := Fr.app N173 N174q
    refine og_tr st174 ?_
    show OG p e below _ _ (T174.setTop (mkF m 201 #[.val (.int p0), .val (.int p1), .val (.int p2), .val (.int p3), .val (.int p4), .val (.int p5), .val x1_0, .val x5_0, .val x12_0, .val x19_0, .val x26_0, .val x33_0, .val x40_0, .val (.ref b47), .val (.ref b120), .val (.ref b128), .val (.ref b140), .unset] [x26_0]))
    clear X171 st174
    refine o_aload X174 hx rfl (hb hby at_201) rfl f26_0 ?_
    have Fc177 : own_S Z T140.heap x26_0 := (own_S_map (fun _ _ qq => qq.keep K140) (own_S_map (fun _ _ qq => qq.keep K135) (own_S_map (fun _ _ qq => Exa.ext E128 qq) (own_S_map (fun _ _ qq => qq.keep K120) (own_S_map (fun _ _ qq => qq.keep K47) (own_S_map (fun _ _ qq => qq.keep K40) (own_S_map (fun _ _ qq => qq.keep K33) f26_1)))))))
    obtain ⟨_, _, ⟨T176, L176, k176, n176⟩, -, X176, ⟨Lc176, hQ176, l176, y176, z176⟩, st176⟩ := Jvm.LawKit.callS X174 hx (y := (⟨"com/example/fact4/fact4/model/AnswerRecordWithAnswerPinLaw", "eq", "(Ljava/lang/String;Ljava/lang/String;)Z"⟩ : MethodName)) hown (mvT hZ (hw _ (List.mem_of_getElem? (i := 87) rfl))) (mvT hZ (hw _ (List.mem_of_getElem? (i := 88) rfl))) (mvT hZ (hw _ (List.mem_of_getElem? (i := 2) rfl))) (mvT hZ (hw _ (List.mem_of_getElem? (i := 89) rfl))) (by decide) (backOf (W := 0) (own_rmeq l Z aA hw [] x26_0 T140.heap n0 zz151 Fc177) hZ (hw _ (List.mem_of_getElem? (i := 89) rfl)) (hw _ (List.mem_of_getElem? (i := 2) rfl)) (by decide) (by decide)) (g := (mkF m 203 #[.val (.int p0), .val (.int p1), .val (.int p2), .val (.int p3), .val (.int p4), .val (.int p5), .val x1_0, .val x5_0, .val x12_0, .val x19_0, .val x26_0, .val x33_0, .val x40_0, .val (.ref b47), .val (.ref b120), .val (.ref b128), .val (.ref b140), .unset] [x26_0, x26_0])) rfl (by rw [hml]; rfl) (argsL := [x26_0, x26_0]) (rest := []) (lenOf own_pd13 rfl) rfl (by show 2 * 0 + _ ≤ _; exact Nat.le_of_eq rfl) (hb hby at_203) (fun _ _ => ⟨rfl, ee174, (by dsimp only [Pt.cells, Pt.slots]; decide +kernel), (by dsimp only [Pt.cells, Pt.slots]; decide +kernel)⟩)
    dsimp only [Pt.U, Pt.locs, Pt.cells, Pt.slots] at X176 l176 y176 z176 st176 hQ176
    rw [l176, y176, z176] at X176
    obtain ⟨rfl, N176q, ee176⟩ := hQ176
    have N178 := Fr.app N175 N176q
    refine og_of st176 ?_
    show OG p e below _ _ (T176.setTop (mkF m 206 #[.val (.int p0), .val (.int p1), .val (.int p2), .val (.int p3), .val (.int p4), .val (.int p5), .val x1_0, .val x5_0, .val x12_0, .val x19_0, .val x26_0, .val x33_0, .val x40_0, .val (.ref b47), .val (.ref b120), .val (.ref b128), .val (.ref b140), .unset] [(.int (1 : Int32))]))
    clear X174 st176
    refine o_ifY (pc' := 211) X176 hx (hb hby at_206) ((if0 _ _).trans (feq (by decide : ¬ ((1 : Int32) = (0 : Int32)))).2) (by decide) (by decide) ?_
    refine o_aload X176 hx rfl (hb hby at_211) rfl rfl ?_
    obtain ⟨cq179, kq179, q179a, q179b, q179c⟩ := isOf hZ ee176 f140_0
    obtain ⟨_, _, ⟨T179, L179, k179, n179⟩, -, X179, ⟨Lc179, hQ179, l179, y179, z179⟩, st179⟩ := X176.virtualBack hx (y := (⟨"com/example/fact4/fact4/model/AnswerRecord", "knowledgeType", "()Ljava/lang/String;"⟩ : MethodName)) (z := (⟨"com/example/fact4/fact4/model/AnswerRecord", "knowledgeType", "()Ljava/lang/String;"⟩ : MethodName)) hown (mvT hZ (hw _ (List.mem_of_getElem? (i := 110) rfl))) (mvT hZ (hw _ (List.mem_of_getElem? (i := 111) rfl))) (notFace_of_selects (args := #[]) (mvT hZ (hw _ (List.mem_of_getElem? (i := 113) rfl)))) (mvT hZ (hw _ (List.mem_of_getElem? (i := 113) rfl))) (mvT hZ (hw _ (List.mem_of_getElem? (i := 112) rfl))) (by decide) (backOf (W := 0) (own_rm18 l Z aA hw [] b140 x33_0 T140.heap n0 zz151 f140_7 f33_0) hZ (hw _ (List.mem_of_getElem? (i := 114) rfl)) (hw _ (List.mem_of_getElem? (i := 33) rfl)) (by decide) (by decide)) q179a q179c (g := (mkF m 213 #[.val (.int p0), .val (.int p1), .val (.int p2), .val (.int p3), .val (.int p4), .val (.int p5), .val x1_0, .val x5_0, .val x12_0, .val x19_0, .val x26_0, .val x33_0, .val x40_0, .val (.ref b47), .val (.ref b120), .val (.ref b128), .val (.ref b140), .unset] [(.ref b140)])) rfl (by rw [hml]; rfl) (Steps.refl _) (argsL := []) (rest := []) (lenOf own_pd12 rfl) rfl (by show 2 * 0 + _ ≤ _; exact Nat.le_of_eq rfl) (hb hby at_213) (fun _ _ => ⟨rfl, ee176, (by dsimp only [Pt.cells, Pt.slots]; decide +kernel), (by dsimp only [Pt.cells, Pt.slots]; decide +kernel)⟩)
    dsimp only [Pt.U, Pt.locs, Pt.cells, Pt.slots] at X179 l179 y179 z179 st179 hQ179
    rw [l179, y179, z179] at X179
    obtain ⟨rfl, N179q, ee179⟩ := hQ179
    have N180 := Fr.app N178 N179q
    refine og_tr st179 ?_
    show OG p e below _ _ (T179.setTop (mkF m 216 #[.val (.int p0), .val (.int p1), .val (.int p2), .val (.int p3), .val (.int p4), .val (.int p5), .val x1_0, .val x5_0, .val x12_0, .val x19_0, .val x26_0, .val x33_0, .val x40_0, .val (.ref b47), .val (.ref b120), .val (.ref b128), .val (.ref b140), .unset] [x33_0]))
    clear X176 st179
    refine o_aload X179 hx rfl (hb hby at_216) rfl f33_0 ?_
    have Fc182 : own_S Z T140.heap x33_0 := (own_S_map (fun _ _ qq => qq.keep K140) (own_S_map (fun _ _ qq => qq.keep K135) (own_S_map (fun _ _ qq => Exa.ext E128 qq) (own_S_map (fun _ _ qq => qq.keep K120) (own_S_map (fun _ _ qq => qq.keep K47) (own_S_map (fun _ _ qq => qq.keep K40) f33_1))))))
    obtain ⟨_, _, ⟨T181, L181, k181, n181⟩, -, X181, ⟨Lc181, hQ181, l181, y181, z181⟩, st181⟩ := Jvm.LawKit.callS X179 hx (y := (⟨"com/example/fact4/fact4/model/AnswerRecordWithAnswerPinLaw", "eq", "(Ljava/lang/String;Ljava/lang/String;)Z"⟩ : MethodName)) hown (mvT hZ (hw _ (List.mem_of_getElem? (i := 87) rfl))) (mvT hZ (hw _ (List.mem_of_getElem? (i := 88) rfl))) (mvT hZ (hw _ (List.mem_of_getElem? (i := 2) rfl))) (mvT hZ (hw _ (List.mem_of_getElem? (i := 89) rfl))) (by decide) (backOf (W := 0) (own_rmeq l Z aA hw [] x33_0 T140.heap n0 zz151 Fc182) hZ (hw _ (List.mem_of_getElem? (i := 89) rfl)) (hw _ (List.mem_of_getElem? (i := 2) rfl)) (by decide) (by decide)) (g := (mkF m 218 #[.val (.int p0), .val (.int p1), .val (.int p2), .val (.int p3), .val (.int p4), .val (.int p5), .val x1_0, .val x5_0, .val x12_0, .val x19_0, .val x26_0, .val x33_0, .val x40_0, .val (.ref b47), .val (.ref b120), .val (.ref b128), .val (.ref b140), .unset] [x33_0, x33_0])) rfl (by rw [hml]; rfl) (argsL := [x33_0, x33_0]) (rest := []) (lenOf own_pd13 rfl) rfl (by show 2 * 0 + _ ≤ _; exact Nat.le_of_eq rfl) (hb hby at_218) (fun _ _ => ⟨rfl, ee179, (by dsimp only [Pt.cells, Pt.slots]; decide +kernel), (by dsimp only [Pt.cells, Pt.slots]; decide +kernel)⟩)
    dsimp only [Pt.U, Pt.locs, Pt.cells, Pt.slots] at X181 l181 y181 z181 st181 hQ181
    rw [l181, y181, z181] at X181
    obtain ⟨rfl, N181q, ee181⟩ := hQ181
    have N183 := Fr.app N180 N181q
    refine og_of st181 ?_
    show OG p e below _ _ (T181.setTop (mkF m 221 #[.val (.int p0), .val (.int p1), .val (.int p2), .val (.int p3), .val (.int p4), .val (.int p5), .val x1_0, .val x5_0, .val x12_0, .val x19_0, .val x26_0, .val x33_0, .val x40_0, .val (.ref b47), .val (.ref b120), .val (.ref b128), .val (.ref b140), .unset] [(.int (1 : Int32))]))
    clear X179 st181
    refine o_ifY (pc' := 226) X181 hx (hb hby at_221) ((if0 _ _).trans (feq (by decide : ¬ ((1 : Int32) = (0 : Int32)))).2) (by decide) (by decide) ?_
    refine o_aload X181 hx rfl (hb hby at_226) rfl rfl ?_
    obtain ⟨cq184, kq184, q184a, q184b, q184c⟩ := isOf hZ ee181 f140_0
    obtain ⟨_, _, ⟨T184, L184, k184, n184⟩, -, X184, ⟨Lc184, hQ184, l184, y184, z184⟩, st184⟩ := X181.virtualBack hx (y := (⟨"com/example/fact4/fact4/model/AnswerRecord", "questionId", "()Ljava/lang/String;"⟩ : MethodName)) (z := (⟨"com/example/fact4/fact4/model/AnswerRecord", "questionId", "()Ljava/lang/String;"⟩ : MethodName)) hown (mvT hZ (hw _ (List.mem_of_getElem? (i := 115) rfl))) (mvT hZ (hw _ (List.mem_of_getElem? (i := 116) rfl))) (notFace_of_selects (args := #[]) (mvT hZ (hw _ (List.mem_of_getElem? (i := 118) rfl)))) (mvT hZ (hw _ (List.mem_of_getElem? (i := 118) rfl))) (mvT hZ (hw _ (List.mem_of_getElem? (i := 117) rfl))) (by decide) (backOf (W := 0) (own_rm19 l Z aA hw [] b140 x40_0 T140.heap n0 zz151 f140_8 f40_0) hZ (hw _ (List.mem_of_getElem? (i := 119) rfl)) (hw _ (List.mem_of_getElem? (i := 33) rfl)) (by decide) (by decide)) q184a q184c (g := (mkF m 228 #[.val (.int p0), .val (.int p1), .val (.int p2), .val (.int p3), .val (.int p4), .val (.int p5), .val x1_0, .val x5_0, .val x12_0, .val x19_0, .val x26_0, .val x33_0, .val x40_0, .val (.ref b47), .val (.ref b120), .val (.ref b128), .val (.ref b140), .unset] [(.ref b140)])) rfl (by rw [hml]; rfl) (Steps.refl _) (argsL := []) (rest := []) (lenOf own_pd12 rfl) rfl (by show 2 * 0 + _ ≤ _; exact Nat.le_of_eq rfl) (hb hby at_228) (fun _ _ => ⟨rfl, ee181, (by dsimp only [Pt.cells, Pt.slots]; decide +kernel), (by dsimp only [Pt.cells, Pt.slots]; decide +kernel)⟩)
    dsimp only [Pt.U, Pt.locs, Pt.cells, Pt.slots] at X184 l184 y184 z184 st184 hQ184
    rw [l184, y184, z184] at X184
    obtain ⟨rfl, N184q, ee184⟩ := hQ184
    have N185 := Fr.app N183 N184q
    refine og_tr st184 ?_
    show OG p e below _ _ (T184.setTop (mkF m 231 #[.val (.int p0), .val (.int p1), .val (.int p2), .val (.int p3), .val (.int p4), .val (.int p5), .val x1_0, .val x5_0, .val x12_0, .val x19_0, .val x26_0, .val x33_0, .val x40_0, .val (.ref b47), .val (.ref b120), .val (.ref b128), .val (.ref b140), .unset] [x40_0]))
    clear X181 st184
    refine o_aload X184 hx rfl (hb hby at_231) rfl f40_0 ?_
    have Fc187 : own_S Z T140.heap x40_0 := (own_S_map (fun _ _ qq => qq.keep K140) (own_S_map (fun _ _ qq => qq.keep K135) (own_S_map (fun _ _ qq => Exa.ext E128 qq) (own_S_map (fun _ _ qq => qq.keep K120) (own_S_map (fun _ _ qq => qq.keep K47) f40_1)))))
    obtain ⟨_, _, ⟨T186, L186, k186, n186⟩, -, X186, ⟨Lc186, hQ186, l186, y186, z186⟩, st186⟩ := Jvm.LawKit.callS X184 hx (y := (⟨"com/example/fact4/fact4/model/AnswerRecordWithAnswerPinLaw", "eq", "(Ljava/lang/String;Ljava/lang/String;)Z"⟩ : MethodName)) hown (mvT hZ (hw _ (List.mem_of_getElem? (i := 87) rfl))) (mvT hZ (hw _ (List.mem_of_getElem? (i := 88) rfl))) (mvT hZ (hw _ (List.mem_of_getElem? (i := 2) rfl))) (mvT hZ (hw _ (List.mem_of_getElem? (i := 89) rfl))) (by decide) (backOf (W := 0) (own_rmeq l Z aA hw [] x40_0 T140.heap n0 zz151 Fc187) hZ (hw _ (List.mem_of_getElem? (i := 89) rfl)) (hw _ (List.mem_of_getElem? (i := 2) rfl)) (by decide) (by decide)) (g := (mkF m 233 #[.val (.int p0), .val (.int p1), .val (.int p2), .val (.int p3), .val (.int p4), .val (.int p5), .val x1_0, .val x5_0, .val x12_0, .val x19_0, .val x26_0, .val x33_0, .val x40_0, .val (.ref b47), .val (.ref b120), .val (.ref b128), .val (.ref b140), .unset] [x40_0, x40_0])) rfl (by rw [hml]; rfl) (argsL := [x40_0, x40_0]) (rest := []) (lenOf own_pd13 rfl) rfl (by show 2 * 0 + _ ≤ _; exact Nat.le_of_eq rfl) (hb hby at_233) (fun _ _ => ⟨rfl, ee184, (by dsimp only [Pt.cells, Pt.slots]; decide +kernel), (by dsimp only [Pt.cells, Pt.slots]; decide +kernel)⟩)
    dsimp only [Pt.U, Pt.locs, Pt.cells, Pt.slots] at X186 l186 y186 z186 st186 hQ186
    rw [l186, y186, z186] at X186
    obtain ⟨rfl, N186q, ee186⟩ := hQ186
    have N188 := Fr.app N185 N186q
    refine og_of st186 ?_
    show OG p e below _ _ (T186.setTop (mkF m 236 #[.val (.int p0), .val (.int p1), .val (.int p2), .val (.int p3), .val (.int p4), .val (.int p5), .val x1_0, .val x5_0, .val x12_0, .val x19_0, .val x26_0, .val x33_0, .val x40_0, .val (.ref b47), .val (.ref b120), .val (.ref b128), .val (.ref b140), .unset] [(.int (1 : Int32))]))
    clear X184 st186
    refine o_ifY (pc' := 241) X186 hx (hb hby at_236) ((if0 _ _).trans (feq (by decide : ¬ ((1 : Int32) = (0 : Int32)))).2) (by decide) (by decide) ?_
    refine o_aload X186 hx rfl (hb hby at_241) rfl rfl ?_
    obtain ⟨cq189, kq189, q189a, q189b, q189c⟩ := isOf hZ ee186 f140_0
    obtain ⟨_, _, ⟨T189, L189, k189, n189⟩, -, X189, ⟨Lc189, hQ189, l189, y189, z189⟩, st189⟩ := X186.virtualBack hx (y := (⟨"com/example/fact4/fact4/model/AnswerRecord", "anscolumnId", "()Ljava/lang/String;"⟩ : MethodName)) (z := (⟨"com/example/fact4/fact4/model/AnswerRecord", "anscolumnId", "()Ljava/lang/String;"⟩ : MethodName)) hown (mvT hZ (hw _ (List.mem_of_getElem? (i := 120) rfl))) (mvT hZ (hw _ (List.mem_of_getElem? (i := 121) rfl))) (notFace_of_selects (args := #[]) (mvT hZ (hw _ (List.mem_of_getElem? (i := 123) rfl)))) (mvT hZ (hw _ (List.mem_of_getElem? (i := 123) rfl))) (mvT hZ (hw _ (List.mem_of_getElem? (i := 122) rfl))) (by decide) (backOf (W := 0) (own_rm20 l Z aA hw [] b140 (.ref b47) T140.heap n0 zz151 f140_10 rfl) hZ (hw _ (List.mem_of_getElem? (i := 124) rfl)) (hw _ (List.mem_of_getElem? (i := 33) rfl)) (by decide) (by decide)) q189a q189c (g := (mkF m 243 #[.val (.int p0), .val (.int p1), .val (.int p2), .val (.int p3), .val (.int p4), .val (.int p5), .val x1_0, .val x5_0, .val x12_0, .val x19_0, .val x26_0, .val x33_0, .val x40_0, .val (.ref b47), .val (.ref b120), .val (.ref b128), .val (.ref b140), .unset] [(.ref b140)])) rfl (by rw [hml]; rfl) (Steps.refl _) (argsL := []) (rest := []) (lenOf own_pd12 rfl) rfl (by show 2 * 0 + _ ≤ _; exact Nat.le_of_eq rfl) (hb hby at_243) (fun _ _ => ⟨rfl, ee186, (by dsimp only [Pt.cells, Pt.slots]; decide +kernel), (by dsimp only [Pt.cells, Pt.slots]; decide +kernel)⟩)
    dsimp only [Pt.U, Pt.locs, Pt.cells, Pt.slots] at X189 l189 y189 z189 st189 hQ189
    rw [l189, y189, z189] at X189
    obtain ⟨rfl, N189q, ee189⟩ := hQ189
    have N190 := Fr.app N188 N189q
    refine og_tr st189 ?_
    show OG p e below _ _ (T189.setTop (mkF m 246 #[.val (.int p0), .val (.int p1), .val (.int p2), .val (.int p3), .val (.int p4), .val (.int p5), .val x1_0, .val x5_0, .val x12_0, .val x19_0, .val x26_0, .val x33_0, .val x40_0, .val (.ref b47), .val (.ref b120), .val (.ref b128), .val (.ref b140), .unset] [(.ref b47)]))
    clear X186 st189
    refine o_aload X189 hx rfl (hb hby at_246) rfl rfl ?_
    have Fc192 : Exa Z T140.heap b47 "java/lang/String" := (Fc143.keep K140)
    obtain ⟨_, _, ⟨T191, L191, k191, n191⟩, -, X191, ⟨Lc191, hQ191, l191, y191, z191⟩, st191⟩ := Jvm.LawKit.callS X189 hx (y := (⟨"com/example/fact4/fact4/model/AnswerRecordWithAnswerPinLaw", "eq", "(Ljava/lang/String;Ljava/lang/String;)Z"⟩ : MethodName)) hown (mvT hZ (hw _ (List.mem_of_getElem? (i := 87) rfl))) (mvT hZ (hw _ (List.mem_of_getElem? (i := 88) rfl))) (mvT hZ (hw _ (List.mem_of_getElem? (i := 2) rfl))) (mvT hZ (hw _ (List.mem_of_getElem? (i := 89) rfl))) (by decide) (backOf (W := 0) (own_rmeq l Z aA hw [] (.ref b47) T140.heap n0 zz151 (Or.inr ⟨b47, rfl, Fc192⟩)) hZ (hw _ (List.mem_of_getElem? (i := 89) rfl)) (hw _ (List.mem_of_getElem? (i := 2) rfl)) (by decide) (by decide)) (g := (mkF m 248 #[.val (.int p0), .val (.int p1), .val (.int p2), .val (.int p3), .val (.int p4), .val (.int p5), .val x1_0, .val x5_0, .val x12_0, .val x19_0, .val x26_0, .val x33_0, .val x40_0, .val (.ref b47), .val (.ref b120), .val (.ref b128), .val (.ref b140), .unset] [(.ref b47), (.ref b47)])) rfl (by rw [hml]; rfl) (argsL := [(.ref b47), (.ref b47)]) (rest := []) (lenOf own_pd13 rfl) rfl (by show 2 * 0 + _ ≤ _; exact Nat.le_of_eq rfl) (hb hby at_248) (fun _ _ => ⟨rfl, ee189, (by dsimp only [Pt.cells, Pt.slots]; decide +kernel), (by dsimp only [Pt.cells, Pt.slots]; decide +kernel)⟩)
    dsimp only [Pt.U, Pt.locs, Pt.cells, Pt.slots] at X191 l191 y191 z191 st191 hQ191
    rw [l191, y191, z191] at X191
    obtain ⟨rfl, N191q, ee191⟩ := hQ191
    have N193 := Fr.app N190 N191q
    refine og_of st191 ?_
    show OG p e below _ _ (T191.setTop (mkF m 251 #[.val (.int p0), .val (.int p1), .val (.int p2), .val (.int p3), .val (.int p4), .val (.int p5), .val x1_0, .val x5_0, .val x12_0, .val x19_0, .val x26_0, .val x33_0, .val x40_0, .val (.ref b47), .val (.ref b120), .val (.ref b128), .val (.ref b140), .unset] [(.int (1 : Int32))]))
    clear X189 st191
    refine o_ifY (pc' := 256) X191 hx (hb hby at_251) ((if0 _ _).trans (feq (by decide : ¬ ((1 : Int32) = (0 : Int32)))).2) (by decide) (by decide) ?_
    refine o_aload X191 hx rfl (hb hby at_256) rfl rfl ?_
    obtain ⟨cq194, kq194, q194a, q194b, q194c⟩ := isOf hZ ee191 f140_0
    obtain ⟨_, _, ⟨T194, L194, k194, n194⟩, -, X194, ⟨Lc194, hQ194, l194, y194, z194⟩, st194⟩ := X191.virtualBack hx (y := (⟨"com/example/fact4/fact4/model/AnswerRecord", "score", "()Ljava/lang/Integer;"⟩ : MethodName)) (z := (⟨"com/example/fact4/fact4/model/AnswerRecord", "score", "()Ljava/lang/Integer;"⟩ : MethodName)) hown (mvT hZ (hw _ (List.mem_of_getElem? (i := 130) rfl))) (mvT hZ (hw _ (List.mem_of_getElem? (i := 131) rfl))) (notFace_of_selects (args := #[]) (mvT hZ (hw _ (List.mem_of_getElem? (i := 133) rfl)))) (mvT hZ (hw _ (List.mem_of_getElem? (i := 133) rfl))) (mvT hZ (hw _ (List.mem_of_getElem? (i := 132) rfl))) (by decide) (backOf (W := 0) (own_rm22 l Z aA hw [] b140 (.ref b120) T140.heap n0 zz151 f140_4 rfl) hZ (hw _ (List.mem_of_getElem? (i := 134) rfl)) (hw _ (List.mem_of_getElem? (i := 33) rfl)) (by decide) (by decide)) q194a q194c (g := (mkF m 258 #[.val (.int p0), .val (.int p1), .val (.int p2), .val (.int p3), .val (.int p4), .val (.int p5), .val x1_0, .val x5_0, .val x12_0, .val x19_0, .val x26_0, .val x33_0, .val x40_0, .val (.ref b47), .val (.ref b120), .val (.ref b128), .val (.ref b140), .unset] [(.ref b140)])) rfl (by rw [hml]; rfl) (Steps.refl _) (argsL := []) (rest := []) (lenOf own_pd14 rfl) rfl (by show 2 * 0 + _ ≤ _; exact Nat.le_of_eq rfl) (hb hby at_258) (fun _ _ => ⟨rfl, ee191, (by dsimp only [Pt.cells, Pt.slots]; decide +kernel), (by dsimp only [Pt.cells, Pt.slots]; decide +kernel)⟩)
    dsimp only [Pt.U, Pt.locs, Pt.cells, Pt.slots] at X194 l194 y194 z194 st194 hQ194
    rw [l194, y194, z194] at X194
    obtain ⟨rfl, N194q, ee194⟩ := hQ194
    have N195 := Fr.app N193 N194q
    refine og_tr st194 ?_
    show OG p e below _ _ (T194.setTop (mkF m 261 #[.val (.int p0), .val (.int p1), .val (.int p2), .val (.int p3), .val (.int p4), .val (.int p5), .val x1_0, .val x5_0, .val x12_0, .val x19_0, .val x26_0, .val x33_0, .val x40_0, .val (.ref b47), .val (.ref b120), .val (.ref b128), .val (.ref b140), .unset] [(.ref b120)]))
    clear X191 st194
    refine o_astore X194 hx rfl (hb hby at_261) rfl (L' := #[.val (.int p0), .val (.int p1), .val (.int p2), .val (.int p3), .val (.int p4), .val (.int p5), .val x1_0, .val x5_0, .val x12_0, .val x19_0, .val x26_0, .val x33_0, .val x40_0, .val (.ref b47), .val (.ref b120), .val (.ref b128), .val (.ref b140), .val (.ref b120)]) rfl ?_
    refine o_aload X194 hx rfl (hb hby at_263) rfl rfl ?_
    refine o_ifnonnullY (pc' := 279) X194 hx (hb hby at_265) (by decide) (by decide) ?_
    refine o_aload X194 hx rfl (hb hby at_279) rfl rfl ?_
    refine o_ifnullN X194 hx rfl (hb hby at_281) ?_
    refine o_aload X194 hx rfl (hb hby at_284) rfl rfl ?_
    have Fc197 : Fld Z T140.heap b120 "java/lang/Integer" "value" "I" (.int p4) := (((Fld.ext E128 f120_1).keep K135 (ninS ne131 nin0)).keep K140 nin0)
    have Fc198 : Exa Z T140.heap b120 "java/lang/Integer" := (Fc145.keep K140)
    obtain ⟨cq196, kq196, q196a, q196b, q196c⟩ := isOf hZ ee194 Fc198
    obtain ⟨_, _, ⟨T196, L196, k196, n196⟩, -, X196, ⟨Lc196, hQ196, l196, y196, z196⟩, st196⟩ := X194.virtualBack hx (y := (⟨"java/lang/Integer", "intValue", "()I"⟩ : MethodName)) (z := (⟨"java/lang/Integer", "intValue", "()I"⟩ : MethodName)) hown (mvT hZ (hw _ (List.mem_of_getElem? (i := 154) rfl))) (mvT hZ (hw _ (List.mem_of_getElem? (i := 155) rfl))) (notFace_of_selects (args := #[]) (mvT hZ (hw _ (List.mem_of_getElem? (i := 157) rfl)))) (mvT hZ (hw _ (List.mem_of_getElem? (i := 157) rfl))) (mvT hZ (hw _ (List.mem_of_getElem? (i := 156) rfl))) (by decide) (backOf (W := 0) (own_rm26 l Z aA hw [] b120 p4 T140.heap n0 zz151 Fc197) hZ (hw _ (List.mem_of_getElem? (i := 158) rfl)) (hw _ (List.mem_of_getElem? (i := 137) rfl)) (by decide) (by decide)) q196a q196c (g := (mkF m 286 #[.val (.int p0), .val (.int p1), .val (.int p2), .val (.int p3), .val (.int p4), .val (.int p5), .val x1_0, .val x5_0, .val x12_0, .val x19_0, .val x26_0, .val x33_0, .val x40_0, .val (.ref b47), .val (.ref b120), .val (.ref b128), .val (.ref b140), .val (.ref b120)] [(.ref b120)])) rfl (by rw [hml]; rfl) (Steps.refl _) (argsL := []) (rest := []) (lenOf own_pd11 rfl) rfl (by show 2 * 0 + _ ≤ _; exact Nat.le_of_eq rfl) (hb hby at_286) (fun _ _ => ⟨rfl, ee194, (by dsimp only [Pt.cells, Pt.slots]; decide +kernel), (by dsimp only [Pt.cells, Pt.slots]; decide +kernel)⟩)
    dsimp only [Pt.U, Pt.locs, Pt.cells, Pt.slots] at X196 l196 y196 z196 st196 hQ196
    rw [l196, y196, z196] at X196
    obtain ⟨rfl, N196q, ee196⟩ := hQ196
    have N199 := Fr.app N195 N196q
    refine og_tr st196 ?_
    show OG p e below _ _ (T196.setTop (mkF m 289 #[.val (.int p0), .val (.int p1), .val (.int p2), .val (.int p3), .val (.int p4), .val (.int p5), .val x1_0, .val x5_0, .val x12_0, .val x19_0, .val x26_0, .val x33_0, .val x40_0, .val (.ref b47), .val (.ref b120), .val (.ref b128), .val (.ref b140), .val (.ref b120)] [(.int p4)]))
    clear X194 st196
    refine o_aload X196 hx rfl (hb hby at_289) rfl rfl ?_
    obtain ⟨cq200, kq200, q200a, q200b, q200c⟩ := isOf hZ ee196 Fc198
    obtain ⟨_, _, ⟨T200, L200, k200, n200⟩, -, X200, ⟨Lc200, hQ200, l200, y200, z200⟩, st200⟩ := X196.virtualBack hx (y := (⟨"java/lang/Integer", "intValue", "()I"⟩ : MethodName)) (z := (⟨"java/lang/Integer", "intValue", "()I"⟩ : MethodName)) hown (mvT hZ (hw _ (List.mem_of_getElem? (i := 154) rfl))) (mvT hZ (hw _ (List.mem_of_getElem? (i := 155) rfl))) (notFace_of_selects (args := #[]) (mvT hZ (hw _ (List.mem_of_getElem? (i := 157) rfl)))) (mvT hZ (hw _ (List.mem_of_getElem? (i := 157) rfl))) (mvT hZ (hw _ (List.mem_of_getElem? (i := 156) rfl))) (by decide) (backOf (W := 1) (own_rm26 l Z aA hw [] b120 p4 T140.heap n0 zz151 Fc197) hZ (hw _ (List.mem_of_getElem? (i := 158) rfl)) (hw _ (List.mem_of_getElem? (i := 137) rfl)) (by decide) (by decide)) q200a q200c (g := (mkF m 291 #[.val (.int p0), .val (.int p1), .val (.int p2), .val (.int p3), .val (.int p4), .val (.int p5), .val x1_0, .val x5_0, .val x12_0, .val x19_0, .val x26_0, .val x33_0, .val x40_0, .val (.ref b47), .val (.ref b120), .val (.ref b128), .val (.ref b140), .val (.ref b120)] [(.ref b120), (.int p4)])) rfl (by rw [hml]; rfl) (Steps.refl _) (argsL := []) (rest := [(.int p4)]) (lenOf own_pd11 rfl) rfl (by show 2 * 0 + _ ≤ _; exact Nat.le_of_eq rfl) (hb hby at_291) (fun _ _ => ⟨rfl, ee196, (by dsimp only [Pt.cells, Pt.slots]; decide +kernel), (by dsimp only [Pt.cells, Pt.slots]; decide +kernel)⟩)
    dsimp only [Pt.U, Pt.locs, Pt.cells, Pt.slots] at X200 l200 y200 z200 st200 hQ200
    rw [l200, y200, z200] at X200
    obtain ⟨rfl, N200q, ee200⟩ := hQ200
    have N201 := Fr.app N199 N200q
    refine og_tr st200 ?_
    show OG p e below _ _ (T200.setTop (mkF m 294 #[.val (.int p0), .val (.int p1), .val (.int p2), .val (.int p3), .val (.int p4), .val (.int p5), .val x1_0, .val x5_0, .val x12_0, .val x19_0, .val x26_0, .val x33_0, .val x40_0, .val (.ref b47), .val (.ref b120), .val (.ref b128), .val (.ref b140), .val (.ref b120)] [(.int p4), (.int p4)]))
    clear X196 st200
    have hk202 : p4 = p4 := rfl
    refine o_icmpN (pc' := 297) X200 hx rfl (hb hby at_294) (teq hk202).2 ?_
    refine o_iconst (z := (1 : Int32)) X200 hx rfl (hb hby at_297) (by decide) ?_
    refine o_goto (pc' := 302) X200 hx (hb hby at_298) (by decide) (by decide) ?_
    exact o_retB X200 hx Bd.returns (own_lvW X200 hlk hS140 (by rw [ee200]; exact (Nat.le_refl _)) (by decide +kernel) (by decide +kernel)) (hb hby at_302) (by decide) ⟨rfl, N201⟩
theorem own_not0 {args : Array Value} {s : State} {t : Term} {c : Int32} (e : t.eval args s none [] s = some (.int c)) (h : (Jvm.Cond.not (.eq t (.int 0))).value args s none s [] = some true) : ¬ (c = (0 : Int32)) := fun q => by
  subst q
  simp [Cond.value, Term.eval, e] at h
theorem own_elemEval {args : Array Value} {s : State} {t : Term} {arr : Addr} {cell : Cell} {i : Nat} (ei : t.eval args s none [i] s = some (.ref arr)) (hat : s.arrayAt? arr = some cell) (hi : i < 256) : (Term.elem t (.index 0)).eval args s none [i] s = cell.slots[i]? := by
  have pn := Jvm.Free.IntBox.place_nonneg i hi
  simp [Term.eval, ei, pn.1, hat, pn.2]
theorem own_fieldEval {args : Array Value} {s : State} {t u : Term} {a : Addr} {C n d : String} {idx : List Nat} {w : Int32} (e : t.eval args s none idx s = some (.ref a)) (hu : u.eval args s none idx s = some (.int w)) (h : (Jvm.Cond.eq (.field t C n d) u).value args s none s idx = some true) : s.fieldOf? a C n d = some (.int w) := by
  cases hfo : s.fieldOf? a C n d with
  | none => simp [Cond.value, Term.eval, e, hu, hfo] at h
  | some v =>
    cases v <;> simp [Cond.value, Term.eval, e, hu, hfo] at h
    subst h; rfl
theorem own_cacheOf {args : Array Value} {s : State} {C n d : String} {arr : Addr} (e : (Term.static C n d).eval args s none [] s = some (.ref arr)) (h2 : (Jvm.Cond.arrayOf (Term.static C n d) (.object "java/lang/Integer")).before args s = true) (h4 : (Jvm.Cond.eq (.length (Term.static C n d)) (.int 256)).before args s = true)
    (h5 : (Jvm.Cond.all (Term.static C n d) (Jvm.Cond.and (Jvm.Cond.exactly (.elem (Term.static C n d) (.index 0)) "java/lang/Integer") (Jvm.Cond.eq (.field (.elem (Term.static C n d) (.index 0)) "java/lang/Integer" "value" "I") (.sub (.index 0) (.int 128))))).before args s = true) : own_C s s.heap arr := by
  obtain ⟨a, cell, hv, hc, harr, hvm⟩ := Jvm.Free.IntBox.arrayOf_fwd h2 e
  cases hv
  obtain ⟨hsz, h256⟩ := Jvm.Free.IntBox.length_fwd h4 e hc harr hvm
  have hat := Jvm.Free.IntBox.arrayAt_of hc harr hvm
  have hn : cell.slots.size = 256 := by
    have q := congrArg Int32.toInt h256
    rw [len_toInt hsz] at q
    have o : (256 : Int32).toInt = 256 := rfl
    omega
  refine ⟨cell, ⟨hc, harr, hvm⟩, hn, fun i hi => ?_⟩
  have hq := Cond.all_elim e hat (Cond.before_iff.mp h5) i (by omega)
  obtain ⟨x1, x2⟩ := and_e hq
  have ei : (Term.static C n d).eval args s none [i] s = some (.ref arr) := e
  obtain ⟨a', c', cell', k, e1, e2, e3, e4, e5, e6, e7⟩ := Cond.exactly_spec (show (Jvm.Cond.exactly (.elem (Term.static C n d) (.index 0)) "java/lang/Integer").holds args s none s [i] = true from by simp [Cond.holds, x1])
  refine ⟨a', ?_, ⟨cell', k, e3, e6 ▸ e2, e6 ▸ e4, e5, e7⟩, ?_⟩
  · rw [own_elemEval ei hat hi] at e1; exact e1
  · exact Fld.start (own_fieldEval e1 rfl x2)
set_option maxRecDepth 65536 in
set_option maxHeartbeats 40000000 in
theorem own_comes {Post : Tables → Env → Array Value → State → Outcome → State → Prop} (hpost : ∀ tb e args s v u, (limb_1_1.after args s (.returned v) u = true ∧ limb_1_2.after args s (.returned v) u = true ∧ True) → ReturnedEndW s (.returned v) u (Jvm.fieldLocs frame_1_writes args s ++ Jvm.arrayLocs frame_1_arrays args s ++ Jvm.staticLocs frame_1_statics s) 48 1216 → Post tb e args s (.returned v) u) :
    ArmFor flags0 classFile x code maxLocals ret World_1 tables_1 room_1 Calls_1 rest_1 Pre_1 Post := by
  intro l hfl _ _ p e ha hc hk s m args below hf hA hF happ hP
  obtain ⟨hcalls, hrest, hpre⟩ := hP
  obtain ⟨-, -, -, hnamed, -, -, -, hat⟩ := (Spec.applies_iff hf).mp happ
  obtain ⟨hg, hn⟩ := and_e (Cond.before_iff.mp (show (Jvm.Cond.and given_1 narrow_1).before args s = true from hpre))
  obtain ⟨g0, gr0⟩ := and_e hg
  obtain ⟨gi0, gr1⟩ := and_e gr0
  obtain ⟨gi1, gr2⟩ := and_e gr1
  obtain ⟨gi2, gr3⟩ := and_e gr2
  obtain ⟨gi3, gr4⟩ := and_e gr3
  obtain ⟨gi4, gr5⟩ := and_e gr4
  have gi5 := gr5
  obtain ⟨w0, w1, w2, w3, w4, w5, rfl⟩ : ∃ w0 w1 w2 w3 w4 w5 : Value, args = #[w0, w1, w2, w3, w4, w5] := by
    have hs : args.size = 6 := by simpa [Cond.value, given_1] using g0
    obtain ⟨L⟩ := args
    match L, hs with
    | [w0, w1, w2, w3, w4, w5], _ => exact ⟨w0, w1, w2, w3, w4, w5, rfl⟩
  have hw := fun d (hd : d ∈ tables_1) => atoms_spec (ws := Jvm.Cond.code x code maxLocals ret :: tables_1) hat d (List.mem_cons_of_mem _ hd)
  have hfit : Fit s := fun {y c} hc i hi => by
    obtain ⟨ha, rfl⟩ := Array.getElem?_eq_some_iff.mp hc
    have q := List.all_eq_true.mp ((Array.all_eq_true_iff_forall_mem.mp hF) _ (Array.getElem_mem ha)) i (List.mem_range.mpr hi)
    simpa [Array.getElem?_eq_getElem hi] using q
  obtain ⟨hsets, hown0⟩ := atoms_of _ (rest_1_c_eq ▸ (show rest_1_c.before _ s = true from hrest))
  obtain ⟨i0, ei0⟩ := is_v gi0
  obtain rfl : w0 = (.int i0) := Option.some.inj ei0
  obtain ⟨i1, ei1⟩ := is_v gi1
  obtain rfl : w1 = (.int i1) := Option.some.inj ei1
  obtain ⟨i2, ei2⟩ := is_v gi2
  obtain rfl : w2 = (.int i2) := Option.some.inj ei2
  obtain ⟨i3, ei3⟩ := is_v gi3
  obtain rfl : w3 = (.int i3) := Option.some.inj ei3
  obtain ⟨i4, ei4⟩ := is_v gi4
  obtain rfl : w4 = (.int i4) := Option.some.inj ei4
  obtain ⟨i5, ei5⟩ := is_v gi5
  obtain rfl : w5 = (.int i5) := Option.some.inj ei5
  obtain ⟨cs, ecs⟩ := is_v (Cond.before_iff.mp (hsets _ (List.mem_of_getElem? (i := 1) rfl)))
  have hcs := own_not0 ecs (Cond.before_iff.mp (hsets _ (List.mem_of_getElem? (i := 2) rfl)))
  have S0 := Sta.start (Z := s) ecs (Or.inl (hsets _ (List.mem_of_getElem? (i := 0) rfl)))
  have ehi := Cond.eq_int (hsets _ (List.mem_of_getElem? (i := 12) rfl)) rfl
  have S1 := Sta.start (Z := s) ehi (Or.inl (hsets _ (List.mem_of_getElem? (i := 10) rfl)))
  obtain ⟨arr, _, _, _, ea, -⟩ := Cond.exactly_spec (hsets _ (List.mem_of_getElem? (i := 14) rfl))
  have S2 := Sta.start (Z := s) ea (Or.inr ⟨(hw _ (List.mem_of_getElem? (i := 160) rfl)), hsets _ (List.mem_of_getElem? (i := 11) rfl)⟩)
  have S3 := own_cacheOf ea (hsets _ (List.mem_of_getElem? (i := 13) rfl)) (hsets _ (List.mem_of_getElem? (i := 15) rfl)) (hsets _ (List.mem_of_getElem? (i := 16) rfl))
  obtain ⟨n, o, h1, h2, h3, _, L, rfl, ⟨rfl, N⟩, hq⟩ := own_rm0 l s _ hw tables_1 i0 i1 i2 i3 i4 i5 cs arr s.heap s.heap.size (Nat.le_refl _) S0 S1 S2 hcs S3 p e ha hc hk s m _ below hf ((Spec.applies_iff_loose hf).mp happ).1 ⟨rfl, State.Warmed39.refl s, rfl⟩ trivial
  refine ⟨n, _, h1, h2, h3, hpost _ _ _ _ _ _ ⟨Cond.after_iff.mpr rfl, Cond.after_iff.mpr (eq_i res_at (Term.int_eval (1)) rfl), trivial⟩ ⟨hq.1, hq.2.1, hq.2.2.1, (hq.2.2.2.sift fun y hy => Or.inr (N y hy)).mono (by decide) (by decide)⟩⟩
theorem main_1_1 : Claimed_1_1 := own_comes fun _ _ _ _ _ _ h hF => ⟨h.1, hF⟩
theorem main_1_2 : Claimed_1_2 := own_comes fun _ _ _ _ _ _ h hF => ⟨h.2.1, hF⟩
end Jvm.Pilot.@@N@@
namespace Jvm.Pilot.@@N@@
open Jvm Jvm.ClassFile Sem Op Lib Jvm.Free Jvm.Stand Jvm.Pilot.@@N@@.Jvm.D
/-! MADE BY PROGRAM (witnessworld.py) out of the Statement's table words and the real class files: 23 classes; the members and pool entries that the words name. The judged class is class 1, her method 1. -/
namespace start1
open Jvm.ClassFile
def u (s : String) : CpInfo := .utf8 (stringToUtf16 s)
/-- a pool by its gaps: so many unusable entries, then the entry; so many at the end -/
def gap : Nat → List CpInfo → List CpInfo
  | 0, r => r
  | n + 1, r => .unusable :: gap n r
def poolList (es : List (Nat × CpInfo)) (last : Nat) : List CpInfo := es.foldr (fun e r => gap e.1 (e.2 :: r)) (gap last [])
def pool (es : List (Nat × CpInfo)) (last : Nat) : Array CpInfo := ⟨poolList es last⟩
def fileOf (pool : Array CpInfo) (this : Nat) (attrs : Array Attribute := #[]) (ms : Array MethodInfo := #[]) (fl : Nat := 33) (sup : Nat := 0) (ifs : Array Nat := #[]) (fds : Array FieldInfo := #[]) : ClassFile where
  minorVersion := 0
  majorVersion := 65
  constantPool := pool
  accessFlags := fl
  thisClass := this
  superClass := sup
  interfaces := ifs
  fields := fds
  methods := ms
  attributes := attrs
def plain (name : String) (sup : Option ClassId) : Class where
  name := name
  kind := .ordinary
  loader := none
  accessFlags := 33
  super := sup
  interfaces := #[]
  cf := none
  fields := #[]
  methods := #[]
  instanceTypes := #[]
  staticTypes := #[]
  resolved := #[]
  callSites := []
  init := .initialized
  statics := none
  mirror := none

def pool0 : Array CpInfo := pool [(5, u "<init>"), (0, u "()V"), (1, .class_ 10), (1, u "java/lang/Object")] 113

def k0c0 : Code := { maxStack := 0, maxLocals := 1, code := object_method_1_code, exceptionTable := #[], attributes := #[] }
def k0m0 : Method := { name := "<init>", desc := "()V", sig := { parameters := [], returnType := none }, accessFlags := 1, code := some k0c0 }
/-- java/lang/Object -/
def k0 : Class := { plain "java/lang/Object" none with
  accessFlags := 33
  interfaces := #[]
  cf := some (fileOf pool0 8 #[] #[{ accessFlags := 1, nameIndex := 5, descriptorIndex := 6, attributes := #[] }] 33 0 #[] #[])
  fields := #[]
  methods := #[k0m0]
  instanceTypes := #[]
  staticTypes := #[]
  resolved := Array.replicate 124 none
  statics := none }

def pool1 : Array CpInfo := pool [(2, .class_ 4), (1, u "java/lang/Object"), (0, u "<init>"), (0, u "()V"), (0, .methodref 8 9), (0, .class_ 10), (0, .nameAndType 11 12), (0, u "com/example/fact4/fact4/model/AnswerRecordWithAnswerPinLaw"), (0, u "str"), (0, u "(IIZ)Ljava/lang/String;"), (0, .integer 262144), (0, .methodref 15 16), (0, .class_ 17), (0, .nameAndType 18 19), (0, u "java/lang/Integer"), (0, u "valueOf"), (0, u "(I)Ljava/lang/Integer;"), (0, .class_ 21), (0, u "com/example/fact4/fact4/model/AnswerRecord"), (0, .methodref 20 23), (0, .nameAndType 5 24), (0, u "(Ljava/lang/String;Ljava/lang/String;Ljava/lang/String;ILjava/lang/Integer;Ljava/lang/String;Ljava/lang/String;Ljava/lang/String;Ljava/lang/String;Ljava/lang/String;)V"), (0, .methodref 20 26), (0, .nameAndType 27 28), (0, u "withAnswer"), (0, u "(I)Lcom/example/fact4/fact4/model/AnswerRecord;"), (0, .methodref 20 30), (0, .nameAndType 31 32), (0, u "answer"), (0, u "()I"), (0, .methodref 20 34), (0, .nameAndType 35 36), (0, u "section"), (0, u "()Ljava/lang/String;"), (0, .methodref 8 38), (0, .nameAndType 39 40), (0, u "eq"), (0, u "(Ljava/lang/String;Ljava/lang/String;)Z"), (0, .methodref 20 42), (0, .nameAndType 43 36), (0, u "question"), (0, .methodref 20 45), (0, .nameAndType 46 36), (0, u "answerColumn"), (0, .methodref 20 48), (0, .nameAndType 49 36), (0, u "answerType"), (0, .methodref 20 51), (0, .nameAndType 52 36), (0, u "answerStyle"), (0, .methodref 20 54), (0, .nameAndType 55 36), (0, u "knowledgeType"), (0, .methodref 20 57), (0, .nameAndType 58 36), (0, u "questionId"), (0, .methodref 20 60), (0, .nameAndType 61 36), (0, u "anscolumnId"), (0, .methodref 20 63), (0, .nameAndType 64 65), (0, u "score"), (0, u "()Ljava/lang/Integer;"), (0, .methodref 15 67), (0, .nameAndType 68 32), (0, u "intValue"), (0, .methodref 70 71), (0, .class_ 72), (0, .nameAndType 18 73), (0, u "java/lang/String"), (0, u "(C)Ljava/lang/String;"), (0, .methodref 70 75), (0, .nameAndType 76 77), (0, u "equals"), (0, u "(Ljava/lang/Object;)Z"), (2, u "law"), (0, u "(IIIIII)Z")] 3

def k1m0 : Method := { name := "<init>", desc := "()V", sig := { parameters := [], returnType := none }, accessFlags := 1, code := none }
def k1c1 : Code := { maxStack := 12, maxLocals := 18, code := code, exceptionTable := #[], attributes := #[] }
def k1m1 : Method := { name := "law", desc := "(IIIIII)Z", sig := { parameters := [.int, .int, .int, .int, .int, .int], returnType := some .boolean }, accessFlags := 9, code := some k1c1 }
def k1c2 : Code := { maxStack := 2, maxLocals := 4, code := method_3_code, exceptionTable := #[], attributes := #[] }
def k1m2 : Method := { name := "str", desc := "(IIZ)Ljava/lang/String;", sig := { parameters := [.int, .int, .boolean], returnType := some (.object "java/lang/String") }, accessFlags := 10, code := some k1c2 }
def k1c3 : Code := { maxStack := 2, maxLocals := 2, code := method_4_code, exceptionTable := #[], attributes := #[] }
def k1m3 : Method := { name := "eq", desc := "(Ljava/lang/String;Ljava/lang/String;)Z", sig := { parameters := [(.object "java/lang/String"), (.object "java/lang/String")], returnType := some .boolean }, accessFlags := 10, code := some k1c3 }
/-- com/example/fact4/fact4/model/AnswerRecordWithAnswerPinLaw -/
def k1 : Class := { plain "com/example/fact4/fact4/model/AnswerRecordWithAnswerPinLaw" (some 0) with
  accessFlags := 49
  interfaces := #[]
  cf := some (fileOf pool1 8 #[] #[{ accessFlags := 1, nameIndex := 5, descriptorIndex := 6, attributes := #[] }, { accessFlags := 9, nameIndex := 80, descriptorIndex := 81, attributes := #[] }, { accessFlags := 10, nameIndex := 11, descriptorIndex := 12, attributes := #[] }, { accessFlags := 10, nameIndex := 39, descriptorIndex := 40, attributes := #[] }] 49 2 #[] #[])
  fields := #[]
  methods := #[k1m0, k1m1, k1m2, k1m3]
  instanceTypes := #[]
  staticTypes := #[]
  resolved := Array.replicate 85 none
  statics := none }

def pool2 : Array CpInfo := pool [(1, .class_ 2), (0, u "java/io/Serializable"), (0, .class_ 4), (0, u "java/lang/Object")] 2

/-- java/io/Serializable -/
def k2 : Class := { plain "java/io/Serializable" (some 0) with
  accessFlags := 1537
  interfaces := #[]
  cf := some (fileOf pool2 1 #[] #[] 1537 3 #[] #[])
  fields := #[]
  methods := #[]
  instanceTypes := #[]
  staticTypes := #[]
  resolved := Array.replicate 7 none
  statics := none }

def pool3 : Array CpInfo := pool [(1, .class_ 2), (0, u "java/lang/Comparable"), (0, .class_ 4), (0, u "java/lang/Object")] 7

/-- java/lang/Comparable -/
def k3 : Class := { plain "java/lang/Comparable" (some 0) with
  accessFlags := 1537
  interfaces := #[]
  cf := some (fileOf pool3 1 #[] #[] 1537 3 #[] #[])
  fields := #[]
  methods := #[]
  instanceTypes := #[]
  staticTypes := #[]
  resolved := Array.replicate 12 none
  statics := none }

def pool4 : Array CpInfo := pool [(2, .class_ 4), (1, u "java/lang/CharSequence"), (42, .class_ 48), (0, u "java/lang/CharSequence$1CodePointIterator"), (10, .class_ 60), (0, u "java/lang/CharSequence$1CharIterator"), (5, .class_ 67), (0, u "java/lang/Object")] 63

/-- java/lang/CharSequence -/
def k4 : Class := { plain "java/lang/CharSequence" (some 0) with
  accessFlags := 1537
  interfaces := #[]
  cf := some (fileOf pool4 2 #[.nestMembers #[47, 59]] #[] 1537 66 #[] #[])
  fields := #[]
  methods := #[]
  instanceTypes := #[]
  staticTypes := #[]
  resolved := Array.replicate 131 none
  statics := none }

def pool5 : Array CpInfo := pool [(1, .class_ 2), (0, u "java/lang/constant/Constable"), (0, .class_ 4), (0, u "java/lang/Object")] 6

/-- java/lang/constant/Constable -/
def k5 : Class := { plain "java/lang/constant/Constable" (some 0) with
  accessFlags := 1537
  interfaces := #[]
  cf := some (fileOf pool5 1 #[] #[] 1537 3 #[] #[])
  fields := #[]
  methods := #[]
  instanceTypes := #[]
  staticTypes := #[]
  resolved := Array.replicate 11 none
  statics := none }

def pool6 : Array CpInfo := pool [(1, .class_ 2), (0, u "java/lang/constant/ConstantDesc"), (0, .class_ 4), (0, u "java/lang/Object")] 32

/-- java/lang/constant/ConstantDesc -/
def k6 : Class := { plain "java/lang/constant/ConstantDesc" (some 0) with
  accessFlags := 1537
  interfaces := #[]
  cf := some (fileOf pool6 1 #[] #[] 1537 3 #[] #[])
  fields := #[]
  methods := #[]
  instanceTypes := #[]
  staticTypes := #[]
  resolved := Array.replicate 37 none
  statics := none }

def pool7 : Array CpInfo := pool [(1, .methodref 2 3), (0, .class_ 4), (0, .nameAndType 5 6), (0, u "java/lang/Object"), (0, u "<init>"), (0, u "()V"), (2, .fieldref 10 11), (0, .class_ 12), (0, .nameAndType 13 14), (0, u "java/lang/String"), (0, u "value"), (0, u "[B"), (0, .fieldref 10 16), (0, .nameAndType 17 18), (0, u "coder"), (0, u "B"), (2, u "hash"), (0, u "I"), (2, u "hashIsZero"), (0, u "Z"), (11, .fieldref 10 39), (0, .nameAndType 40 26), (0, u "COMPACT_STRINGS"), (12, u "toBytes"), (53, .class_ 109), (1, u "java/lang/StringLatin1"), (99, .methodref 10 210), (0, .nameAndType 5 211), (0, u "([BB)V"), (157, u "(C)Z"), (173, u "equals"), (29, u "(Ljava/lang/Object;)Z"), (1, .class_ 576), (0, u "java/lang/CharSequence"), (22, u "CASE_INSENSITIVE_ORDER"), (0, u "Ljava/util/Comparator;"), (181, u "valueOf"), (0, u "(C)Ljava/lang/String;"), (231, .methodref 107 1016), (0, .nameAndType 1017 369), (0, u "canEncode"), (0, .methodref 107 1019), (0, .nameAndType 53 1020), (0, u "(C)[B"), (80, u "serialPersistentFields"), (0, u "[Ljava/io/ObjectStreamField;"), (0, .class_ 1104), (0, u "java/lang/String$CaseInsensitiveComparator"), (1, .class_ 1107), (0, u "java/io/Serializable"), (0, .class_ 1109), (0, u "java/lang/Comparable"), (0, .class_ 1111), (0, u "java/lang/constant/Constable"), (0, .class_ 1113), (0, u "java/lang/constant/ConstantDesc"), (2, u "serialVersionUID"), (0, u "J"), (3, u "REPL"), (0, u "C"), (2, u "LATIN1"), (1, u "UTF16")] 323

def k7m0 : Method := { name := "<init>", desc := "()V", sig := { parameters := [], returnType := none }, accessFlags := 1, code := none }
def k7c1 : Code := { maxStack := 2, maxLocals := 3, code := jdk_42_method_66_code, exceptionTable := #[], attributes := #[] }
def k7m1 : Method := { name := "equals", desc := "(Ljava/lang/Object;)Z", sig := { parameters := [(.object "java/lang/Object")], returnType := some .boolean }, accessFlags := 1, code := some k7c1 }
def k7c2 : Code := { maxStack := 4, maxLocals := 1, code := jdk_42_method_139_code, exceptionTable := #[], attributes := #[] }
def k7m2 : Method := { name := "valueOf", desc := "(C)Ljava/lang/String;", sig := { parameters := [.char], returnType := some (.object "java/lang/String") }, accessFlags := 9, code := some k7c2 }
def k7c3 : Code := { maxStack := 2, maxLocals := 3, code := jdk_42_method_151_code, exceptionTable := #[], attributes := #[] }
def k7m3 : Method := { name := "<init>", desc := "([BB)V", sig := { parameters := [(.array .byte), .byte], returnType := none }, accessFlags := 0, code := some k7c3 }
/-- java/lang/String -/
def k7 : Class := { plain "java/lang/String" (some 0) with
  accessFlags := 49
  interfaces := #[2, 3, 4, 5, 6]
  cf := some (fileOf pool7 10 #[.nestMembers #[1103]] #[{ accessFlags := 1, nameIndex := 5, descriptorIndex := 6, attributes := #[] }, { accessFlags := 1, nameIndex := 543, descriptorIndex := 573, attributes := #[] }, { accessFlags := 9, nameIndex := 782, descriptorIndex := 783, attributes := #[] }, { accessFlags := 0, nameIndex := 5, descriptorIndex := 211, attributes := #[] }] 49 2 #[1106, 1108, 575, 1110, 1112] #[{ accessFlags := 18, nameIndex := 13, descriptorIndex := 14, attributes := #[] }, { accessFlags := 18, nameIndex := 17, descriptorIndex := 18, attributes := #[] }, { accessFlags := 2, nameIndex := 21, descriptorIndex := 22, attributes := #[] }, { accessFlags := 2, nameIndex := 25, descriptorIndex := 26, attributes := #[] }, { accessFlags := 26, nameIndex := 1116, descriptorIndex := 1117, attributes := #[] }, { accessFlags := 24, nameIndex := 40, descriptorIndex := 26, attributes := #[] }, { accessFlags := 26, nameIndex := 1101, descriptorIndex := 1102, attributes := #[] }, { accessFlags := 26, nameIndex := 1121, descriptorIndex := 1122, attributes := #[] }, { accessFlags := 25, nameIndex := 599, descriptorIndex := 600, attributes := #[] }, { accessFlags := 24, nameIndex := 1125, descriptorIndex := 18, attributes := #[] }, { accessFlags := 24, nameIndex := 1127, descriptorIndex := 18, attributes := #[] }])
  fields := #[{ name := "value", type := (.array .byte), accessFlags := 18, slot := 0, constantValue := 0 }, { name := "coder", type := .byte, accessFlags := 18, slot := 1, constantValue := 0 }, { name := "hash", type := .int, accessFlags := 2, slot := 2, constantValue := 0 }, { name := "hashIsZero", type := .boolean, accessFlags := 2, slot := 3, constantValue := 0 }, { name := "serialVersionUID", type := .long, accessFlags := 26, slot := 0, constantValue := 0 }, { name := "COMPACT_STRINGS", type := .boolean, accessFlags := 24, slot := 1, constantValue := 0 }, { name := "serialPersistentFields", type := (.array (.object "java/io/ObjectStreamField")), accessFlags := 26, slot := 2, constantValue := 0 }, { name := "REPL", type := .char, accessFlags := 26, slot := 3, constantValue := 0 }, { name := "CASE_INSENSITIVE_ORDER", type := (.object "java/util/Comparator"), accessFlags := 25, slot := 4, constantValue := 0 }, { name := "LATIN1", type := .byte, accessFlags := 24, slot := 5, constantValue := 0 }, { name := "UTF16", type := .byte, accessFlags := 24, slot := 6, constantValue := 0 }]
  methods := #[k7m0, k7m1, k7m2, k7m3]
  instanceTypes := #[(.array .byte), .byte, .int, .boolean]
  staticTypes := #[.long, .boolean, (.array (.object "java/io/ObjectStreamField")), .char, (.object "java/util/Comparator"), .byte, .byte]
  resolved := Array.replicate 1451 none
  statics := some 0 }

def pool8 : Array CpInfo := pool [(4, .class_ 6), (1, u "java/lang/Object"), (0, u "<init>"), (0, u "()V"), (5, .class_ 16), (1, u "java/lang/StringLatin1"), (73, u "canEncode"), (14, u "(C)Z"), (15, u "$assertionsDisabled"), (0, u "Z"), (98, .class_ 223), (1, u "java/lang/StringLatin1$LinesSpliterator"), (156, u "toBytes"), (1, u "(C)[B"), (7, .class_ 391), (0, u "java/lang/StringLatin1$CharsSpliterator")] 3

def k8m0 : Method := { name := "<init>", desc := "()V", sig := { parameters := [], returnType := none }, accessFlags := 0, code := none }
def k8c1 : Code := { maxStack := 2, maxLocals := 1, code := jdk_43_method_3_code, exceptionTable := #[], attributes := #[] }
def k8m1 : Method := { name := "canEncode", desc := "(C)Z", sig := { parameters := [.char], returnType := some .boolean }, accessFlags := 9, code := some k8c1 }
def k8c2 : Code := { maxStack := 4, maxLocals := 1, code := jdk_43_method_46_code, exceptionTable := #[], attributes := #[] }
def k8m2 : Method := { name := "toBytes", desc := "(C)[B", sig := { parameters := [.char], returnType := some (.array .byte) }, accessFlags := 9, code := some k8c2 }
/-- java/lang/StringLatin1 -/
def k8 : Class := { plain "java/lang/StringLatin1" (some 0) with
  accessFlags := 48
  interfaces := #[]
  cf := some (fileOf pool8 14 #[.nestMembers #[390, 221]] #[{ accessFlags := 0, nameIndex := 7, descriptorIndex := 8, attributes := #[] }, { accessFlags := 9, nameIndex := 90, descriptorIndex := 105, attributes := #[] }, { accessFlags := 9, nameIndex := 380, descriptorIndex := 382, attributes := #[] }] 48 4 #[] #[{ accessFlags := 4120, nameIndex := 121, descriptorIndex := 122, attributes := #[] }])
  fields := #[{ name := "$assertionsDisabled", type := .boolean, accessFlags := 4120, slot := 0, constantValue := 0 }]
  methods := #[k8m0, k8m1, k8m2]
  instanceTypes := #[]
  staticTypes := #[.boolean]
  resolved := Array.replicate 395 none
  statics := none }

def pool9 : Array CpInfo := pool [(1, .methodref 2 3), (0, .class_ 4), (0, .nameAndType 5 6), (0, u "java/lang/Object"), (0, u "<init>"), (0, u "()V"), (0, .class_ 8), (0, u "java/lang/Record")] 13

def k9c0 : Code := { maxStack := 1, maxLocals := 1, code := jdk_30_method_1_code, exceptionTable := #[], attributes := #[] }
def k9m0 : Method := { name := "<init>", desc := "()V", sig := { parameters := [], returnType := none }, accessFlags := 4, code := some k9c0 }
/-- java/lang/Record -/
def k9 : Class := { plain "java/lang/Record" (some 0) with
  accessFlags := 1057
  interfaces := #[]
  cf := some (fileOf pool9 7 #[] #[{ accessFlags := 4, nameIndex := 5, descriptorIndex := 6, attributes := #[] }] 1057 2 #[] #[])
  fields := #[]
  methods := #[k9m0]
  instanceTypes := #[]
  staticTypes := #[]
  resolved := Array.replicate 22 none
  statics := none }

def pool10 : Array CpInfo := pool [(1, .methodref 2 3), (0, .class_ 4), (0, .nameAndType 5 6), (0, u "java/lang/Record"), (0, u "<init>"), (0, u "()V"), (0, .string 8), (0, u "anscolumnId"), (0, .methodref 10 11), (0, .class_ 12), (0, .nameAndType 13 14), (0, u "java/util/Objects"), (0, u "requireNonNull"), (0, u "(Ljava/lang/Object;Ljava/lang/String;)Ljava/lang/Object;"), (0, .fieldref 16 17), (0, .class_ 18), (0, .nameAndType 19 20), (0, u "com/example/fact4/fact4/model/AnswerRecord"), (0, u "section"), (0, u "Ljava/lang/String;"), (0, .fieldref 16 22), (0, .nameAndType 23 20), (0, u "question"), (0, .fieldref 16 25), (0, .nameAndType 26 20), (0, u "answerColumn"), (0, .fieldref 16 28), (0, .nameAndType 29 30), (0, u "answer"), (0, u "I"), (0, .fieldref 16 32), (0, .nameAndType 33 34), (0, u "score"), (0, u "Ljava/lang/Integer;"), (0, .fieldref 16 36), (0, .nameAndType 37 20), (0, u "answerType"), (0, .fieldref 16 39), (0, .nameAndType 40 20), (0, u "answerStyle"), (0, .fieldref 16 42), (0, .nameAndType 43 20), (0, u "knowledgeType"), (0, .fieldref 16 45), (0, .nameAndType 46 20), (0, u "questionId"), (0, .fieldref 16 48), (0, .nameAndType 8 20), (4, u "()Ljava/lang/String;"), (3, u "()I"), (21, .methodref 16 80), (0, .nameAndType 5 81), (0, u "(Ljava/lang/String;Ljava/lang/String;Ljava/lang/String;ILjava/lang/Integer;Ljava/lang/String;Ljava/lang/String;Ljava/lang/String;Ljava/lang/String;Ljava/lang/String;)V"), (16, u "withAnswer"), (0, u "(I)Lcom/example/fact4/fact4/model/AnswerRecord;"), (1, u "()Ljava/lang/Integer;")] 29

def k10c0 : Code := { maxStack := 2, maxLocals := 11, code := prog_25_method_1_code, exceptionTable := #[], attributes := #[] }
def k10m0 : Method := { name := "<init>", desc := "(Ljava/lang/String;Ljava/lang/String;Ljava/lang/String;ILjava/lang/Integer;Ljava/lang/String;Ljava/lang/String;Ljava/lang/String;Ljava/lang/String;Ljava/lang/String;)V", sig := { parameters := [(.object "java/lang/String"), (.object "java/lang/String"), (.object "java/lang/String"), .int, (.object "java/lang/Integer"), (.object "java/lang/String"), (.object "java/lang/String"), (.object "java/lang/String"), (.object "java/lang/String"), (.object "java/lang/String")], returnType := none }, accessFlags := 1, code := some k10c0 }
def k10c1 : Code := { maxStack := 12, maxLocals := 2, code := prog_25_method_3_code, exceptionTable := #[], attributes := #[] }
def k10m1 : Method := { name := "withAnswer", desc := "(I)Lcom/example/fact4/fact4/model/AnswerRecord;", sig := { parameters := [.int], returnType := some (.object "com/example/fact4/fact4/model/AnswerRecord") }, accessFlags := 1, code := some k10c1 }
def k10c2 : Code := { maxStack := 1, maxLocals := 1, code := prog_25_method_7_code, exceptionTable := #[], attributes := #[] }
def k10m2 : Method := { name := "section", desc := "()Ljava/lang/String;", sig := { parameters := [], returnType := some (.object "java/lang/String") }, accessFlags := 1, code := some k10c2 }
def k10c3 : Code := { maxStack := 1, maxLocals := 1, code := prog_25_method_8_code, exceptionTable := #[], attributes := #[] }
def k10m3 : Method := { name := "question", desc := "()Ljava/lang/String;", sig := { parameters := [], returnType := some (.object "java/lang/String") }, accessFlags := 1, code := some k10c3 }
def k10c4 : Code := { maxStack := 1, maxLocals := 1, code := prog_25_method_9_code, exceptionTable := #[], attributes := #[] }
def k10m4 : Method := { name := "answerColumn", desc := "()Ljava/lang/String;", sig := { parameters := [], returnType := some (.object "java/lang/String") }, accessFlags := 1, code := some k10c4 }
def k10c5 : Code := { maxStack := 1, maxLocals := 1, code := prog_25_method_10_code, exceptionTable := #[], attributes := #[] }
def k10m5 : Method := { name := "answer", desc := "()I", sig := { parameters := [], returnType := some .int }, accessFlags := 1, code := some k10c5 }
def k10c6 : Code := { maxStack := 1, maxLocals := 1, code := prog_25_method_11_code, exceptionTable := #[], attributes := #[] }
def k10m6 : Method := { name := "score", desc := "()Ljava/lang/Integer;", sig := { parameters := [], returnType := some (.object "java/lang/Integer") }, accessFlags := 1, code := some k10c6 }
def k10c7 : Code := { maxStack := 1, maxLocals := 1, code := prog_25_method_12_code, exceptionTable := #[], attributes := #[] }
def k10m7 : Method := { name := "answerType", desc := "()Ljava/lang/String;", sig := { parameters := [], returnType := some (.object "java/lang/String") }, accessFlags := 1, code := some k10c7 }
def k10c8 : Code := { maxStack := 1, maxLocals := 1, code := prog_25_method_13_code, exceptionTable := #[], attributes := #[] }
def k10m8 : Method := { name := "answerStyle", desc := "()Ljava/lang/String;", sig := { parameters := [], returnType := some (.object "java/lang/String") }, accessFlags := 1, code := some k10c8 }
def k10c9 : Code := { maxStack := 1, maxLocals := 1, code := prog_25_method_14_code, exceptionTable := #[], attributes := #[] }
def k10m9 : Method := { name := "knowledgeType", desc := "()Ljava/lang/String;", sig := { parameters := [], returnType := some (.object "java/lang/String") }, accessFlags := 1, code := some k10c9 }
def k10c10 : Code := { maxStack := 1, maxLocals := 1, code := prog_25_method_15_code, exceptionTable := #[], attributes := #[] }
def k10m10 : Method := { name := "questionId", desc := "()Ljava/lang/String;", sig := { parameters := [], returnType := some (.object "java/lang/String") }, accessFlags := 1, code := some k10c10 }
def k10c11 : Code := { maxStack := 1, maxLocals := 1, code := prog_25_method_16_code, exceptionTable := #[], attributes := #[] }
def k10m11 : Method := { name := "anscolumnId", desc := "()Ljava/lang/String;", sig := { parameters := [], returnType := some (.object "java/lang/String") }, accessFlags := 1, code := some k10c11 }
/-- com/example/fact4/fact4/model/AnswerRecord -/
def k10 : Class := { plain "com/example/fact4/fact4/model/AnswerRecord" (some 9) with
  accessFlags := 49
  interfaces := #[]
  cf := some (fileOf pool10 16 #[] #[{ accessFlags := 1, nameIndex := 5, descriptorIndex := 81, attributes := #[] }, { accessFlags := 1, nameIndex := 98, descriptorIndex := 99, attributes := #[] }, { accessFlags := 1, nameIndex := 19, descriptorIndex := 53, attributes := #[] }, { accessFlags := 1, nameIndex := 23, descriptorIndex := 53, attributes := #[] }, { accessFlags := 1, nameIndex := 26, descriptorIndex := 53, attributes := #[] }, { accessFlags := 1, nameIndex := 29, descriptorIndex := 57, attributes := #[] }, { accessFlags := 1, nameIndex := 33, descriptorIndex := 101, attributes := #[] }, { accessFlags := 1, nameIndex := 37, descriptorIndex := 53, attributes := #[] }, { accessFlags := 1, nameIndex := 40, descriptorIndex := 53, attributes := #[] }, { accessFlags := 1, nameIndex := 43, descriptorIndex := 53, attributes := #[] }, { accessFlags := 1, nameIndex := 46, descriptorIndex := 53, attributes := #[] }, { accessFlags := 1, nameIndex := 8, descriptorIndex := 53, attributes := #[] }] 49 2 #[] #[{ accessFlags := 18, nameIndex := 19, descriptorIndex := 20, attributes := #[] }, { accessFlags := 18, nameIndex := 23, descriptorIndex := 20, attributes := #[] }, { accessFlags := 18, nameIndex := 26, descriptorIndex := 20, attributes := #[] }, { accessFlags := 18, nameIndex := 29, descriptorIndex := 30, attributes := #[] }, { accessFlags := 18, nameIndex := 33, descriptorIndex := 34, attributes := #[] }, { accessFlags := 18, nameIndex := 37, descriptorIndex := 20, attributes := #[] }, { accessFlags := 18, nameIndex := 40, descriptorIndex := 20, attributes := #[] }, { accessFlags := 18, nameIndex := 43, descriptorIndex := 20, attributes := #[] }, { accessFlags := 18, nameIndex := 46, descriptorIndex := 20, attributes := #[] }, { accessFlags := 18, nameIndex := 8, descriptorIndex := 20, attributes := #[] }])
  fields := #[{ name := "section", type := (.object "java/lang/String"), accessFlags := 18, slot := 0, constantValue := 0 }, { name := "question", type := (.object "java/lang/String"), accessFlags := 18, slot := 1, constantValue := 0 }, { name := "answerColumn", type := (.object "java/lang/String"), accessFlags := 18, slot := 2, constantValue := 0 }, { name := "answer", type := .int, accessFlags := 18, slot := 3, constantValue := 0 }, { name := "score", type := (.object "java/lang/Integer"), accessFlags := 18, slot := 4, constantValue := 0 }, { name := "answerType", type := (.object "java/lang/String"), accessFlags := 18, slot := 5, constantValue := 0 }, { name := "answerStyle", type := (.object "java/lang/String"), accessFlags := 18, slot := 6, constantValue := 0 }, { name := "knowledgeType", type := (.object "java/lang/String"), accessFlags := 18, slot := 7, constantValue := 0 }, { name := "questionId", type := (.object "java/lang/String"), accessFlags := 18, slot := 8, constantValue := 0 }, { name := "anscolumnId", type := (.object "java/lang/String"), accessFlags := 18, slot := 9, constantValue := 0 }]
  methods := #[k10m0, k10m1, k10m2, k10m3, k10m4, k10m5, k10m6, k10m7, k10m8, k10m9, k10m10, k10m11]
  instanceTypes := #[(.object "java/lang/String"), (.object "java/lang/String"), (.object "java/lang/String"), .int, (.object "java/lang/Integer"), (.object "java/lang/String"), (.object "java/lang/String"), (.object "java/lang/String"), (.object "java/lang/String"), (.object "java/lang/String")]
  staticTypes := #[]
  resolved := Array.replicate 131 none
  statics := none }

def pool11 : Array CpInfo := pool [(2, .class_ 4), (1, u "java/lang/Object"), (0, u "<init>"), (0, u "()V"), (35, .class_ 44), (1, u "java/util/Objects"), (0, u "requireNonNull"), (48, u "(Ljava/lang/Object;Ljava/lang/String;)Ljava/lang/Object;")] 89

def k11m0 : Method := { name := "<init>", desc := "()V", sig := { parameters := [], returnType := none }, accessFlags := 2, code := none }
def k11c1 : Code := { maxStack := 3, maxLocals := 2, code := jdk_31_method_11_code, exceptionTable := #[], attributes := #[] }
def k11m1 : Method := { name := "requireNonNull", desc := "(Ljava/lang/Object;Ljava/lang/String;)Ljava/lang/Object;", sig := { parameters := [(.object "java/lang/Object"), (.object "java/lang/String")], returnType := some (.object "java/lang/Object") }, accessFlags := 9, code := some k11c1 }
/-- java/util/Objects -/
def k11 : Class := { plain "java/util/Objects" (some 0) with
  accessFlags := 49
  interfaces := #[]
  cf := some (fileOf pool11 42 #[] #[{ accessFlags := 2, nameIndex := 5, descriptorIndex := 6, attributes := #[] }, { accessFlags := 9, nameIndex := 45, descriptorIndex := 94, attributes := #[] }] 49 2 #[] #[])
  fields := #[]
  methods := #[k11m0, k11m1]
  instanceTypes := #[]
  staticTypes := #[]
  resolved := Array.replicate 184 none
  statics := none }

def pool12 : Array CpInfo := pool [(1, .methodref 2 3), (0, .class_ 4), (0, .nameAndType 5 6), (0, u "java/lang/Object"), (0, u "<init>"), (0, u "()V"), (1, .class_ 10), (1, u "java/lang/Number"), (2, .class_ 14), (0, u "java/io/Serializable"), (0, u "serialVersionUID"), (0, u "J")] 20

def k12c0 : Code := { maxStack := 1, maxLocals := 1, code := jdk_18_method_1_code, exceptionTable := #[], attributes := #[] }
def k12m0 : Method := { name := "<init>", desc := "()V", sig := { parameters := [], returnType := none }, accessFlags := 1, code := some k12c0 }
/-- java/lang/Number -/
def k12 : Class := { plain "java/lang/Number" (some 0) with
  accessFlags := 1057
  interfaces := #[2]
  cf := some (fileOf pool12 8 #[] #[{ accessFlags := 1, nameIndex := 5, descriptorIndex := 6, attributes := #[] }] 1057 2 #[13] #[{ accessFlags := 26, nameIndex := 15, descriptorIndex := 16, attributes := #[] }])
  fields := #[{ name := "serialVersionUID", type := .long, accessFlags := 26, slot := 0, constantValue := 0 }]
  methods := #[k12m0]
  instanceTypes := #[]
  staticTypes := #[.long]
  resolved := Array.replicate 37 none
  statics := none }

def pool13 : Array CpInfo := pool [(1, .class_ 2), (0, u "java/lang/Integer"), (16, u "digits"), (0, u "[C"), (46, u "<init>"), (17, u "DigitOnes"), (0, u "[B"), (2, u "DigitTens"), (10, .nameAndType 67 101), (0, u "()V"), (19, u "()I"), (65, u "valueOf"), (0, u "(I)Ljava/lang/Integer;"), (0, .class_ 190), (0, u "java/lang/Integer$IntegerCache"), (0, .fieldref 189 192), (0, .nameAndType 193 194), (0, u "high"), (0, u "I"), (0, .fieldref 189 196), (0, .nameAndType 197 198), (0, u "cache"), (0, u "[Ljava/lang/Integer;"), (0, .methodref 1 200), (0, .nameAndType 67 201), (0, u "(I)V"), (0, .methodref 203 100), (0, .class_ 204), (0, u "java/lang/Number"), (0, .fieldref 1 206), (0, .nameAndType 207 194), (0, u "value"), (5, u "intValue"), (88, u "TYPE"), (0, u "Ljava/lang/Class;"), (0, .class_ 305), (0, u "java/lang/Comparable"), (0, .class_ 307), (0, u "java/lang/constant/Constable"), (0, .class_ 309), (0, u "java/lang/constant/ConstantDesc"), (0, u "MIN_VALUE"), (1, u "MAX_VALUE"), (3, u "SIZE"), (1, u "BYTES"), (1, u "serialVersionUID"), (0, u "J")] 131

def k13c0 : Code := { maxStack := 3, maxLocals := 1, code := jdk_33_method_22_code, exceptionTable := #[], attributes := #[] }
def k13m0 : Method := { name := "valueOf", desc := "(I)Ljava/lang/Integer;", sig := { parameters := [.int], returnType := some (.object "java/lang/Integer") }, accessFlags := 9, code := some k13c0 }
def k13c1 : Code := { maxStack := 2, maxLocals := 2, code := jdk_33_method_23_code, exceptionTable := #[], attributes := #[] }
def k13m1 : Method := { name := "<init>", desc := "(I)V", sig := { parameters := [.int], returnType := none }, accessFlags := 1, code := some k13c1 }
def k13c2 : Code := { maxStack := 1, maxLocals := 1, code := jdk_33_method_27_code, exceptionTable := #[], attributes := #[] }
def k13m2 : Method := { name := "intValue", desc := "()I", sig := { parameters := [], returnType := some .int }, accessFlags := 1, code := some k13c2 }
/-- java/lang/Integer -/
def k13 : Class := { plain "java/lang/Integer" (some 12) with
  accessFlags := 49
  interfaces := #[3, 5, 6]
  cf := some (fileOf pool13 1 #[.nestMembers #[189]] #[{ accessFlags := 9, nameIndex := 187, descriptorIndex := 188, attributes := #[] }, { accessFlags := 1, nameIndex := 67, descriptorIndex := 201, attributes := #[] }, { accessFlags := 1, nameIndex := 213, descriptorIndex := 121, attributes := #[] }] 49 203 #[304, 306, 308] #[{ accessFlags := 25, nameIndex := 310, descriptorIndex := 194, attributes := #[] }, { accessFlags := 25, nameIndex := 312, descriptorIndex := 194, attributes := #[] }, { accessFlags := 25, nameIndex := 302, descriptorIndex := 303, attributes := #[] }, { accessFlags := 24, nameIndex := 19, descriptorIndex := 20, attributes := #[] }, { accessFlags := 24, nameIndex := 89, descriptorIndex := 86, attributes := #[] }, { accessFlags := 24, nameIndex := 85, descriptorIndex := 86, attributes := #[] }, { accessFlags := 18, nameIndex := 207, descriptorIndex := 194, attributes := #[] }, { accessFlags := 25, nameIndex := 316, descriptorIndex := 194, attributes := #[] }, { accessFlags := 25, nameIndex := 318, descriptorIndex := 194, attributes := #[] }, { accessFlags := 26, nameIndex := 320, descriptorIndex := 321, attributes := #[] }])
  fields := #[{ name := "MIN_VALUE", type := .int, accessFlags := 25, slot := 0, constantValue := 0 }, { name := "MAX_VALUE", type := .int, accessFlags := 25, slot := 1, constantValue := 0 }, { name := "TYPE", type := (.object "java/lang/Class"), accessFlags := 25, slot := 2, constantValue := 0 }, { name := "digits", type := (.array .char), accessFlags := 24, slot := 3, constantValue := 0 }, { name := "DigitTens", type := (.array .byte), accessFlags := 24, slot := 4, constantValue := 0 }, { name := "DigitOnes", type := (.array .byte), accessFlags := 24, slot := 5, constantValue := 0 }, { name := "value", type := .int, accessFlags := 18, slot := 0, constantValue := 0 }, { name := "SIZE", type := .int, accessFlags := 25, slot := 6, constantValue := 0 }, { name := "BYTES", type := .int, accessFlags := 25, slot := 7, constantValue := 0 }, { name := "serialVersionUID", type := .long, accessFlags := 26, slot := 8, constantValue := 0 }]
  methods := #[k13m0, k13m1, k13m2]
  instanceTypes := #[.int]
  staticTypes := #[.int, .int, (.object "java/lang/Class"), (.array .char), (.array .byte), (.array .byte), .int, .int, .long]
  resolved := Array.replicate 453 none
  statics := none }

def pool14 : Array CpInfo := pool [(2, .class_ 4), (1, u "java/lang/Object"), (0, u "<init>"), (0, u "()V"), (0, .class_ 8), (0, u "java/lang/Integer"), (7, .class_ 18), (1, u "java/lang/Integer$IntegerCache"), (0, u "$assertionsDisabled"), (0, u "Z"), (26, u "high"), (0, u "I"), (8, u "archivedCache"), (0, u "[Ljava/lang/Integer;"), (12, u "cache"), (0, u "low")] 27

def k14m0 : Method := { name := "<init>", desc := "()V", sig := { parameters := [], returnType := none }, accessFlags := 2, code := none }
/-- java/lang/Integer$IntegerCache -/
def k14 : Class := { plain "java/lang/Integer$IntegerCache" (some 0) with
  accessFlags := 48
  interfaces := #[]
  cf := some (fileOf pool14 16 #[.nestHost 7] #[{ accessFlags := 2, nameIndex := 5, descriptorIndex := 6, attributes := #[] }] 48 2 #[] #[{ accessFlags := 24, nameIndex := 72, descriptorIndex := 48, attributes := #[] }, { accessFlags := 24, nameIndex := 47, descriptorIndex := 48, attributes := #[] }, { accessFlags := 24, nameIndex := 71, descriptorIndex := 58, attributes := #[] }, { accessFlags := 8, nameIndex := 57, descriptorIndex := 58, attributes := #[] }, { accessFlags := 4120, nameIndex := 19, descriptorIndex := 20, attributes := #[] }])
  fields := #[{ name := "low", type := .int, accessFlags := 24, slot := 0, constantValue := 0 }, { name := "high", type := .int, accessFlags := 24, slot := 1, constantValue := 0 }, { name := "cache", type := (.array (.object "java/lang/Integer")), accessFlags := 24, slot := 2, constantValue := 0 }, { name := "archivedCache", type := (.array (.object "java/lang/Integer")), accessFlags := 8, slot := 3, constantValue := 0 }, { name := "$assertionsDisabled", type := .boolean, accessFlags := 4120, slot := 4, constantValue := 0 }]
  methods := #[k14m0]
  instanceTypes := #[]
  staticTypes := #[.int, .int, (.array (.object "java/lang/Integer")), (.array (.object "java/lang/Integer")), .boolean]
  resolved := Array.replicate 100 none
  statics := some 1 }

def pool15 : Array CpInfo := pool [(2, .class_ 4), (1, u "java/lang/Object"), (0, u "<init>"), (0, u "()V"), (17, .class_ 26), (1, u "jdk/internal/util/Preconditions"), (28, .class_ 56), (0, u "jdk/internal/util/Preconditions$4"), (57, .class_ 115), (0, u "jdk/internal/util/Preconditions$1"), (7, u "SIOOBE_FORMATTER"), (0, u "Ljava/util/function/BiFunction;"), (0, .class_ 126), (0, u "jdk/internal/util/Preconditions$2"), (3, u "AIOOBE_FORMATTER"), (0, .class_ 132), (0, u "jdk/internal/util/Preconditions$3"), (3, u "IOOBE_FORMATTER")] 57

def k15m0 : Method := { name := "<init>", desc := "()V", sig := { parameters := [], returnType := none }, accessFlags := 1, code := none }
/-- jdk/internal/util/Preconditions -/
def k15 : Class := { plain "jdk/internal/util/Preconditions" (some 0) with
  accessFlags := 33
  interfaces := #[]
  cf := some (fileOf pool15 24 #[.nestMembers #[55, 131, 125, 114]] #[{ accessFlags := 1, nameIndex := 5, descriptorIndex := 6, attributes := #[] }] 33 2 #[] #[{ accessFlags := 25, nameIndex := 123, descriptorIndex := 124, attributes := #[] }, { accessFlags := 25, nameIndex := 130, descriptorIndex := 124, attributes := #[] }, { accessFlags := 25, nameIndex := 136, descriptorIndex := 124, attributes := #[] }])
  fields := #[{ name := "SIOOBE_FORMATTER", type := (.object "java/util/function/BiFunction"), accessFlags := 25, slot := 0, constantValue := 0 }, { name := "AIOOBE_FORMATTER", type := (.object "java/util/function/BiFunction"), accessFlags := 25, slot := 1, constantValue := 0 }, { name := "IOOBE_FORMATTER", type := (.object "java/util/function/BiFunction"), accessFlags := 25, slot := 2, constantValue := 0 }]
  methods := #[k15m0]
  instanceTypes := #[]
  staticTypes := #[(.object "java/util/function/BiFunction"), (.object "java/util/function/BiFunction"), (.object "java/util/function/BiFunction")]
  resolved := Array.replicate 194 none
  statics := some 2 }

def pool16 : Array CpInfo := pool [(9, u "<init>"), (6, .class_ 18), (1, u "java/lang/Object"), (0, u "()V"), (1, .class_ 23), (1, u "jdk/internal/util/ArraysSupport"), (0, u "LOG2_ARRAY_LONG_INDEX_SCALE"), (0, u "I"), (2, u "U"), (0, u "Ljdk/internal/misc/Unsafe;"), (8, u "BIG_ENDIAN"), (0, u "Z"), (8, u "LOG2_BYTE_BIT_SIZE"), (4, u "LOG2_ARRAY_INT_INDEX_SCALE"), (54, u "JLA"), (0, u "Ljdk/internal/access/JavaLangAccess;"), (11, u "LOG2_ARRAY_BOOLEAN_INDEX_SCALE"), (9, u "LOG2_ARRAY_BYTE_INDEX_SCALE"), (5, u "LOG2_ARRAY_CHAR_INDEX_SCALE"), (5, u "LOG2_ARRAY_SHORT_INDEX_SCALE"), (18, u "LOG2_ARRAY_FLOAT_INDEX_SCALE"), (24, u "LOG2_ARRAY_DOUBLE_INDEX_SCALE"), (89, u "T_BOOLEAN"), (2, u "T_CHAR"), (1, u "T_FLOAT"), (1, u "T_DOUBLE"), (1, u "T_BYTE"), (1, u "T_SHORT"), (1, u "T_INT"), (1, u "T_LONG"), (1, u "SOFT_MAX_ARRAY_LENGTH")] 83

def k16m0 : Method := { name := "<init>", desc := "()V", sig := { parameters := [], returnType := none }, accessFlags := 2, code := none }
/-- jdk/internal/util/ArraysSupport -/
def k16 : Class := { plain "jdk/internal/util/ArraysSupport" (some 0) with
  accessFlags := 33
  interfaces := #[]
  cf := some (fileOf pool16 21 #[] #[{ accessFlags := 2, nameIndex := 9, descriptorIndex := 19, attributes := #[] }] 33 16 #[] #[{ accessFlags := 24, nameIndex := 28, descriptorIndex := 29, attributes := #[] }, { accessFlags := 26, nameIndex := 38, descriptorIndex := 39, attributes := #[] }, { accessFlags := 25, nameIndex := 121, descriptorIndex := 25, attributes := #[] }, { accessFlags := 25, nameIndex := 131, descriptorIndex := 25, attributes := #[] }, { accessFlags := 25, nameIndex := 137, descriptorIndex := 25, attributes := #[] }, { accessFlags := 25, nameIndex := 143, descriptorIndex := 25, attributes := #[] }, { accessFlags := 25, nameIndex := 53, descriptorIndex := 25, attributes := #[] }, { accessFlags := 25, nameIndex := 24, descriptorIndex := 25, attributes := #[] }, { accessFlags := 25, nameIndex := 162, descriptorIndex := 25, attributes := #[] }, { accessFlags := 25, nameIndex := 187, descriptorIndex := 25, attributes := #[] }, { accessFlags := 26, nameIndex := 48, descriptorIndex := 25, attributes := #[] }, { accessFlags := 25, nameIndex := 277, descriptorIndex := 25, attributes := #[] }, { accessFlags := 25, nameIndex := 280, descriptorIndex := 25, attributes := #[] }, { accessFlags := 25, nameIndex := 282, descriptorIndex := 25, attributes := #[] }, { accessFlags := 25, nameIndex := 284, descriptorIndex := 25, attributes := #[] }, { accessFlags := 25, nameIndex := 286, descriptorIndex := 25, attributes := #[] }, { accessFlags := 25, nameIndex := 288, descriptorIndex := 25, attributes := #[] }, { accessFlags := 25, nameIndex := 290, descriptorIndex := 25, attributes := #[] }, { accessFlags := 25, nameIndex := 292, descriptorIndex := 25, attributes := #[] }, { accessFlags := 26, nameIndex := 108, descriptorIndex := 109, attributes := #[] }, { accessFlags := 25, nameIndex := 294, descriptorIndex := 25, attributes := #[] }])
  fields := #[{ name := "U", type := (.object "jdk/internal/misc/Unsafe"), accessFlags := 24, slot := 0, constantValue := 0 }, { name := "BIG_ENDIAN", type := .boolean, accessFlags := 26, slot := 1, constantValue := 0 }, { name := "LOG2_ARRAY_BOOLEAN_INDEX_SCALE", type := .int, accessFlags := 25, slot := 2, constantValue := 0 }, { name := "LOG2_ARRAY_BYTE_INDEX_SCALE", type := .int, accessFlags := 25, slot := 3, constantValue := 0 }, { name := "LOG2_ARRAY_CHAR_INDEX_SCALE", type := .int, accessFlags := 25, slot := 4, constantValue := 0 }, { name := "LOG2_ARRAY_SHORT_INDEX_SCALE", type := .int, accessFlags := 25, slot := 5, constantValue := 0 }, { name := "LOG2_ARRAY_INT_INDEX_SCALE", type := .int, accessFlags := 25, slot := 6, constantValue := 0 }, { name := "LOG2_ARRAY_LONG_INDEX_SCALE", type := .int, accessFlags := 25, slot := 7, constantValue := 0 }, { name := "LOG2_ARRAY_FLOAT_INDEX_SCALE", type := .int, accessFlags := 25, slot := 8, constantValue := 0 }, { name := "LOG2_ARRAY_DOUBLE_INDEX_SCALE", type := .int, accessFlags := 25, slot := 9, constantValue := 0 }, { name := "LOG2_BYTE_BIT_SIZE", type := .int, accessFlags := 26, slot := 10, constantValue := 0 }, { name := "T_BOOLEAN", type := .int, accessFlags := 25, slot := 11, constantValue := 0 }, { name := "T_CHAR", type := .int, accessFlags := 25, slot := 12, constantValue := 0 }, { name := "T_FLOAT", type := .int, accessFlags := 25, slot := 13, constantValue := 0 }, { name := "T_DOUBLE", type := .int, accessFlags := 25, slot := 14, constantValue := 0 }, { name := "T_BYTE", type := .int, accessFlags := 25, slot := 15, constantValue := 0 }, { name := "T_SHORT", type := .int, accessFlags := 25, slot := 16, constantValue := 0 }, { name := "T_INT", type := .int, accessFlags := 25, slot := 17, constantValue := 0 }, { name := "T_LONG", type := .int, accessFlags := 25, slot := 18, constantValue := 0 }, { name := "JLA", type := (.object "jdk/internal/access/JavaLangAccess"), accessFlags := 26, slot := 19, constantValue := 0 }, { name := "SOFT_MAX_ARRAY_LENGTH", type := .int, accessFlags := 25, slot := 20, constantValue := 0 }]
  methods := #[k16m0]
  instanceTypes := #[]
  staticTypes := #[(.object "jdk/internal/misc/Unsafe"), .boolean, .int, .int, .int, .int, .int, .int, .int, .int, .int, .int, .int, .int, .int, .int, .int, .int, .int, (.object "jdk/internal/access/JavaLangAccess"), .int]
  resolved := Array.replicate 378 none
  statics := none }

def pool17 : Array CpInfo := pool [(1, u "java/lang/Cloneable"), (0, .class_ 1), (0, u "java/lang/Object"), (0, .class_ 3)] 3

/-- java/lang/Cloneable -/
def k17 : Class := { plain "java/lang/Cloneable" (some 0) with
  accessFlags := 1537
  interfaces := #[]
  cf := some (fileOf pool17 2 #[] #[] 1537 4 #[] #[])
  fields := #[]
  methods := #[]
  instanceTypes := #[]
  staticTypes := #[]
  resolved := Array.replicate 8 none
  statics := none }

/-- the primitive byte -/
def k18 : Class := { plain "byte" none with kind := .primitive 'B', accessFlags := 0x411 }
/-- [B -/
def k19 : Class := { plain "[B" (some 0) with kind := .array 18 .byte, interfaces := #[17, 2], accessFlags := 1041 }

/-- the primitive int -/
def k20 : Class := { plain "int" none with kind := .primitive 'I', accessFlags := 0x411 }
/-- [I -/
def k21 : Class := { plain "[I" (some 0) with kind := .array 20 .int, interfaces := #[17, 2], accessFlags := 1041 }

/-- [Ljava/lang/Integer; -/
def k22 : Class := { plain "[Ljava/lang/Integer;" (some 0) with kind := .array 13 (.object "java/lang/Integer"), interfaces := #[17, 2], accessFlags := 1041 }

def heap : Heap := #[{ cls := 7, slots := #[.long 0, .int 1, .null, .int 0, .null, .int 0, .int 0], vm := .statics 7 },
  { cls := 14, slots := #[.int 0, .int 127, .ref 3, .null, .int 0], vm := .statics 14 },
  { cls := 15, slots := #[.null, .null, .null], vm := .statics 15 },
  { cls := 22, slots := #[.ref 4, .ref 5, .ref 6, .ref 7, .ref 8, .ref 9, .ref 10, .ref 11, .ref 12, .ref 13, .ref 14, .ref 15, .ref 16, .ref 17, .ref 18, .ref 19, .ref 20, .ref 21, .ref 22, .ref 23, .ref 24, .ref 25, .ref 26, .ref 27, .ref 28, .ref 29, .ref 30, .ref 31, .ref 32, .ref 33, .ref 34, .ref 35, .ref 36, .ref 37, .ref 38, .ref 39, .ref 40, .ref 41, .ref 42, .ref 43, .ref 44, .ref 45, .ref 46, .ref 47, .ref 48, .ref 49, .ref 50, .ref 51, .ref 52, .ref 53, .ref 54, .ref 55, .ref 56, .ref 57, .ref 58, .ref 59, .ref 60, .ref 61, .ref 62, .ref 63, .ref 64, .ref 65, .ref 66, .ref 67, .ref 68, .ref 69, .ref 70, .ref 71, .ref 72, .ref 73, .ref 74, .ref 75, .ref 76, .ref 77, .ref 78, .ref 79, .ref 80, .ref 81, .ref 82, .ref 83, .ref 84, .ref 85, .ref 86, .ref 87, .ref 88, .ref 89, .ref 90, .ref 91, .ref 92, .ref 93, .ref 94, .ref 95, .ref 96, .ref 97, .ref 98, .ref 99, .ref 100, .ref 101, .ref 102, .ref 103, .ref 104, .ref 105, .ref 106, .ref 107, .ref 108, .ref 109, .ref 110, .ref 111, .ref 112, .ref 113, .ref 114, .ref 115, .ref 116, .ref 117, .ref 118, .ref 119, .ref 120, .ref 121, .ref 122, .ref 123, .ref 124, .ref 125, .ref 126, .ref 127, .ref 128, .ref 129, .ref 130, .ref 131, .ref 132, .ref 133, .ref 134, .ref 135, .ref 136, .ref 137, .ref 138, .ref 139, .ref 140, .ref 141, .ref 142, .ref 143, .ref 144, .ref 145, .ref 146, .ref 147, .ref 148, .ref 149, .ref 150, .ref 151, .ref 152, .ref 153, .ref 154, .ref 155, .ref 156, .ref 157, .ref 158, .ref 159, .ref 160, .ref 161, .ref 162, .ref 163, .ref 164, .ref 165, .ref 166, .ref 167, .ref 168, .ref 169, .ref 170, .ref 171, .ref 172, .ref 173, .ref 174, .ref 175, .ref 176, .ref 177, .ref 178, .ref 179, .ref 180, .ref 181, .ref 182, .ref 183, .ref 184, .ref 185, .ref 186, .ref 187, .ref 188, .ref 189, .ref 190, .ref 191, .ref 192, .ref 193, .ref 194, .ref 195, .ref 196, .ref 197, .ref 198, .ref 199, .ref 200, .ref 201, .ref 202, .ref 203, .ref 204, .ref 205, .ref 206, .ref 207, .ref 208, .ref 209, .ref 210, .ref 211, .ref 212, .ref 213, .ref 214, .ref 215, .ref 216, .ref 217, .ref 218, .ref 219, .ref 220, .ref 221, .ref 222, .ref 223, .ref 224, .ref 225, .ref 226, .ref 227, .ref 228, .ref 229, .ref 230, .ref 231, .ref 232, .ref 233, .ref 234, .ref 235, .ref 236, .ref 237, .ref 238, .ref 239, .ref 240, .ref 241, .ref 242, .ref 243, .ref 244, .ref 245, .ref 246, .ref 247, .ref 248, .ref 249, .ref 250, .ref 251, .ref 252, .ref 253, .ref 254, .ref 255, .ref 256, .ref 257, .ref 258, .ref 259], vm := .none },
  { cls := 13, slots := #[.int (-128)], vm := .none },
  { cls := 13, slots := #[.int (-127)], vm := .none },
  { cls := 13, slots := #[.int (-126)], vm := .none },
  { cls := 13, slots := #[.int (-125)], vm := .none },
  { cls := 13, slots := #[.int (-124)], vm := .none },
  { cls := 13, slots := #[.int (-123)], vm := .none },
  { cls := 13, slots := #[.int (-122)], vm := .none },
  { cls := 13, slots := #[.int (-121)], vm := .none },
  { cls := 13, slots := #[.int (-120)], vm := .none },
  { cls := 13, slots := #[.int (-119)], vm := .none },
  { cls := 13, slots := #[.int (-118)], vm := .none },
  { cls := 13, slots := #[.int (-117)], vm := .none },
  { cls := 13, slots := #[.int (-116)], vm := .none },
  { cls := 13, slots := #[.int (-115)], vm := .none },
  { cls := 13, slots := #[.int (-114)], vm := .none },
  { cls := 13, slots := #[.int (-113)], vm := .none },
  { cls := 13, slots := #[.int (-112)], vm := .none },
  { cls := 13, slots := #[.int (-111)], vm := .none },
  { cls := 13, slots := #[.int (-110)], vm := .none },
  { cls := 13, slots := #[.int (-109)], vm := .none },
  { cls := 13, slots := #[.int (-108)], vm := .none },
  { cls := 13, slots := #[.int (-107)], vm := .none },
  { cls := 13, slots := #[.int (-106)], vm := .none },
  { cls := 13, slots := #[.int (-105)], vm := .none },
  { cls := 13, slots := #[.int (-104)], vm := .none },
  { cls := 13, slots := #[.int (-103)], vm := .none },
  { cls := 13, slots := #[.int (-102)], vm := .none },
  { cls := 13, slots := #[.int (-101)], vm := .none },
  { cls := 13, slots := #[.int (-100)], vm := .none },
  { cls := 13, slots := #[.int (-99)], vm := .none },
  { cls := 13, slots := #[.int (-98)], vm := .none },
  { cls := 13, slots := #[.int (-97)], vm := .none },
  { cls := 13, slots := #[.int (-96)], vm := .none },
  { cls := 13, slots := #[.int (-95)], vm := .none },
  { cls := 13, slots := #[.int (-94)], vm := .none },
  { cls := 13, slots := #[.int (-93)], vm := .none },
  { cls := 13, slots := #[.int (-92)], vm := .none },
  { cls := 13, slots := #[.int (-91)], vm := .none },
  { cls := 13, slots := #[.int (-90)], vm := .none },
  { cls := 13, slots := #[.int (-89)], vm := .none },
  { cls := 13, slots := #[.int (-88)], vm := .none },
  { cls := 13, slots := #[.int (-87)], vm := .none },
  { cls := 13, slots := #[.int (-86)], vm := .none },
  { cls := 13, slots := #[.int (-85)], vm := .none },
  { cls := 13, slots := #[.int (-84)], vm := .none },
  { cls := 13, slots := #[.int (-83)], vm := .none },
  { cls := 13, slots := #[.int (-82)], vm := .none },
  { cls := 13, slots := #[.int (-81)], vm := .none },
  { cls := 13, slots := #[.int (-80)], vm := .none },
  { cls := 13, slots := #[.int (-79)], vm := .none },
  { cls := 13, slots := #[.int (-78)], vm := .none },
  { cls := 13, slots := #[.int (-77)], vm := .none },
  { cls := 13, slots := #[.int (-76)], vm := .none },
  { cls := 13, slots := #[.int (-75)], vm := .none },
  { cls := 13, slots := #[.int (-74)], vm := .none },
  { cls := 13, slots := #[.int (-73)], vm := .none },
  { cls := 13, slots := #[.int (-72)], vm := .none },
  { cls := 13, slots := #[.int (-71)], vm := .none },
  { cls := 13, slots := #[.int (-70)], vm := .none },
  { cls := 13, slots := #[.int (-69)], vm := .none },
  { cls := 13, slots := #[.int (-68)], vm := .none },
  { cls := 13, slots := #[.int (-67)], vm := .none },
  { cls := 13, slots := #[.int (-66)], vm := .none },
  { cls := 13, slots := #[.int (-65)], vm := .none },
  { cls := 13, slots := #[.int (-64)], vm := .none },
  { cls := 13, slots := #[.int (-63)], vm := .none },
  { cls := 13, slots := #[.int (-62)], vm := .none },
  { cls := 13, slots := #[.int (-61)], vm := .none },
  { cls := 13, slots := #[.int (-60)], vm := .none },
  { cls := 13, slots := #[.int (-59)], vm := .none },
  { cls := 13, slots := #[.int (-58)], vm := .none },
  { cls := 13, slots := #[.int (-57)], vm := .none },
  { cls := 13, slots := #[.int (-56)], vm := .none },
  { cls := 13, slots := #[.int (-55)], vm := .none },
  { cls := 13, slots := #[.int (-54)], vm := .none },
  { cls := 13, slots := #[.int (-53)], vm := .none },
  { cls := 13, slots := #[.int (-52)], vm := .none },
  { cls := 13, slots := #[.int (-51)], vm := .none },
  { cls := 13, slots := #[.int (-50)], vm := .none },
  { cls := 13, slots := #[.int (-49)], vm := .none },
  { cls := 13, slots := #[.int (-48)], vm := .none },
  { cls := 13, slots := #[.int (-47)], vm := .none },
  { cls := 13, slots := #[.int (-46)], vm := .none },
  { cls := 13, slots := #[.int (-45)], vm := .none },
  { cls := 13, slots := #[.int (-44)], vm := .none },
  { cls := 13, slots := #[.int (-43)], vm := .none },
  { cls := 13, slots := #[.int (-42)], vm := .none },
  { cls := 13, slots := #[.int (-41)], vm := .none },
  { cls := 13, slots := #[.int (-40)], vm := .none },
  { cls := 13, slots := #[.int (-39)], vm := .none },
  { cls := 13, slots := #[.int (-38)], vm := .none },
  { cls := 13, slots := #[.int (-37)], vm := .none },
  { cls := 13, slots := #[.int (-36)], vm := .none },
  { cls := 13, slots := #[.int (-35)], vm := .none },
  { cls := 13, slots := #[.int (-34)], vm := .none },
  { cls := 13, slots := #[.int (-33)], vm := .none },
  { cls := 13, slots := #[.int (-32)], vm := .none },
  { cls := 13, slots := #[.int (-31)], vm := .none },
  { cls := 13, slots := #[.int (-30)], vm := .none },
  { cls := 13, slots := #[.int (-29)], vm := .none },
  { cls := 13, slots := #[.int (-28)], vm := .none },
  { cls := 13, slots := #[.int (-27)], vm := .none },
  { cls := 13, slots := #[.int (-26)], vm := .none },
  { cls := 13, slots := #[.int (-25)], vm := .none },
  { cls := 13, slots := #[.int (-24)], vm := .none },
  { cls := 13, slots := #[.int (-23)], vm := .none },
  { cls := 13, slots := #[.int (-22)], vm := .none },
  { cls := 13, slots := #[.int (-21)], vm := .none },
  { cls := 13, slots := #[.int (-20)], vm := .none },
  { cls := 13, slots := #[.int (-19)], vm := .none },
  { cls := 13, slots := #[.int (-18)], vm := .none },
  { cls := 13, slots := #[.int (-17)], vm := .none },
  { cls := 13, slots := #[.int (-16)], vm := .none },
  { cls := 13, slots := #[.int (-15)], vm := .none },
  { cls := 13, slots := #[.int (-14)], vm := .none },
  { cls := 13, slots := #[.int (-13)], vm := .none },
  { cls := 13, slots := #[.int (-12)], vm := .none },
  { cls := 13, slots := #[.int (-11)], vm := .none },
  { cls := 13, slots := #[.int (-10)], vm := .none },
  { cls := 13, slots := #[.int (-9)], vm := .none },
  { cls := 13, slots := #[.int (-8)], vm := .none },
  { cls := 13, slots := #[.int (-7)], vm := .none },
  { cls := 13, slots := #[.int (-6)], vm := .none },
  { cls := 13, slots := #[.int (-5)], vm := .none },
  { cls := 13, slots := #[.int (-4)], vm := .none },
  { cls := 13, slots := #[.int (-3)], vm := .none },
  { cls := 13, slots := #[.int (-2)], vm := .none },
  { cls := 13, slots := #[.int (-1)], vm := .none },
  { cls := 13, slots := #[.int 0], vm := .none },
  { cls := 13, slots := #[.int 1], vm := .none },
  { cls := 13, slots := #[.int 2], vm := .none },
  { cls := 13, slots := #[.int 3], vm := .none },
  { cls := 13, slots := #[.int 4], vm := .none },
  { cls := 13, slots := #[.int 5], vm := .none },
  { cls := 13, slots := #[.int 6], vm := .none },
  { cls := 13, slots := #[.int 7], vm := .none },
  { cls := 13, slots := #[.int 8], vm := .none },
  { cls := 13, slots := #[.int 9], vm := .none },
  { cls := 13, slots := #[.int 10], vm := .none },
  { cls := 13, slots := #[.int 11], vm := .none },
  { cls := 13, slots := #[.int 12], vm := .none },
  { cls := 13, slots := #[.int 13], vm := .none },
  { cls := 13, slots := #[.int 14], vm := .none },
  { cls := 13, slots := #[.int 15], vm := .none },
  { cls := 13, slots := #[.int 16], vm := .none },
  { cls := 13, slots := #[.int 17], vm := .none },
  { cls := 13, slots := #[.int 18], vm := .none },
  { cls := 13, slots := #[.int 19], vm := .none },
  { cls := 13, slots := #[.int 20], vm := .none },
  { cls := 13, slots := #[.int 21], vm := .none },
  { cls := 13, slots := #[.int 22], vm := .none },
  { cls := 13, slots := #[.int 23], vm := .none },
  { cls := 13, slots := #[.int 24], vm := .none },
  { cls := 13, slots := #[.int 25], vm := .none },
  { cls := 13, slots := #[.int 26], vm := .none },
  { cls := 13, slots := #[.int 27], vm := .none },
  { cls := 13, slots := #[.int 28], vm := .none },
  { cls := 13, slots := #[.int 29], vm := .none },
  { cls := 13, slots := #[.int 30], vm := .none },
  { cls := 13, slots := #[.int 31], vm := .none },
  { cls := 13, slots := #[.int 32], vm := .none },
  { cls := 13, slots := #[.int 33], vm := .none },
  { cls := 13, slots := #[.int 34], vm := .none },
  { cls := 13, slots := #[.int 35], vm := .none },
  { cls := 13, slots := #[.int 36], vm := .none },
  { cls := 13, slots := #[.int 37], vm := .none },
  { cls := 13, slots := #[.int 38], vm := .none },
  { cls := 13, slots := #[.int 39], vm := .none },
  { cls := 13, slots := #[.int 40], vm := .none },
  { cls := 13, slots := #[.int 41], vm := .none },
  { cls := 13, slots := #[.int 42], vm := .none },
  { cls := 13, slots := #[.int 43], vm := .none },
  { cls := 13, slots := #[.int 44], vm := .none },
  { cls := 13, slots := #[.int 45], vm := .none },
  { cls := 13, slots := #[.int 46], vm := .none },
  { cls := 13, slots := #[.int 47], vm := .none },
  { cls := 13, slots := #[.int 48], vm := .none },
  { cls := 13, slots := #[.int 49], vm := .none },
  { cls := 13, slots := #[.int 50], vm := .none },
  { cls := 13, slots := #[.int 51], vm := .none },
  { cls := 13, slots := #[.int 52], vm := .none },
  { cls := 13, slots := #[.int 53], vm := .none },
  { cls := 13, slots := #[.int 54], vm := .none },
  { cls := 13, slots := #[.int 55], vm := .none },
  { cls := 13, slots := #[.int 56], vm := .none },
  { cls := 13, slots := #[.int 57], vm := .none },
  { cls := 13, slots := #[.int 58], vm := .none },
  { cls := 13, slots := #[.int 59], vm := .none },
  { cls := 13, slots := #[.int 60], vm := .none },
  { cls := 13, slots := #[.int 61], vm := .none },
  { cls := 13, slots := #[.int 62], vm := .none },
  { cls := 13, slots := #[.int 63], vm := .none },
  { cls := 13, slots := #[.int 64], vm := .none },
  { cls := 13, slots := #[.int 65], vm := .none },
  { cls := 13, slots := #[.int 66], vm := .none },
  { cls := 13, slots := #[.int 67], vm := .none },
  { cls := 13, slots := #[.int 68], vm := .none },
  { cls := 13, slots := #[.int 69], vm := .none },
  { cls := 13, slots := #[.int 70], vm := .none },
  { cls := 13, slots := #[.int 71], vm := .none },
  { cls := 13, slots := #[.int 72], vm := .none },
  { cls := 13, slots := #[.int 73], vm := .none },
  { cls := 13, slots := #[.int 74], vm := .none },
  { cls := 13, slots := #[.int 75], vm := .none },
  { cls := 13, slots := #[.int 76], vm := .none },
  { cls := 13, slots := #[.int 77], vm := .none },
  { cls := 13, slots := #[.int 78], vm := .none },
  { cls := 13, slots := #[.int 79], vm := .none },
  { cls := 13, slots := #[.int 80], vm := .none },
  { cls := 13, slots := #[.int 81], vm := .none },
  { cls := 13, slots := #[.int 82], vm := .none },
  { cls := 13, slots := #[.int 83], vm := .none },
  { cls := 13, slots := #[.int 84], vm := .none },
  { cls := 13, slots := #[.int 85], vm := .none },
  { cls := 13, slots := #[.int 86], vm := .none },
  { cls := 13, slots := #[.int 87], vm := .none },
  { cls := 13, slots := #[.int 88], vm := .none },
  { cls := 13, slots := #[.int 89], vm := .none },
  { cls := 13, slots := #[.int 90], vm := .none },
  { cls := 13, slots := #[.int 91], vm := .none },
  { cls := 13, slots := #[.int 92], vm := .none },
  { cls := 13, slots := #[.int 93], vm := .none },
  { cls := 13, slots := #[.int 94], vm := .none },
  { cls := 13, slots := #[.int 95], vm := .none },
  { cls := 13, slots := #[.int 96], vm := .none },
  { cls := 13, slots := #[.int 97], vm := .none },
  { cls := 13, slots := #[.int 98], vm := .none },
  { cls := 13, slots := #[.int 99], vm := .none },
  { cls := 13, slots := #[.int 100], vm := .none },
  { cls := 13, slots := #[.int 101], vm := .none },
  { cls := 13, slots := #[.int 102], vm := .none },
  { cls := 13, slots := #[.int 103], vm := .none },
  { cls := 13, slots := #[.int 104], vm := .none },
  { cls := 13, slots := #[.int 105], vm := .none },
  { cls := 13, slots := #[.int 106], vm := .none },
  { cls := 13, slots := #[.int 107], vm := .none },
  { cls := 13, slots := #[.int 108], vm := .none },
  { cls := 13, slots := #[.int 109], vm := .none },
  { cls := 13, slots := #[.int 110], vm := .none },
  { cls := 13, slots := #[.int 111], vm := .none },
  { cls := 13, slots := #[.int 112], vm := .none },
  { cls := 13, slots := #[.int 113], vm := .none },
  { cls := 13, slots := #[.int 114], vm := .none },
  { cls := 13, slots := #[.int 115], vm := .none },
  { cls := 13, slots := #[.int 116], vm := .none },
  { cls := 13, slots := #[.int 117], vm := .none },
  { cls := 13, slots := #[.int 118], vm := .none },
  { cls := 13, slots := #[.int 119], vm := .none },
  { cls := 13, slots := #[.int 120], vm := .none },
  { cls := 13, slots := #[.int 121], vm := .none },
  { cls := 13, slots := #[.int 122], vm := .none },
  { cls := 13, slots := #[.int 123], vm := .none },
  { cls := 13, slots := #[.int 124], vm := .none },
  { cls := 13, slots := #[.int 125], vm := .none },
  { cls := 13, slots := #[.int 126], vm := .none },
  { cls := 13, slots := #[.int 127], vm := .none }]
def classes : Array Class := #[k0, k1, k2, k3, k4, k5, k6, k7, k8, k9, k10, k11, k12, k13, k14, k15, k16, k17, k18, k19, k20, k21, k22]
def interned : List (Array UInt16 × Addr) := []
def slotsUsed : Nat := 527
def theMethod : MethodId := ⟨1, 1⟩
def args0 : Array Value := #[.int 0, .int 1, .int 2, .int 3, .int 4, .int 5]
def aboutOver (below : List Frame) : State where
  vm := { classes := classes, interned := interned.toArray }
  heap := heap
  slotsUsed := slotsUsed
  threads := #[{ frames := .invoking theMethod args0 :: below }]
def below0 : List Frame := [.native { method := ⟨0, 0⟩, args := #[] }]
def about1 : State := aboutOver below0
def p0 : Program := .bare "" "" ""
def e0 : Env := launch0.env 0 0 0
theorem w_frames : about1.frames = Frame.invoking theMethod args0 :: below0 := rfl
set_option maxRecDepth 65536 in
theorem w_args : argsFit about1.vm theMethod args0 = true := by decide +kernel
set_option maxRecDepth 65536 in
theorem w_heap : heapFits about1 = true := by decide +kernel
set_option maxRecDepth 65536 in
theorem w_runnable : about1.curStatus? = some .runnable := by decide +kernel
set_option maxRecDepth 65536 in
theorem w_alone : about1.alone = true := by decide +kernel
set_option maxRecDepth 65536 in
theorem w_named : about1.methodNamed? x = some theMethod := by decide +kernel
set_option maxRecDepth 65536 in
theorem w_hears : about1.hears theMethod below0 = true := by decide +kernel
set_option maxRecDepth 65536 in
theorem w_ripe : about1.ripe theMethod args0 below0 = true := by decide +kernel
theorem w_running : about1.status = .running := rfl
set_option maxRecDepth 65536 in
theorem w_room : about1.hasRoom e0.platform room_1 = true :=
  launch0.hasRoom_least _ room_1 (by decide +kernel) (by decide +kernel) (by decide +kernel) (by decide +kernel) (by decide +kernel) (by decide +kernel)
theorem allAtoms_all (ts : List Jvm.Cond) (a : Array Jvm.Value) (st : Jvm.State) : (allAtoms ts).before a st = ts.all (fun c => c.before a st) := by
  induction ts with
  | nil => rfl
  | cons c t ih =>
    show (Jvm.Cond.and c (allAtoms t)).before a st = _
    rw [Jvm.Cond.before_and, ih, List.all_cons]
def words1 : List Jvm.Cond := Jvm.Cond.code x code maxLocals ret :: tables_1
/-- a 'code' word, met by the world's own term for the bytes: nothing is compared byte by byte -/
theorem code_word {y : MethodName} {bytes : ByteArray} {mx : Nat} {rt : Option FieldType} {a : Array Value} {s : State} {m : MethodId} {meth : Method} {c : Code} (h1 : s.methodNamed? y = some m) (h2 : s.vm.method? m = some meth) (h3 : meth.code = some c) (h4 : c.code = bytes)
    (h5 : (c.maxLocals == mx && c.exceptionTable.isEmpty && decide (c.maxStack ≤ mostOperands) && decide (meth.sig.returnType = rt) && !meth.locks && decide (parseMethodDescriptor y.desc = some meth.sig)) = true) : (Jvm.Cond.code y bytes mx rt).before a s = true := by
  simp only [Bool.and_eq_true, beq_iff_eq, Bool.not_eq_true', decide_eq_true_eq] at h5
  obtain ⟨⟨⟨⟨⟨g1, g2⟩, g3⟩, g4⟩, g5⟩, g6⟩ := h5
  simp [Cond.before, Cond.holds, Cond.value, h1, h2, h3, h4, g1, g2, g3, g4, g5, g6]
def isCode : Jvm.Cond → Bool
  | .code _ _ _ _ => true
  | _ => false
theorem all_split {L : List Jvm.Cond} {P : Jvm.Cond → Bool} (h1 : L.all (fun c => isCode c || P c) = true) (h2 : ∀ c ∈ L.filter isCode, P c = true) : L.all P = true := by
  refine List.all_eq_true.mpr fun c hc => ?_
  have h := List.all_eq_true.mp h1 c hc
  rcases Bool.eq_false_or_eq_true (isCode c) with hi | hi
  · exact h2 c (List.mem_filter.mpr ⟨hc, hi⟩)
  · simpa [hi] using h
set_option maxRecDepth 65536 in
theorem w_c0 : (Jvm.Cond.code x code maxLocals ret).before args0 about1 = true := code_word (m := ⟨1, 1⟩) (meth := k1m1) (c := k1c1) (by decide +kernel) rfl rfl rfl (by decide +kernel)
set_option maxRecDepth 65536 in
theorem w_c1 : (Jvm.Cond.code ({ cls := "com/example/fact4/fact4/model/AnswerRecordWithAnswerPinLaw", name := "str", desc := "(IIZ)Ljava/lang/String;" } : Jvm.MethodName) method_3_code (4 : Nat) (Option.some (Jvm.ClassFile.FieldType.object "java/lang/String"))).before args0 about1 = true := code_word (m := ⟨1, 2⟩) (meth := k1m2) (c := k1c2) (by decide +kernel) rfl rfl rfl (by decide +kernel)
set_option maxRecDepth 65536 in
theorem w_c2 : (Jvm.Cond.code ({ cls := "java/lang/String", name := "valueOf", desc := "(C)Ljava/lang/String;" } : Jvm.MethodName) jdk_42_method_139_code (1 : Nat) (Option.some (Jvm.ClassFile.FieldType.object "java/lang/String"))).before args0 about1 = true := code_word (m := ⟨7, 2⟩) (meth := k7m2) (c := k7c2) (by decide +kernel) rfl rfl rfl (by decide +kernel)
set_option maxRecDepth 65536 in
theorem w_c3 : (Jvm.Cond.code ({ cls := "java/lang/StringLatin1", name := "canEncode", desc := "(C)Z" } : Jvm.MethodName) jdk_43_method_3_code (1 : Nat) (Option.some Jvm.ClassFile.FieldType.boolean)).before args0 about1 = true := code_word (m := ⟨8, 1⟩) (meth := k8m1) (c := k8c1) (by decide +kernel) rfl rfl rfl (by decide +kernel)
set_option maxRecDepth 65536 in
theorem w_c4 : (Jvm.Cond.code ({ cls := "java/lang/StringLatin1", name := "toBytes", desc := "(C)[B" } : Jvm.MethodName) jdk_43_method_46_code (1 : Nat) (Option.some (Jvm.ClassFile.FieldType.array Jvm.ClassFile.FieldType.byte))).before args0 about1 = true := code_word (m := ⟨8, 2⟩) (meth := k8m2) (c := k8c2) (by decide +kernel) rfl rfl rfl (by decide +kernel)
set_option maxRecDepth 65536 in
theorem w_c5 : (Jvm.Cond.code ({ cls := "java/lang/String", name := "<init>", desc := "([BB)V" } : Jvm.MethodName) jdk_42_method_151_code (3 : Nat) (Option.none : Option Jvm.ClassFile.FieldType)).before args0 about1 = true := code_word (m := ⟨7, 3⟩) (meth := k7m3) (c := k7c3) (by decide +kernel) rfl rfl rfl (by decide +kernel)
set_option maxRecDepth 65536 in
theorem w_c6 : (Jvm.Cond.code ({ cls := "java/lang/Object", name := "<init>", desc := "()V" } : Jvm.MethodName) object_method_1_code (1 : Nat) (Option.none : Option Jvm.ClassFile.FieldType)).before args0 about1 = true := code_word (m := ⟨0, 0⟩) (meth := k0m0) (c := k0c0) (by decide +kernel) rfl rfl rfl (by decide +kernel)
set_option maxRecDepth 65536 in
theorem w_c7 : (Jvm.Cond.code ({ cls := "com/example/fact4/fact4/model/AnswerRecord", name := "<init>", desc := "(Ljava/lang/String;Ljava/lang/String;Ljava/lang/String;ILjava/lang/Integer;Ljava/lang/String;Ljava/lang/String;Ljava/lang/String;Ljava/lang/String;Ljava/lang/String;)V" } : Jvm.MethodName) prog_25_method_1_code (11 : Nat) (Option.none : Option Jvm.ClassFile.FieldType)).before args0 about1 = true := code_word (m := ⟨10, 0⟩) (meth := k10m0) (c := k10c0) (by decide +kernel) rfl rfl rfl (by decide +kernel)
set_option maxRecDepth 65536 in
theorem w_c8 : (Jvm.Cond.code ({ cls := "java/lang/Record", name := "<init>", desc := "()V" } : Jvm.MethodName) jdk_30_method_1_code (1 : Nat) (Option.none : Option Jvm.ClassFile.FieldType)).before args0 about1 = true := code_word (m := ⟨9, 0⟩) (meth := k9m0) (c := k9c0) (by decide +kernel) rfl rfl rfl (by decide +kernel)
set_option maxRecDepth 65536 in
theorem w_c9 : (Jvm.Cond.code ({ cls := "java/util/Objects", name := "requireNonNull", desc := "(Ljava/lang/Object;Ljava/lang/String;)Ljava/lang/Object;" } : Jvm.MethodName) jdk_31_method_11_code (2 : Nat) (Option.some (Jvm.ClassFile.FieldType.object "java/lang/Object"))).before args0 about1 = true := code_word (m := ⟨11, 1⟩) (meth := k11m1) (c := k11c1) (by decide +kernel) rfl rfl rfl (by decide +kernel)
set_option maxRecDepth 65536 in
theorem w_c10 : (Jvm.Cond.code ({ cls := "com/example/fact4/fact4/model/AnswerRecord", name := "withAnswer", desc := "(I)Lcom/example/fact4/fact4/model/AnswerRecord;" } : Jvm.MethodName) prog_25_method_3_code (2 : Nat) (Option.some (Jvm.ClassFile.FieldType.object "com/example/fact4/fact4/model/AnswerRecord"))).before args0 about1 = true := code_word (m := ⟨10, 1⟩) (meth := k10m1) (c := k10c1) (by decide +kernel) rfl rfl rfl (by decide +kernel)
set_option maxRecDepth 65536 in
theorem w_c11 : (Jvm.Cond.code ({ cls := "com/example/fact4/fact4/model/AnswerRecord", name := "answer", desc := "()I" } : Jvm.MethodName) prog_25_method_10_code (1 : Nat) (Option.some Jvm.ClassFile.FieldType.int)).before args0 about1 = true := code_word (m := ⟨10, 5⟩) (meth := k10m5) (c := k10c5) (by decide +kernel) rfl rfl rfl (by decide +kernel)
set_option maxRecDepth 65536 in
theorem w_c12 : (Jvm.Cond.code ({ cls := "com/example/fact4/fact4/model/AnswerRecord", name := "section", desc := "()Ljava/lang/String;" } : Jvm.MethodName) prog_25_method_7_code (1 : Nat) (Option.some (Jvm.ClassFile.FieldType.object "java/lang/String"))).before args0 about1 = true := code_word (m := ⟨10, 2⟩) (meth := k10m2) (c := k10c2) (by decide +kernel) rfl rfl rfl (by decide +kernel)
set_option maxRecDepth 65536 in
theorem w_c13 : (Jvm.Cond.code ({ cls := "com/example/fact4/fact4/model/AnswerRecordWithAnswerPinLaw", name := "eq", desc := "(Ljava/lang/String;Ljava/lang/String;)Z" } : Jvm.MethodName) method_4_code (2 : Nat) (Option.some Jvm.ClassFile.FieldType.boolean)).before args0 about1 = true := code_word (m := ⟨1, 3⟩) (meth := k1m3) (c := k1c3) (by decide +kernel) rfl rfl rfl (by decide +kernel)
set_option maxRecDepth 65536 in
theorem w_c14 : (Jvm.Cond.code ({ cls := "com/example/fact4/fact4/model/AnswerRecord", name := "question", desc := "()Ljava/lang/String;" } : Jvm.MethodName) prog_25_method_8_code (1 : Nat) (Option.some (Jvm.ClassFile.FieldType.object "java/lang/String"))).before args0 about1 = true := code_word (m := ⟨10, 3⟩) (meth := k10m3) (c := k10c3) (by decide +kernel) rfl rfl rfl (by decide +kernel)
set_option maxRecDepth 65536 in
theorem w_c15 : (Jvm.Cond.code ({ cls := "com/example/fact4/fact4/model/AnswerRecord", name := "answerColumn", desc := "()Ljava/lang/String;" } : Jvm.MethodName) prog_25_method_9_code (1 : Nat) (Option.some (Jvm.ClassFile.FieldType.object "java/lang/String"))).before args0 about1 = true := code_word (m := ⟨10, 4⟩) (meth := k10m4) (c := k10c4) (by decide +kernel) rfl rfl rfl (by decide +kernel)
set_option maxRecDepth 65536 in
theorem w_c16 : (Jvm.Cond.code ({ cls := "com/example/fact4/fact4/model/AnswerRecord", name := "answerType", desc := "()Ljava/lang/String;" } : Jvm.MethodName) prog_25_method_12_code (1 : Nat) (Option.some (Jvm.ClassFile.FieldType.object "java/lang/String"))).before args0 about1 = true := code_word (m := ⟨10, 7⟩) (meth := k10m7) (c := k10c7) (by decide +kernel) rfl rfl rfl (by decide +kernel)
set_option maxRecDepth 65536 in
theorem w_c17 : (Jvm.Cond.code ({ cls := "com/example/fact4/fact4/model/AnswerRecord", name := "answerStyle", desc := "()Ljava/lang/String;" } : Jvm.MethodName) prog_25_method_13_code (1 : Nat) (Option.some (Jvm.ClassFile.FieldType.object "java/lang/String"))).before args0 about1 = true := code_word (m := ⟨10, 8⟩) (meth := k10m8) (c := k10c8) (by decide +kernel) rfl rfl rfl (by decide +kernel)
set_option maxRecDepth 65536 in
theorem w_c18 : (Jvm.Cond.code ({ cls := "com/example/fact4/fact4/model/AnswerRecord", name := "knowledgeType", desc := "()Ljava/lang/String;" } : Jvm.MethodName) prog_25_method_14_code (1 : Nat) (Option.some (Jvm.ClassFile.FieldType.object "java/lang/String"))).before args0 about1 = true := code_word (m := ⟨10, 9⟩) (meth := k10m9) (c := k10c9) (by decide +kernel) rfl rfl rfl (by decide +kernel)
set_option maxRecDepth 65536 in
theorem w_c19 : (Jvm.Cond.code ({ cls := "com/example/fact4/fact4/model/AnswerRecord", name := "questionId", desc := "()Ljava/lang/String;" } : Jvm.MethodName) prog_25_method_15_code (1 : Nat) (Option.some (Jvm.ClassFile.FieldType.object "java/lang/String"))).before args0 about1 = true := code_word (m := ⟨10, 10⟩) (meth := k10m10) (c := k10c10) (by decide +kernel) rfl rfl rfl (by decide +kernel)
set_option maxRecDepth 65536 in
theorem w_c20 : (Jvm.Cond.code ({ cls := "com/example/fact4/fact4/model/AnswerRecord", name := "anscolumnId", desc := "()Ljava/lang/String;" } : Jvm.MethodName) prog_25_method_16_code (1 : Nat) (Option.some (Jvm.ClassFile.FieldType.object "java/lang/String"))).before args0 about1 = true := code_word (m := ⟨10, 11⟩) (meth := k10m11) (c := k10c11) (by decide +kernel) rfl rfl rfl (by decide +kernel)
set_option maxRecDepth 65536 in
theorem w_c21 : (Jvm.Cond.code ({ cls := "java/lang/String", name := "equals", desc := "(Ljava/lang/Object;)Z" } : Jvm.MethodName) jdk_42_method_66_code (3 : Nat) (Option.some Jvm.ClassFile.FieldType.boolean)).before args0 about1 = true := code_word (m := ⟨7, 1⟩) (meth := k7m1) (c := k7c1) (by decide +kernel) rfl rfl rfl (by decide +kernel)
set_option maxRecDepth 65536 in
theorem w_c22 : (Jvm.Cond.code ({ cls := "com/example/fact4/fact4/model/AnswerRecord", name := "score", desc := "()Ljava/lang/Integer;" } : Jvm.MethodName) prog_25_method_11_code (1 : Nat) (Option.some (Jvm.ClassFile.FieldType.object "java/lang/Integer"))).before args0 about1 = true := code_word (m := ⟨10, 6⟩) (meth := k10m6) (c := k10c6) (by decide +kernel) rfl rfl rfl (by decide +kernel)
set_option maxRecDepth 65536 in
theorem w_c23 : (Jvm.Cond.code ({ cls := "java/lang/Integer", name := "valueOf", desc := "(I)Ljava/lang/Integer;" } : Jvm.MethodName) jdk_33_method_22_code (1 : Nat) (Option.some (Jvm.ClassFile.FieldType.object "java/lang/Integer"))).before args0 about1 = true := code_word (m := ⟨13, 0⟩) (meth := k13m0) (c := k13c0) (by decide +kernel) rfl rfl rfl (by decide +kernel)
set_option maxRecDepth 65536 in
theorem w_c24 : (Jvm.Cond.code ({ cls := "java/lang/Integer", name := "<init>", desc := "(I)V" } : Jvm.MethodName) jdk_33_method_23_code (2 : Nat) (Option.none : Option Jvm.ClassFile.FieldType)).before args0 about1 = true := code_word (m := ⟨13, 1⟩) (meth := k13m1) (c := k13c1) (by decide +kernel) rfl rfl rfl (by decide +kernel)
set_option maxRecDepth 65536 in
theorem w_c25 : (Jvm.Cond.code ({ cls := "java/lang/Number", name := "<init>", desc := "()V" } : Jvm.MethodName) jdk_18_method_1_code (1 : Nat) (Option.none : Option Jvm.ClassFile.FieldType)).before args0 about1 = true := code_word (m := ⟨12, 0⟩) (meth := k12m0) (c := k12c0) (by decide +kernel) rfl rfl rfl (by decide +kernel)
set_option maxRecDepth 65536 in
theorem w_c26 : (Jvm.Cond.code ({ cls := "java/lang/Integer", name := "intValue", desc := "()I" } : Jvm.MethodName) jdk_33_method_27_code (1 : Nat) (Option.some Jvm.ClassFile.FieldType.int)).before args0 about1 = true := code_word (m := ⟨13, 2⟩) (meth := k13m2) (c := k13c2) (by decide +kernel) rfl rfl rfl (by decide +kernel)
def codes1 : List Jvm.Cond := [Jvm.Cond.code x code maxLocals ret, Jvm.Cond.code ({ cls := "com/example/fact4/fact4/model/AnswerRecordWithAnswerPinLaw", name := "str", desc := "(IIZ)Ljava/lang/String;" } : Jvm.MethodName) method_3_code (4 : Nat) (Option.some (Jvm.ClassFile.FieldType.object "java/lang/String")), Jvm.Cond.code ({ cls := "java/lang/String", name := "valueOf", desc := "(C)Ljava/lang/String;" } : Jvm.MethodName) jdk_42_method_139_code (1 : Nat) (Option.some (Jvm.ClassFile.FieldType.object "java/lang/String")), Jvm.Cond.code ({ cls := "java/lang/StringLatin1", name := "canEncode", desc := "(C)Z" } : Jvm.MethodName) jdk_43_method_3_code (1 : Nat) (Option.some Jvm.ClassFile.FieldType.boolean), Jvm.Cond.code ({ cls := "java/lang/StringLatin1", name := "toBytes", desc := "(C)[B" } : Jvm.MethodName) jdk_43_method_46_code (1 : Nat) (Option.some (Jvm.ClassFile.FieldType.array Jvm.ClassFile.FieldType.byte)), Jvm.Cond.code ({ cls := "java/lang/String", name := "<init>", desc := "([BB)V" } : Jvm.MethodName) jdk_42_method_151_code (3 : Nat) (Option.none : Option Jvm.ClassFile.FieldType), Jvm.Cond.code ({ cls := "java/lang/Object", name := "<init>", desc := "()V" } : Jvm.MethodName) object_method_1_code (1 : Nat) (Option.none : Option Jvm.ClassFile.FieldType), Jvm.Cond.code ({ cls := "com/example/fact4/fact4/model/AnswerRecord", name := "<init>", desc := "(Ljava/lang/String;Ljava/lang/String;Ljava/lang/String;ILjava/lang/Integer;Ljava/lang/String;Ljava/lang/String;Ljava/lang/String;Ljava/lang/String;Ljava/lang/String;)V" } : Jvm.MethodName) prog_25_method_1_code (11 : Nat) (Option.none : Option Jvm.ClassFile.FieldType), Jvm.Cond.code ({ cls := "java/lang/Record", name := "<init>", desc := "()V" } : Jvm.MethodName) jdk_30_method_1_code (1 : Nat) (Option.none : Option Jvm.ClassFile.FieldType), Jvm.Cond.code ({ cls := "java/util/Objects", name := "requireNonNull", desc := "(Ljava/lang/Object;Ljava/lang/String;)Ljava/lang/Object;" } : Jvm.MethodName) jdk_31_method_11_code (2 : Nat) (Option.some (Jvm.ClassFile.FieldType.object "java/lang/Object")), Jvm.Cond.code ({ cls := "com/example/fact4/fact4/model/AnswerRecord", name := "withAnswer", desc := "(I)Lcom/example/fact4/fact4/model/AnswerRecord;" } : Jvm.MethodName) prog_25_method_3_code (2 : Nat) (Option.some (Jvm.ClassFile.FieldType.object "com/example/fact4/fact4/model/AnswerRecord")), Jvm.Cond.code ({ cls := "com/example/fact4/fact4/model/AnswerRecord", name := "answer", desc := "()I" } : Jvm.MethodName) prog_25_method_10_code (1 : Nat) (Option.some Jvm.ClassFile.FieldType.int), Jvm.Cond.code ({ cls := "com/example/fact4/fact4/model/AnswerRecord", name := "section", desc := "()Ljava/lang/String;" } : Jvm.MethodName) prog_25_method_7_code (1 : Nat) (Option.some (Jvm.ClassFile.FieldType.object "java/lang/String")), Jvm.Cond.code ({ cls := "com/example/fact4/fact4/model/AnswerRecordWithAnswerPinLaw", name := "eq", desc := "(Ljava/lang/String;Ljava/lang/String;)Z" } : Jvm.MethodName) method_4_code (2 : Nat) (Option.some Jvm.ClassFile.FieldType.boolean), Jvm.Cond.code ({ cls := "com/example/fact4/fact4/model/AnswerRecord", name := "question", desc := "()Ljava/lang/String;" } : Jvm.MethodName) prog_25_method_8_code (1 : Nat) (Option.some (Jvm.ClassFile.FieldType.object "java/lang/String")), Jvm.Cond.code ({ cls := "com/example/fact4/fact4/model/AnswerRecord", name := "answerColumn", desc := "()Ljava/lang/String;" } : Jvm.MethodName) prog_25_method_9_code (1 : Nat) (Option.some (Jvm.ClassFile.FieldType.object "java/lang/String")), Jvm.Cond.code ({ cls := "com/example/fact4/fact4/model/AnswerRecord", name := "answerType", desc := "()Ljava/lang/String;" } : Jvm.MethodName) prog_25_method_12_code (1 : Nat) (Option.some (Jvm.ClassFile.FieldType.object "java/lang/String")), Jvm.Cond.code ({ cls := "com/example/fact4/fact4/model/AnswerRecord", name := "answerStyle", desc := "()Ljava/lang/String;" } : Jvm.MethodName) prog_25_method_13_code (1 : Nat) (Option.some (Jvm.ClassFile.FieldType.object "java/lang/String")), Jvm.Cond.code ({ cls := "com/example/fact4/fact4/model/AnswerRecord", name := "knowledgeType", desc := "()Ljava/lang/String;" } : Jvm.MethodName) prog_25_method_14_code (1 : Nat) (Option.some (Jvm.ClassFile.FieldType.object "java/lang/String")), Jvm.Cond.code ({ cls := "com/example/fact4/fact4/model/AnswerRecord", name := "questionId", desc := "()Ljava/lang/String;" } : Jvm.MethodName) prog_25_method_15_code (1 : Nat) (Option.some (Jvm.ClassFile.FieldType.object "java/lang/String")), Jvm.Cond.code ({ cls := "com/example/fact4/fact4/model/AnswerRecord", name := "anscolumnId", desc := "()Ljava/lang/String;" } : Jvm.MethodName) prog_25_method_16_code (1 : Nat) (Option.some (Jvm.ClassFile.FieldType.object "java/lang/String")), Jvm.Cond.code ({ cls := "java/lang/String", name := "equals", desc := "(Ljava/lang/Object;)Z" } : Jvm.MethodName) jdk_42_method_66_code (3 : Nat) (Option.some Jvm.ClassFile.FieldType.boolean), Jvm.Cond.code ({ cls := "com/example/fact4/fact4/model/AnswerRecord", name := "score", desc := "()Ljava/lang/Integer;" } : Jvm.MethodName) prog_25_method_11_code (1 : Nat) (Option.some (Jvm.ClassFile.FieldType.object "java/lang/Integer")), Jvm.Cond.code ({ cls := "java/lang/Integer", name := "valueOf", desc := "(I)Ljava/lang/Integer;" } : Jvm.MethodName) jdk_33_method_22_code (1 : Nat) (Option.some (Jvm.ClassFile.FieldType.object "java/lang/Integer")), Jvm.Cond.code ({ cls := "java/lang/Integer", name := "<init>", desc := "(I)V" } : Jvm.MethodName) jdk_33_method_23_code (2 : Nat) (Option.none : Option Jvm.ClassFile.FieldType), Jvm.Cond.code ({ cls := "java/lang/Number", name := "<init>", desc := "()V" } : Jvm.MethodName) jdk_18_method_1_code (1 : Nat) (Option.none : Option Jvm.ClassFile.FieldType), Jvm.Cond.code ({ cls := "java/lang/Integer", name := "intValue", desc := "()I" } : Jvm.MethodName) jdk_33_method_27_code (1 : Nat) (Option.some Jvm.ClassFile.FieldType.int)]
set_option maxRecDepth 65536 in
theorem codes_eq : words1.filter isCode = codes1 := rfl
theorem w_codes : ∀ c ∈ words1.filter isCode, c.before args0 about1 = true := by
  rw [codes_eq]
  intro c hc
  simp only [codes1, List.mem_cons, List.not_mem_nil, or_false] at hc
  rcases hc with rfl | rfl | rfl | rfl | rfl | rfl | rfl | rfl | rfl | rfl | rfl | rfl | rfl | rfl | rfl | rfl | rfl | rfl | rfl | rfl | rfl | rfl | rfl | rfl | rfl | rfl | rfl
  · exact w_c0
  · exact w_c1
  · exact w_c2
  · exact w_c3
  · exact w_c4
  · exact w_c5
  · exact w_c6
  · exact w_c7
  · exact w_c8
  · exact w_c9
  · exact w_c10
  · exact w_c11
  · exact w_c12
  · exact w_c13
  · exact w_c14
  · exact w_c15
  · exact w_c16
  · exact w_c17
  · exact w_c18
  · exact w_c19
  · exact w_c20
  · exact w_c21
  · exact w_c22
  · exact w_c23
  · exact w_c24
  · exact w_c25
  · exact w_c26
set_option maxRecDepth 65536 in
theorem w_t1 : (words1.take 24).all (fun c => isCode c || c.before args0 about1) = true := by decide +kernel
set_option maxRecDepth 65536 in
theorem w_t2 : ((words1.drop 24).take 24).all (fun c => isCode c || c.before args0 about1) = true := by decide +kernel
set_option maxRecDepth 65536 in
theorem w_t3 : (((words1.drop 24).drop 24).take 24).all (fun c => isCode c || c.before args0 about1) = true := by decide +kernel
set_option maxRecDepth 65536 in
theorem w_t4 : ((((words1.drop 24).drop 24).drop 24).take 24).all (fun c => isCode c || c.before args0 about1) = true := by decide +kernel
set_option maxRecDepth 65536 in
theorem w_t5 : (((((words1.drop 24).drop 24).drop 24).drop 24).take 24).all (fun c => isCode c || c.before args0 about1) = true := by decide +kernel
set_option maxRecDepth 65536 in
theorem w_t6 : ((((((words1.drop 24).drop 24).drop 24).drop 24).drop 24).take 24).all (fun c => isCode c || c.before args0 about1) = true := by decide +kernel
set_option maxRecDepth 65536 in
theorem w_t7 : ((((((words1.drop 24).drop 24).drop 24).drop 24).drop 24).drop 24).all (fun c => isCode c || c.before args0 about1) = true := by decide +kernel
theorem w_tables : (allAtoms (Jvm.Cond.code x code maxLocals ret :: tables_1)).before args0 about1 = true := by
  rw [allAtoms_all]
  show words1.all (fun c => c.before args0 about1) = true
  refine all_split ?_ w_codes
  rw [← List.take_append_drop 24 words1, List.all_append, w_t1, ← List.take_append_drop 24 (words1.drop 24), List.all_append, w_t2, ← List.take_append_drop 24 ((words1.drop 24).drop 24), List.all_append, w_t3, ← List.take_append_drop 24 (((words1.drop 24).drop 24).drop 24), List.all_append, w_t4, ← List.take_append_drop 24 ((((words1.drop 24).drop 24).drop 24).drop 24), List.all_append, w_t5, ← List.take_append_drop 24 (((((words1.drop 24).drop 24).drop 24).drop 24).drop 24), List.all_append, w_t6, w_t7]
  rfl
set_option maxRecDepth 65536 in
theorem w_rest : rest_1_c.before args0 about1 = true := by decide +kernel
set_option maxRecDepth 65536 in
theorem w_case : (Jvm.Cond.and given_1 narrow_1).before args0 about1 = true := by decide +kernel
theorem w_applies : (headSpec (Jvm.Cond.code x code maxLocals ret :: tables_1) room_1).applies x e0.platform about1 = true :=
  (Spec.applies_iff w_frames).mpr ⟨w_running, w_runnable, w_alone, w_named, w_hears, w_ripe, w_room, w_tables⟩
theorem atStart : AtStart classFile x code maxLocals ret World_1 tables_1 room_1 Calls_1 rest_1 Pre_1 launch0 p0 e0 about1 theMethod args0 below0 :=
  ⟨lists_1, trivial, launch0.admits_env _ _ _, launch0.least_env, fairChoices_fair.cas, fairChoices_fair.clock, w_frames, w_args, w_heap, w_applies, trivial, w_rest, w_case⟩
end start1
theorem witness_1 : WitnessClaimed_1 := ⟨start1.p0, start1.e0, start1.about1, start1.theMethod, start1.args0, start1.below0, start1.atStart⟩
end Jvm.Pilot.@@N@@

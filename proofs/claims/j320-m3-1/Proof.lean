import JvmDerived
import JvmDerived.Pilot.@@N@@Statement
import JvmDerived.Pilot.@@N@@Code
set_option linter.unusedVariables false
set_option linter.unusedSimpArgs false
namespace Jvm.RoadKit
open Sem ClassFile Op Lib Jvm.Stand Jvm.Free Jvm.LawKit
section Own
variable {p : Program} {l : Launch} {e : Env} {R : Room} {s : State} {m : MethodId} {args : Array Value} {below : List Frame} {meth : Method} {c : Code} {T : State} {locs : List Loc} {cells slots : Nat} {Q : Option Value → Heap → List Loc → Prop} {Φ : Outcome → State → List Loc → Prop} {k n : Nat} {pc pc' : Nat} {L L' : Array Slot} {S : List Value}
def OG (p : Program) (e : Env) (below : List Frame) (Φ : Outcome → State → List Loc → Prop) (Q : Option Value → Heap → List Loc → Prop) (t : State) : Prop :=
  ∃ s₂ o, Steps p.tables e below t s₂ ∧ s₂.status = .running ∧ Ended s₂ below o ∧ ∃ v L, o = .returned v ∧ Q v s₂.heap L ∧ Φ o s₂ L
abbrev FE (s : State) (k n : Nat) : Outcome → State → List Loc → Prop := fun o t L => FrameEnd s o t L k n
abbrev FEW (s : State) (k n : Nat) : Outcome → State → List Loc → Prop := fun o t L => ReturnedEndW s o t L k n
theorem og_of {t t' : State} (st : ∀ g, Steps p.tables e below t' g → Steps p.tables e below t g) (G : OG p e below Φ Q t') : OG p e below Φ Q t := by
  obtain ⟨s₂, o, h, r⟩ := G; exact ⟨s₂, o, st _ h, r⟩
theorem og_tr {t t' : State} (st : Steps p.tables e below t t') (G : OG p e below Φ Q t') : OG p e below Φ Q t := og_of (fun _ k => st.trans k) G
def Lv (e : Env) (below : List Frame) (Φ : Outcome → State → List Loc → Prop) (m : MethodId) (meth : Method) (T : State) (locs : List Loc) : Prop :=
  ∀ v : Option Value, (meth.sig.returnType = none → v = none) → ∃ fs, (∀ (f : JFrame) (acts : List Action), f.method = m → f.locked = none → f.entered = [] → (doReturn e (T.setTop f) acts v).1 = T.setFrames fs) ∧ (T.setFrames fs).status = .running ∧ Ended (T.setFrames fs) below (.returned v) ∧ Φ (.returned v) (T.setFrames fs) locs
theorem own_lv (X : Stand p l e R s m args below meth c T locs cells slots) (hlk : meth.locks = false) (hk : cells ≤ k) (hn : slots ≤ n) : Lv e below (FE s k n) m meth T locs := fun v hv => by
  obtain ⟨fs, hr, hrun, hended, hW, hsame⟩ := X.leave (v := v) hv hlk
  exact ⟨fs, hr, hrun, hended, ⟨_, rfl⟩, hW, hsame.mono hk hn⟩
theorem own_lvW {vm₁ : Vm} {q : Nat} (X : Stand p l e R (s.setVm vm₁) m args below meth c T locs cells slots) (hlk : meth.locks = false) (hS : s.Since vm₁ q) (hq : q ≤ T.heap.size) (hk : cells ≤ k) (hn : slots ≤ n) : Lv e below (FEW s k n) m meth T locs := fun v hv => by
  obtain ⟨fs, hr, hrun, hended, h1, h2, h3, h4⟩ := X.leaveW hS hq (v := v) hv hlk
  exact ⟨fs, hr, hrun, hended, h1, h2, h3, h4.mono hk hn⟩
theorem og_end (hE : Lv e below Φ m meth T locs) {v : Option Value} (hv : meth.sig.returnType = none → v = none) {g : JFrame}
    (st : ∀ fs, (∀ (f : JFrame) (acts : List Action), f.method = m → f.locked = none → f.entered = [] → (doReturn e (T.setTop f) acts v).1 = T.setFrames fs) → Steps p.tables e below (T.setTop g) (T.setFrames fs))
    (hQ : Q v T.heap locs) : OG p e below Φ Q (T.setTop g) := by
  obtain ⟨fs, hr, hrun, hended, hF⟩ := hE v hv
  exact ⟨_, _, st fs hr, hrun, hended, _, _, rfl, hQ, hF⟩
theorem own_mono (X : Stand p l e R s m args below meth c T locs cells slots) {cells' slots' : Nat} (hc : cells ≤ cells') (hs : slots ≤ slots') : Stand p l e R s m args below meth c T locs cells' slots' :=
  ⟨X.admits, X.cas, X.clock, X.frames, X.room, X.hears, X.method, X.code, X.here, X.tail, X.warmed, X.limits, X.bytes, X.same.mono hc hs⟩
theorem retI (X : Stand p l e R s m args below meth c T locs cells slots) (hx : p.tables.exec = Jvm.exec) {pc : Nat} {Ls : Array Slot} {z : Int32} {rest : List Value} (hret : meth.sig.returnType = some .int) (hd : decode c.code pc = .ok (.ireturn, 1)) {fs : List Frame}
    (hl : ∀ (f : JFrame) (acts : List Action), f.method = m → f.locked = none → f.entered = [] → (doReturn e (T.setTop f) acts (some (.int z))).1 = T.setFrames fs) : Steps p.tables e below (T.setTop (mkF m pc Ls (.int z :: rest))) (T.setFrames fs) := by
  have hm' : T.vm.method? m = some meth := X.method'
  have hn : narrow .int (.int z) = .int z := rfl
  show Steps p.tables e below (T.setTop { method := m, pc := pc, locals := Ls, stack := _ :: rest, locked := none }) _
  jvm_step X.here [X.here.top, hx, hd, hm', hret, hn]
  first | (intro acts; rw [hl _ acts rfl rfl rfl]) | rw [hl _ _ rfl rfl rfl]
  exact Steps.refl _
theorem o_retI (X : Stand p l e R s m args below meth c T locs cells slots) (hx : p.tables.exec = Jvm.exec) (hret : meth.sig.returnType = some .int) (hE : Lv e below Φ m meth T locs) (hd : decode c.code pc = .ok (.ireturn, 1)) {z : Int32} (hQ : Q (some (.int z)) T.heap locs) : OG p e below Φ Q (T.setTop (mkF m pc L (.int z :: S))) :=
  og_end hE (fun h => by rw [hret] at h; cases h) (fun fs hr => retI X hx hret hd hr) hQ
theorem o_retN (X : Stand p l e R s m args below meth c T locs cells slots) (hx : p.tables.exec = Jvm.exec) {t : FieldType} (hret : meth.sig.returnType = some t) (ht : t = .boolean ∨ t = .byte ∨ t = .char ∨ t = .short) (hE : Lv e below Φ m meth T locs) (hd : decode c.code pc = .ok (.ireturn, 1)) {z : Int32} (hQ : Q (some (.int (nar t z))) T.heap locs) : OG p e below Φ Q (T.setTop (mkF m pc L (.int z :: S))) :=
  og_end hE (fun h => by rw [hret] at h; cases h) (fun fs hr => retN X hx hret ht hd hr) hQ
theorem o_retB (X : Stand p l e R s m args below meth c T locs cells slots) (hx : p.tables.exec = Jvm.exec) (hret : meth.sig.returnType = some .boolean) (hE : Lv e below Φ m meth T locs) (hd : decode c.code pc = .ok (.ireturn, 1)) {z : Int32} (hz : z = 0 ∨ z = 1) (hQ : Q (some (.int z)) T.heap locs) : OG p e below Φ Q (T.setTop (mkF m pc L (.int z :: S))) :=
  o_retN X hx hret (Or.inl rfl) hE hd (by have q : nar .boolean z = z := by { rcases hz with rfl | rfl <;> rfl }; rw [q]; exact hQ)
theorem o_retL (X : Stand p l e R s m args below meth c T locs cells slots) (hx : p.tables.exec = Jvm.exec) (hret : meth.sig.returnType = some .long) (hE : Lv e below Φ m meth T locs) (hd : decode c.code pc = .ok (.lreturn, 1)) {z : Int64} (hQ : Q (some (.long z)) T.heap locs) : OG p e below Φ Q (T.setTop (mkF m pc L (.long z :: S))) :=
  og_end hE (fun h => by rw [hret] at h; cases h) (fun fs hr => retOut X hx hret rfl (Or.inr (Or.inl ⟨rfl, rfl, z, rfl⟩)) hd hr) hQ
theorem o_retA (X : Stand p l e R s m args below meth c T locs cells slots) (hx : p.tables.exec = Jvm.exec) {t : FieldType} (hret : meth.sig.returnType = some t) (ht : t.isReference = true) (hE : Lv e below Φ m meth T locs) (hd : decode c.code pc = .ok (.areturn, 1)) {w : Value} (hw : w.isRef = true) (hnw : narrow t w = w) (hQ : Q (some w) T.heap locs) : OG p e below Φ Q (T.setTop (mkF m pc L (w :: S))) :=
  og_end hE (fun h => by rw [hret] at h; cases h) (fun fs hr => retOut X hx hret hnw (Or.inr (Or.inr (Or.inr (Or.inr ⟨rfl, ht, hw⟩)))) hd hr) hQ
theorem o_ret0 (X : Stand p l e R s m args below meth c T locs cells slots) (hx : p.tables.exec = Jvm.exec) (hret : meth.sig.returnType = none) (hE : Lv e below Φ m meth T locs) (hd : decode c.code pc = .ok (.return_, 1)) (hQ : Q none T.heap locs) : OG p e below Φ Q (T.setTop (mkF m pc L [])) :=
  og_end hE (fun _ => rfl) (fun fs hr => X.returnOut hx hret hd hr) hQ
theorem lcY_eq {x y : Int64} (h : x = y) : ifCond.holds .eq (lcmpW x y) = true ∧ ifCond.holds .ne (lcmpW x y) = false := ⟨(if0 _ _).trans (teq ((lw_eq x y).mpr h)).1, (if0 _ _).trans (teq ((lw_eq x y).mpr h)).2⟩
theorem lcN_eq {x y : Int64} (h : ¬ x = y) : ifCond.holds .eq (lcmpW x y) = false ∧ ifCond.holds .ne (lcmpW x y) = true := ⟨(if0 _ _).trans (feq (mt (lw_eq x y).mp h)).1, (if0 _ _).trans (feq (mt (lw_eq x y).mp h)).2⟩
theorem lcY_lt {x y : Int64} (h : x < y) : ifCond.holds .lt (lcmpW x y) = true ∧ ifCond.holds .ge (lcmpW x y) = false := ⟨(if0 _ _).trans (tlt ((lw_lt x y).mpr h)).1, (if0 _ _).trans (tlt ((lw_lt x y).mpr h)).2.1⟩
theorem lcN_lt {x y : Int64} (h : ¬ x < y) : ifCond.holds .lt (lcmpW x y) = false ∧ ifCond.holds .ge (lcmpW x y) = true := ⟨(if0 _ _).trans (flt (mt (lw_lt x y).mp h)).1, (if0 _ _).trans (flt (mt (lw_lt x y).mp h)).2.1⟩
theorem lcY_gt {x y : Int64} (h : y < x) : ifCond.holds .gt (lcmpW x y) = true ∧ ifCond.holds .le (lcmpW x y) = false := ⟨(if0 _ _).trans (tlt ((lw_gt x y).mpr h)).2.2.1, (if0 _ _).trans (tlt ((lw_gt x y).mpr h)).2.2.2⟩
theorem lcN_gt {x y : Int64} (h : ¬ y < x) : ifCond.holds .gt (lcmpW x y) = false ∧ ifCond.holds .le (lcmpW x y) = true := ⟨(if0 _ _).trans (flt (mt (lw_gt x y).mp h)).2.2.1, (if0 _ _).trans (flt (mt (lw_gt x y).mp h)).2.2.2⟩
theorem o_iloadN (X : Stand p l e R s m args below meth c T locs cells slots) (hx : p.tables.exec = Jvm.exec) {i : Fin 4} {v : Int32} (hp : pc + 1 = pc') (hd : decode c.code pc = .ok (.iload_n i, 1)) (hl : L[i.val]? = some (.val (.int v))) (G : OG p e below Φ Q (T.setTop (mkF m pc' L (.int v :: S)))) : OG p e below Φ Q (T.setTop (mkF m pc L S)) := by
  subst hp; exact og_of (fun _ st => XS.iloadN X.here hx rfl hd hl st) G
theorem o_iload (X : Stand p l e R s m args below meth c T locs cells slots) (hx : p.tables.exec = Jvm.exec) {i : Nat} {v : Int32} (hp : pc + 2 = pc') (hd : decode c.code pc = .ok (.iload i, 2)) (hl : L[i]? = some (.val (.int v))) (G : OG p e below Φ Q (T.setTop (mkF m pc' L (.int v :: S)))) : OG p e below Φ Q (T.setTop (mkF m pc L S)) := by
  subst hp; exact og_of (fun _ st => XS.iload X.here hx rfl hd hl st) G
theorem o_istoreN (X : Stand p l e R s m args below meth c T locs cells slots) (hx : p.tables.exec = Jvm.exec) {i : Fin 4} {v : Int32} (hp : pc + 1 = pc') (hd : decode c.code pc = .ok (.istore_n i, 1)) (hl : storeLocals L i.val (.int v) = some L') (G : OG p e below Φ Q (T.setTop (mkF m pc' L' S))) : OG p e below Φ Q (T.setTop (mkF m pc L (.int v :: S))) := by
  subst hp; exact og_of (fun _ st => XS.istoreN X.here hx rfl hd rfl hl st) G
theorem o_istore (X : Stand p l e R s m args below meth c T locs cells slots) (hx : p.tables.exec = Jvm.exec) {i : Nat} {v : Int32} (hp : pc + 2 = pc') (hd : decode c.code pc = .ok (.istore i, 2)) (hl : storeLocals L i (.int v) = some L') (G : OG p e below Φ Q (T.setTop (mkF m pc' L' S))) : OG p e below Φ Q (T.setTop (mkF m pc L (.int v :: S))) := by
  subst hp; exact og_of (fun _ st => XS.istore X.here hx rfl hd rfl hl st) G
theorem o_lloadN (X : Stand p l e R s m args below meth c T locs cells slots) (hx : p.tables.exec = Jvm.exec) {i : Fin 4} {v : Int64} (hp : pc + 1 = pc') (hd : decode c.code pc = .ok (.lload_n i, 1)) (hl : L[i.val]? = some (.val (.long v))) (G : OG p e below Φ Q (T.setTop (mkF m pc' L (.long v :: S)))) : OG p e below Φ Q (T.setTop (mkF m pc L S)) := by
  subst hp; exact og_of (fun _ st => XS.lloadN X.here hx rfl hd hl st) G
theorem o_lload (X : Stand p l e R s m args below meth c T locs cells slots) (hx : p.tables.exec = Jvm.exec) {i : Nat} {v : Int64} (hp : pc + 2 = pc') (hd : decode c.code pc = .ok (.lload i, 2)) (hl : L[i]? = some (.val (.long v))) (G : OG p e below Φ Q (T.setTop (mkF m pc' L (.long v :: S)))) : OG p e below Φ Q (T.setTop (mkF m pc L S)) := by
  subst hp; exact og_of (fun _ st => XS.lload X.here hx rfl hd hl st) G
theorem o_lstoreN (X : Stand p l e R s m args below meth c T locs cells slots) (hx : p.tables.exec = Jvm.exec) {i : Fin 4} {v : Int64} (hp : pc + 1 = pc') (hd : decode c.code pc = .ok (.lstore_n i, 1)) (hl : storeLocals L i.val (.long v) = some L') (G : OG p e below Φ Q (T.setTop (mkF m pc' L' S))) : OG p e below Φ Q (T.setTop (mkF m pc L (.long v :: S))) := by
  subst hp; exact og_of (fun _ st => XS.lstoreN X.here hx rfl hd rfl hl st) G
theorem o_lstore (X : Stand p l e R s m args below meth c T locs cells slots) (hx : p.tables.exec = Jvm.exec) {i : Nat} {v : Int64} (hp : pc + 2 = pc') (hd : decode c.code pc = .ok (.lstore i, 2)) (hl : storeLocals L i (.long v) = some L') (G : OG p e below Φ Q (T.setTop (mkF m pc' L' S))) : OG p e below Φ Q (T.setTop (mkF m pc L (.long v :: S))) := by
  subst hp; exact og_of (fun _ st => XS.lstore X.here hx rfl hd rfl hl st) G
theorem o_aloadN (X : Stand p l e R s m args below meth c T locs cells slots) (hx : p.tables.exec = Jvm.exec) {i : Fin 4} {v : Value} (hp : pc + 1 = pc') (hd : decode c.code pc = .ok (.aload_n i, 1)) (hl : L[i.val]? = some (.val v)) (hv : v.isRef = true) (G : OG p e below Φ Q (T.setTop (mkF m pc' L (v :: S)))) : OG p e below Φ Q (T.setTop (mkF m pc L S)) := by
  subst hp; exact og_of (fun _ st => XS.aloadN X.here hx rfl hd hl hv st) G
theorem o_aload (X : Stand p l e R s m args below meth c T locs cells slots) (hx : p.tables.exec = Jvm.exec) {i : Nat} {v : Value} (hp : pc + 2 = pc') (hd : decode c.code pc = .ok (.aload i, 2)) (hl : L[i]? = some (.val v)) (hv : v.isRef = true) (G : OG p e below Φ Q (T.setTop (mkF m pc' L (v :: S)))) : OG p e below Φ Q (T.setTop (mkF m pc L S)) := by
  subst hp; exact og_of (fun _ st => XS.aload X.here hx rfl hd hl hv st) G
theorem o_astoreN (X : Stand p l e R s m args below meth c T locs cells slots) (hx : p.tables.exec = Jvm.exec) {i : Fin 4} {v : Value} (hp : pc + 1 = pc') (hd : decode c.code pc = .ok (.astore_n i, 1)) (hv : v.isRef = true) (hl : storeLocals L i.val v = some L') (G : OG p e below Φ Q (T.setTop (mkF m pc' L' S))) : OG p e below Φ Q (T.setTop (mkF m pc L (v :: S))) := by
  subst hp; exact og_of (fun _ st => XS.astoreN X.here hx rfl hd rfl hv hl st) G
theorem o_astore (X : Stand p l e R s m args below meth c T locs cells slots) (hx : p.tables.exec = Jvm.exec) {i : Nat} {v : Value} (hp : pc + 2 = pc') (hd : decode c.code pc = .ok (.astore i, 2)) (hv : v.isRef = true) (hl : storeLocals L i v = some L') (G : OG p e below Φ Q (T.setTop (mkF m pc' L' S))) : OG p e below Φ Q (T.setTop (mkF m pc L (v :: S))) := by
  subst hp; exact og_of (fun _ st => XS.astore X.here hx rfl hd rfl hv hl st) G
theorem o_iconst (X : Stand p l e R s m args below meth c T locs cells slots) (hx : p.tables.exec = Jvm.exec) {i : Int} {z : Int32} (hp : pc + 1 = pc') (hd : decode c.code pc = .ok (.iconst i, 1)) (hz : Int32.ofInt i = z) (G : OG p e below Φ Q (T.setTop (mkF m pc' L (.int z :: S)))) : OG p e below Φ Q (T.setTop (mkF m pc L S)) := by
  subst hp hz; exact og_of (fun _ st => XS.iconst X.here hx rfl hd st) G
theorem o_bipush (X : Stand p l e R s m args below meth c T locs cells slots) (hx : p.tables.exec = Jvm.exec) {i : Int} {z : Int32} (hp : pc + 2 = pc') (hd : decode c.code pc = .ok (.bipush i, 2)) (hz : (Int8.ofInt i).toInt32 = z) (G : OG p e below Φ Q (T.setTop (mkF m pc' L (.int z :: S)))) : OG p e below Φ Q (T.setTop (mkF m pc L S)) := by
  subst hp hz; exact og_of (fun _ st => XS.bipush X.here hx rfl hd st) G
theorem o_sipush (X : Stand p l e R s m args below meth c T locs cells slots) (hx : p.tables.exec = Jvm.exec) {i : Int} {z : Int32} (hp : pc + 3 = pc') (hd : decode c.code pc = .ok (.sipush i, 3)) (hz : (Int16.ofInt i).toInt32 = z) (G : OG p e below Φ Q (T.setTop (mkF m pc' L (.int z :: S)))) : OG p e below Φ Q (T.setTop (mkF m pc L S)) := by
  subst hp hz; exact og_of (fun _ st => XS.sipush X.here hx rfl hd st) G
theorem o_lconst (X : Stand p l e R s m args below meth c T locs cells slots) (hx : p.tables.exec = Jvm.exec) {i : Fin 2} {z : Int64} (hp : pc + 1 = pc') (hd : decode c.code pc = .ok (.lconst i, 1)) (hz : Int64.ofNat i = z) (G : OG p e below Φ Q (T.setTop (mkF m pc' L (.long z :: S)))) : OG p e below Φ Q (T.setTop (mkF m pc L S)) := by
  subst hp hz; exact og_of (fun _ st => XS.lconst X.here hx rfl hd st) G
theorem o_aconst_null (X : Stand p l e R s m args below meth c T locs cells slots) (hx : p.tables.exec = Jvm.exec) (hp : pc + 1 = pc') (hd : decode c.code pc = .ok (.aconst_null, 1))  (G : OG p e below Φ Q (T.setTop (mkF m pc' L (.null :: S)))) : OG p e below Φ Q (T.setTop (mkF m pc L S)) := by
  subst hp; exact og_of (fun _ st => XS.aconstNull X.here hx rfl hd st) G
theorem o_iadd (X : Stand p l e R s m args below meth c T locs cells slots) (hx : p.tables.exec = Jvm.exec) {x : Int32} {y : Int32} {z : Int32} (hp : pc + 1 = pc') (hd : decode c.code pc = .ok (.iadd, 1)) (hz : x + y = z) (G : OG p e below Φ Q (T.setTop (mkF m pc' L (.int z :: S)))) : OG p e below Φ Q (T.setTop (mkF m pc L (.int y :: .int x :: S))) := by
  subst hp hz; exact og_of (fun _ st => XS.iadd X.here hx rfl hd rfl st) G
theorem o_ladd (X : Stand p l e R s m args below meth c T locs cells slots) (hx : p.tables.exec = Jvm.exec) {x : Int64} {y : Int64} {z : Int64} (hp : pc + 1 = pc') (hd : decode c.code pc = .ok (.ladd, 1)) (hz : x + y = z) (G : OG p e below Φ Q (T.setTop (mkF m pc' L (.long z :: S)))) : OG p e below Φ Q (T.setTop (mkF m pc L (.long y :: .long x :: S))) := by
  subst hp hz; exact og_of (fun _ st => XS.ladd X.here hx rfl hd rfl st) G
theorem o_isub (X : Stand p l e R s m args below meth c T locs cells slots) (hx : p.tables.exec = Jvm.exec) {x : Int32} {y : Int32} {z : Int32} (hp : pc + 1 = pc') (hd : decode c.code pc = .ok (.isub, 1)) (hz : x - y = z) (G : OG p e below Φ Q (T.setTop (mkF m pc' L (.int z :: S)))) : OG p e below Φ Q (T.setTop (mkF m pc L (.int y :: .int x :: S))) := by
  subst hp hz; exact og_of (fun _ st => XS.isub X.here hx rfl hd rfl st) G
theorem o_lsub (X : Stand p l e R s m args below meth c T locs cells slots) (hx : p.tables.exec = Jvm.exec) {x : Int64} {y : Int64} {z : Int64} (hp : pc + 1 = pc') (hd : decode c.code pc = .ok (.lsub, 1)) (hz : x - y = z) (G : OG p e below Φ Q (T.setTop (mkF m pc' L (.long z :: S)))) : OG p e below Φ Q (T.setTop (mkF m pc L (.long y :: .long x :: S))) := by
  subst hp hz; exact og_of (fun _ st => XS.lsub X.here hx rfl hd rfl st) G
theorem o_imul (X : Stand p l e R s m args below meth c T locs cells slots) (hx : p.tables.exec = Jvm.exec) {x : Int32} {y : Int32} {z : Int32} (hp : pc + 1 = pc') (hd : decode c.code pc = .ok (.imul, 1)) (hz : x * y = z) (G : OG p e below Φ Q (T.setTop (mkF m pc' L (.int z :: S)))) : OG p e below Φ Q (T.setTop (mkF m pc L (.int y :: .int x :: S))) := by
  subst hp hz; exact og_of (fun _ st => XS.imul X.here hx rfl hd rfl st) G
theorem o_lmul (X : Stand p l e R s m args below meth c T locs cells slots) (hx : p.tables.exec = Jvm.exec) {x : Int64} {y : Int64} {z : Int64} (hp : pc + 1 = pc') (hd : decode c.code pc = .ok (.lmul, 1)) (hz : x * y = z) (G : OG p e below Φ Q (T.setTop (mkF m pc' L (.long z :: S)))) : OG p e below Φ Q (T.setTop (mkF m pc L (.long y :: .long x :: S))) := by
  subst hp hz; exact og_of (fun _ st => XS.lmul X.here hx rfl hd rfl st) G
theorem o_iand (X : Stand p l e R s m args below meth c T locs cells slots) (hx : p.tables.exec = Jvm.exec) {x : Int32} {y : Int32} {z : Int32} (hp : pc + 1 = pc') (hd : decode c.code pc = .ok (.iand, 1)) (hz : x &&& y = z) (G : OG p e below Φ Q (T.setTop (mkF m pc' L (.int z :: S)))) : OG p e below Φ Q (T.setTop (mkF m pc L (.int y :: .int x :: S))) := by
  subst hp hz; exact og_of (fun _ st => XS.iand X.here hx rfl hd rfl st) G
theorem o_land (X : Stand p l e R s m args below meth c T locs cells slots) (hx : p.tables.exec = Jvm.exec) {x : Int64} {y : Int64} {z : Int64} (hp : pc + 1 = pc') (hd : decode c.code pc = .ok (.land, 1)) (hz : x &&& y = z) (G : OG p e below Φ Q (T.setTop (mkF m pc' L (.long z :: S)))) : OG p e below Φ Q (T.setTop (mkF m pc L (.long y :: .long x :: S))) := by
  subst hp hz; exact og_of (fun _ st => XS.land X.here hx rfl hd rfl st) G
theorem o_ior (X : Stand p l e R s m args below meth c T locs cells slots) (hx : p.tables.exec = Jvm.exec) {x : Int32} {y : Int32} {z : Int32} (hp : pc + 1 = pc') (hd : decode c.code pc = .ok (.ior, 1)) (hz : x ||| y = z) (G : OG p e below Φ Q (T.setTop (mkF m pc' L (.int z :: S)))) : OG p e below Φ Q (T.setTop (mkF m pc L (.int y :: .int x :: S))) := by
  subst hp hz; exact og_of (fun _ st => XS.ior X.here hx rfl hd rfl st) G
theorem o_lor (X : Stand p l e R s m args below meth c T locs cells slots) (hx : p.tables.exec = Jvm.exec) {x : Int64} {y : Int64} {z : Int64} (hp : pc + 1 = pc') (hd : decode c.code pc = .ok (.lor, 1)) (hz : x ||| y = z) (G : OG p e below Φ Q (T.setTop (mkF m pc' L (.long z :: S)))) : OG p e below Φ Q (T.setTop (mkF m pc L (.long y :: .long x :: S))) := by
  subst hp hz; exact og_of (fun _ st => XS.lor X.here hx rfl hd rfl st) G
theorem o_ixor (X : Stand p l e R s m args below meth c T locs cells slots) (hx : p.tables.exec = Jvm.exec) {x : Int32} {y : Int32} {z : Int32} (hp : pc + 1 = pc') (hd : decode c.code pc = .ok (.ixor, 1)) (hz : x ^^^ y = z) (G : OG p e below Φ Q (T.setTop (mkF m pc' L (.int z :: S)))) : OG p e below Φ Q (T.setTop (mkF m pc L (.int y :: .int x :: S))) := by
  subst hp hz; exact og_of (fun _ st => XS.ixor X.here hx rfl hd rfl st) G
theorem o_lxor (X : Stand p l e R s m args below meth c T locs cells slots) (hx : p.tables.exec = Jvm.exec) {x : Int64} {y : Int64} {z : Int64} (hp : pc + 1 = pc') (hd : decode c.code pc = .ok (.lxor, 1)) (hz : x ^^^ y = z) (G : OG p e below Φ Q (T.setTop (mkF m pc' L (.long z :: S)))) : OG p e below Φ Q (T.setTop (mkF m pc L (.long y :: .long x :: S))) := by
  subst hp hz; exact og_of (fun _ st => XS.lxor X.here hx rfl hd rfl st) G
theorem o_ishl (X : Stand p l e R s m args below meth c T locs cells slots) (hx : p.tables.exec = Jvm.exec) {x : Int32} {y : Int32} {z : Int32} (hp : pc + 1 = pc') (hd : decode c.code pc = .ok (.ishl, 1)) (hz : x <<< (y &&& 31) = z) (G : OG p e below Φ Q (T.setTop (mkF m pc' L (.int z :: S)))) : OG p e below Φ Q (T.setTop (mkF m pc L (.int y :: .int x :: S))) := by
  subst hp hz; exact og_of (fun _ st => XS.ishl X.here hx rfl hd rfl st) G
theorem o_ishr (X : Stand p l e R s m args below meth c T locs cells slots) (hx : p.tables.exec = Jvm.exec) {x : Int32} {y : Int32} {z : Int32} (hp : pc + 1 = pc') (hd : decode c.code pc = .ok (.ishr, 1)) (hz : x >>> (y &&& 31) = z) (G : OG p e below Φ Q (T.setTop (mkF m pc' L (.int z :: S)))) : OG p e below Φ Q (T.setTop (mkF m pc L (.int y :: .int x :: S))) := by
  subst hp hz; exact og_of (fun _ st => XS.ishr X.here hx rfl hd rfl st) G
theorem o_iushr (X : Stand p l e R s m args below meth c T locs cells slots) (hx : p.tables.exec = Jvm.exec) {x : Int32} {y : Int32} {z : Int32} (hp : pc + 1 = pc') (hd : decode c.code pc = .ok (.iushr, 1)) (hz : (x.toUInt32 >>> (y &&& 31).toUInt32).toInt32 = z) (G : OG p e below Φ Q (T.setTop (mkF m pc' L (.int z :: S)))) : OG p e below Φ Q (T.setTop (mkF m pc L (.int y :: .int x :: S))) := by
  subst hp hz; exact og_of (fun _ st => XS.iushr X.here hx rfl hd rfl st) G
theorem o_lshl (X : Stand p l e R s m args below meth c T locs cells slots) (hx : p.tables.exec = Jvm.exec) {x : Int64} {y : Int32} {z : Int64} (hp : pc + 1 = pc') (hd : decode c.code pc = .ok (.lshl, 1)) (hz : x <<< (y &&& 0x3f).toInt64 = z) (G : OG p e below Φ Q (T.setTop (mkF m pc' L (.long z :: S)))) : OG p e below Φ Q (T.setTop (mkF m pc L (.int y :: .long x :: S))) := by
  subst hp hz; exact og_of (fun _ st => XS.lshl X.here hx rfl hd rfl st) G
theorem o_lshr (X : Stand p l e R s m args below meth c T locs cells slots) (hx : p.tables.exec = Jvm.exec) {x : Int64} {y : Int32} {z : Int64} (hp : pc + 1 = pc') (hd : decode c.code pc = .ok (.lshr, 1)) (hz : x >>> (y &&& 0x3f).toInt64 = z) (G : OG p e below Φ Q (T.setTop (mkF m pc' L (.long z :: S)))) : OG p e below Φ Q (T.setTop (mkF m pc L (.int y :: .long x :: S))) := by
  subst hp hz; exact og_of (fun _ st => XS.lshr X.here hx rfl hd rfl st) G
theorem o_lushr (X : Stand p l e R s m args below meth c T locs cells slots) (hx : p.tables.exec = Jvm.exec) {x : Int64} {y : Int32} {z : Int64} (hp : pc + 1 = pc') (hd : decode c.code pc = .ok (.lushr, 1)) (hz : (x.toUInt64 >>> (y &&& 0x3f).toInt64.toUInt64).toInt64 = z) (G : OG p e below Φ Q (T.setTop (mkF m pc' L (.long z :: S)))) : OG p e below Φ Q (T.setTop (mkF m pc L (.int y :: .long x :: S))) := by
  subst hp hz; exact og_of (fun _ st => XS.lushr X.here hx rfl hd rfl st) G
theorem o_idiv (X : Stand p l e R s m args below meth c T locs cells slots) (hx : p.tables.exec = Jvm.exec) {x : Int32} {y : Int32} {z : Int32} (hp : pc + 1 = pc') (hd : decode c.code pc = .ok (.idiv, 1)) (hz : x / y = z) (hy : y ≠ 0) (G : OG p e below Φ Q (T.setTop (mkF m pc' L (.int z :: S)))) : OG p e below Φ Q (T.setTop (mkF m pc L (.int y :: .int x :: S))) := by
  subst hp hz; exact og_of (fun _ st => XS.idiv X.here hx rfl hd rfl hy st) G
theorem o_ldiv (X : Stand p l e R s m args below meth c T locs cells slots) (hx : p.tables.exec = Jvm.exec) {x : Int64} {y : Int64} {z : Int64} (hp : pc + 1 = pc') (hd : decode c.code pc = .ok (.ldiv, 1)) (hz : x / y = z) (hy : y ≠ 0) (G : OG p e below Φ Q (T.setTop (mkF m pc' L (.long z :: S)))) : OG p e below Φ Q (T.setTop (mkF m pc L (.long y :: .long x :: S))) := by
  subst hp hz; exact og_of (fun _ st => XS.ldiv X.here hx rfl hd rfl hy st) G
theorem o_irem (X : Stand p l e R s m args below meth c T locs cells slots) (hx : p.tables.exec = Jvm.exec) {x y z : Int32} (hp : pc + 1 = pc') (hd : decode c.code pc = .ok (.irem, 1)) (hz : x % y = z) (hy : y ≠ 0) (G : OG p e below Φ Q (T.setTop (mkF m pc' L (.int z :: S)))) : OG p e below Φ Q (T.setTop (mkF m pc L (.int y :: .int x :: S))) := by
  subst hp hz; exact og_of (fun _ st => XS.irem X.here hx rfl hd rfl hy (by rw [irem_eq_mod x y]; exact st)) G
theorem o_lrem (X : Stand p l e R s m args below meth c T locs cells slots) (hx : p.tables.exec = Jvm.exec) {x y z : Int64} (hp : pc + 1 = pc') (hd : decode c.code pc = .ok (.lrem, 1)) (hz : x % y = z) (hy : y ≠ 0) (G : OG p e below Φ Q (T.setTop (mkF m pc' L (.long z :: S)))) : OG p e below Φ Q (T.setTop (mkF m pc L (.long y :: .long x :: S))) := by
  subst hp hz; exact og_of (fun _ st => XS.lrem X.here hx rfl hd rfl hy (by rw [lrem_mod x y]; exact st)) G
theorem o_ineg (X : Stand p l e R s m args below meth c T locs cells slots) (hx : p.tables.exec = Jvm.exec) {x : Int32} {z : Int32} (hp : pc + 1 = pc') (hd : decode c.code pc = .ok (.ineg, 1)) (hz : -x = z) (G : OG p e below Φ Q (T.setTop (mkF m pc' L (.int z :: S)))) : OG p e below Φ Q (T.setTop (mkF m pc L (.int x :: S))) := by
  subst hp hz; exact og_of (fun _ st => XS.ineg X.here hx rfl hd rfl st) G
theorem o_lneg (X : Stand p l e R s m args below meth c T locs cells slots) (hx : p.tables.exec = Jvm.exec) {x : Int64} {z : Int64} (hp : pc + 1 = pc') (hd : decode c.code pc = .ok (.lneg, 1)) (hz : -x = z) (G : OG p e below Φ Q (T.setTop (mkF m pc' L (.long z :: S)))) : OG p e below Φ Q (T.setTop (mkF m pc L (.long x :: S))) := by
  subst hp hz; exact og_of (fun _ st => XS.lneg X.here hx rfl hd rfl st) G
theorem o_i2l (X : Stand p l e R s m args below meth c T locs cells slots) (hx : p.tables.exec = Jvm.exec) {x : Int32} {z : Int64} (hp : pc + 1 = pc') (hd : decode c.code pc = .ok (.i2l, 1)) (hz : x.toInt64 = z) (G : OG p e below Φ Q (T.setTop (mkF m pc' L (.long z :: S)))) : OG p e below Φ Q (T.setTop (mkF m pc L (.int x :: S))) := by
  subst hp hz; exact og_of (fun _ st => XS.i2l X.here hx rfl hd rfl st) G
theorem o_l2i (X : Stand p l e R s m args below meth c T locs cells slots) (hx : p.tables.exec = Jvm.exec) {x : Int64} {z : Int32} (hp : pc + 1 = pc') (hd : decode c.code pc = .ok (.l2i, 1)) (hz : x.toInt32 = z) (G : OG p e below Φ Q (T.setTop (mkF m pc' L (.int z :: S)))) : OG p e below Φ Q (T.setTop (mkF m pc L (.long x :: S))) := by
  subst hp hz; exact og_of (fun _ st => XS.l2i X.here hx rfl hd rfl st) G
theorem o_i2b (X : Stand p l e R s m args below meth c T locs cells slots) (hx : p.tables.exec = Jvm.exec) {x : Int32} {z : Int32} (hp : pc + 1 = pc') (hd : decode c.code pc = .ok (.i2b, 1)) (hz : x.toInt8.toInt32 = z) (G : OG p e below Φ Q (T.setTop (mkF m pc' L (.int z :: S)))) : OG p e below Φ Q (T.setTop (mkF m pc L (.int x :: S))) := by
  subst hp hz; exact og_of (fun _ st => XS.i2b X.here hx rfl hd rfl st) G
theorem o_i2s (X : Stand p l e R s m args below meth c T locs cells slots) (hx : p.tables.exec = Jvm.exec) {x : Int32} {z : Int32} (hp : pc + 1 = pc') (hd : decode c.code pc = .ok (.i2s, 1)) (hz : x.toInt16.toInt32 = z) (G : OG p e below Φ Q (T.setTop (mkF m pc' L (.int z :: S)))) : OG p e below Φ Q (T.setTop (mkF m pc L (.int x :: S))) := by
  subst hp hz; exact og_of (fun _ st => XS.i2s X.here hx rfl hd rfl st) G
theorem o_i2c (X : Stand p l e R s m args below meth c T locs cells slots) (hx : p.tables.exec = Jvm.exec) {x : Int32} {z : Int32} (hp : pc + 1 = pc') (hd : decode c.code pc = .ok (.i2c, 1)) (hz : x.toUInt32.toUInt16.toUInt32.toInt32 = z) (G : OG p e below Φ Q (T.setTop (mkF m pc' L (.int z :: S)))) : OG p e below Φ Q (T.setTop (mkF m pc L (.int x :: S))) := by
  subst hp hz; exact og_of (fun _ st => XS.i2c X.here hx rfl hd rfl st) G
theorem o_lcmp (X : Stand p l e R s m args below meth c T locs cells slots) (hx : p.tables.exec = Jvm.exec) {x y : Int64} (hp : pc + 1 = pc') (hd : decode c.code pc = .ok (.lcmp, 1))  (G : OG p e below Φ Q (T.setTop (mkF m pc' L (.int (lcmpW x y) :: S)))) : OG p e below Φ Q (T.setTop (mkF m pc L (.long y :: .long x :: S))) := by
  subst hp; exact og_of (fun _ st => XS.lcmp X.here hx rfl hd rfl st) G
theorem o_dup (X : Stand p l e R s m args below meth c T locs cells slots) (hx : p.tables.exec = Jvm.exec) {v : Value} (hp : pc + 1 = pc') (hd : decode c.code pc = .ok (.dup, 1)) (hc : v.category = 1) (G : OG p e below Φ Q (T.setTop (mkF m pc' L (v :: v :: S)))) : OG p e below Φ Q (T.setTop (mkF m pc L (v :: S))) := by
  subst hp; exact og_of (fun _ st => XS.dup X.here hx rfl hd rfl hc st) G
theorem o_pop (X : Stand p l e R s m args below meth c T locs cells slots) (hx : p.tables.exec = Jvm.exec) {v : Value} (hp : pc + 1 = pc') (hd : decode c.code pc = .ok (.pop, 1)) (hc : v.category = 1) (G : OG p e below Φ Q (T.setTop (mkF m pc' L S))) : OG p e below Φ Q (T.setTop (mkF m pc L (v :: S))) := by
  subst hp; exact og_of (fun _ st => XS.pop X.here hx rfl hd rfl hc st) G
theorem o_dup_x1 (X : Stand p l e R s m args below meth c T locs cells slots) (hx : p.tables.exec = Jvm.exec) {v w : Value} (hp : pc + 1 = pc') (hd : decode c.code pc = .ok (.dup_x1, 1)) (hc : v.category = 1) (hc2 : w.category = 1) (G : OG p e below Φ Q (T.setTop (mkF m pc' L (v :: w :: v :: S)))) : OG p e below Φ Q (T.setTop (mkF m pc L (v :: w :: S))) := by
  subst hp; exact og_of (fun _ st => XS.dupX1 X.here hx rfl hd rfl hc hc2 st) G
theorem o_dup2 (X : Stand p l e R s m args below meth c T locs cells slots) (hx : p.tables.exec = Jvm.exec) {v w : Value} (hp : pc + 1 = pc') (hd : decode c.code pc = .ok (.dup2, 1)) (hc : v.category = 1) (hc2 : w.category = 1) (G : OG p e below Φ Q (T.setTop (mkF m pc' L (v :: w :: v :: w :: S)))) : OG p e below Φ Q (T.setTop (mkF m pc L (v :: w :: S))) := by
  subst hp; exact og_of (fun _ st => XT.dup2 X.here hx rfl hd rfl hc hc2 st) G
theorem o_dup2L (X : Stand p l e R s m args below meth c T locs cells slots) (hx : p.tables.exec = Jvm.exec) {v : Int64} (hp : pc + 1 = pc') (hd : decode c.code pc = .ok (.dup2, 1))  (G : OG p e below Φ Q (T.setTop (mkF m pc' L (.long v :: .long v :: S)))) : OG p e below Φ Q (T.setTop (mkF m pc L (.long v :: S))) := by
  subst hp; exact og_of (fun _ st => XT.dup2L X.here hx rfl hd rfl st) G
theorem o_dup_x2 (X : Stand p l e R s m args below meth c T locs cells slots) (hx : p.tables.exec = Jvm.exec) {u v w : Value} (hp : pc + 1 = pc') (hd : decode c.code pc = .ok (.dup_x2, 1)) (hu : u.category = 1) (hv : v.category = 1) (hw : w.category = 1) (G : OG p e below Φ Q (T.setTop (mkF m pc' L (u :: v :: w :: u :: S)))) : OG p e below Φ Q (T.setTop (mkF m pc L (u :: v :: w :: S))) := by
  subst hp; refine og_of (fun _ st => ?_) G
  jvm_step X.here [X.here.top, hx, hd, hu, hv, hw]
  exact st
theorem o_iinc (X : Stand p l e R s m args below meth c T locs cells slots) (hx : p.tables.exec = Jvm.exec) {i : Nat} {cst : Int} {x z : Int32} (hp : pc + 3 = pc') (hd : decode c.code pc = .ok (.iinc i cst, 3)) (hl : L[i]? = some (.val (.int x))) (hz : x + Int32.ofInt cst = z) (hl' : storeLocals L i (.int z) = some L') (G : OG p e below Φ Q (T.setTop (mkF m pc' L' S))) : OG p e below Φ Q (T.setTop (mkF m pc L S)) := by
  subst hp hz; exact og_of (fun _ st => XS.iinc X.here hx rfl hd hl hl' st) G
theorem o_goto (X : Stand p l e R s m args below meth c T locs cells slots) (hx : p.tables.exec = Jvm.exec) {o : Int} (hd : decode c.code pc = .ok (.goto o, 3)) (ho : 0 ≤ (pc : Int) + o) (hp : ((pc : Int) + o).toNat = pc') (G : OG p e below Φ Q (T.setTop (mkF m pc' L S))) : OG p e below Φ Q (T.setTop (mkF m pc L S)) := og_of (fun _ st => XS.goto X.here hx rfl rfl hd ho hp st) G
theorem o_ifY (X : Stand p l e R s m args below meth c T locs cells slots) (hx : p.tables.exec = Jvm.exec) {cd : ClassFile.Cond} {x : Int32} {o : Int} (hd : decode c.code pc = .ok (.ifCond cd o, 3)) (hc : ifCond.holds cd x = true) (ho : 0 ≤ (pc : Int) + o) (hp : ((pc : Int) + o).toNat = pc') (G : OG p e below Φ Q (T.setTop (mkF m pc' L S))) : OG p e below Φ Q (T.setTop (mkF m pc L (.int x :: S))) := og_of (fun _ st => XS.ifYes X.here hx rfl rfl hd rfl hc ho hp st) G
theorem o_ifN (X : Stand p l e R s m args below meth c T locs cells slots) (hx : p.tables.exec = Jvm.exec) {cd : ClassFile.Cond} {x : Int32} {o : Int} (hp : pc + 3 = pc') (hd : decode c.code pc = .ok (.ifCond cd o, 3)) (hc : ifCond.holds cd x = false) (G : OG p e below Φ Q (T.setTop (mkF m pc' L S))) : OG p e below Φ Q (T.setTop (mkF m pc L (.int x :: S))) := by
  subst hp; exact og_of (fun _ st => XS.ifNo X.here hx rfl hd rfl hc st) G
theorem o_icmpY (X : Stand p l e R s m args below meth c T locs cells slots) (hx : p.tables.exec = Jvm.exec) {cd : ClassFile.Cond} {x y : Int32} {o : Int} (hd : decode c.code pc = .ok (.if_icmp cd o, 3)) (hc : if_icmp.holds cd x y = true) (ho : 0 ≤ (pc : Int) + o) (hp : ((pc : Int) + o).toNat = pc') (G : OG p e below Φ Q (T.setTop (mkF m pc' L S))) : OG p e below Φ Q (T.setTop (mkF m pc L (.int y :: .int x :: S))) := og_of (fun _ st => XS.icmpYes X.here hx rfl rfl hd rfl hc ho hp st) G
theorem o_icmpN (X : Stand p l e R s m args below meth c T locs cells slots) (hx : p.tables.exec = Jvm.exec) {cd : ClassFile.Cond} {x y : Int32} {o : Int} (hp : pc + 3 = pc') (hd : decode c.code pc = .ok (.if_icmp cd o, 3)) (hc : if_icmp.holds cd x y = false) (G : OG p e below Φ Q (T.setTop (mkF m pc' L S))) : OG p e below Φ Q (T.setTop (mkF m pc L (.int y :: .int x :: S))) := by
  subst hp; exact og_of (fun _ st => XS.icmpNo X.here hx rfl hd rfl hc st) G
theorem o_ifnullY (X : Stand p l e R s m args below meth c T locs cells slots) (hx : p.tables.exec = Jvm.exec) {o : Int} (hd : decode c.code pc = .ok (.ifnull o, 3)) (ho : 0 ≤ (pc : Int) + o) (hp : ((pc : Int) + o).toNat = pc') (G : OG p e below Φ Q (T.setTop (mkF m pc' L S))) : OG p e below Φ Q (T.setTop (mkF m pc L (.null :: S))) := og_of (fun _ st => XS.ifnullYes X.here hx rfl rfl hd rfl ho hp st) G
theorem o_ifnullN (X : Stand p l e R s m args below meth c T locs cells slots) (hx : p.tables.exec = Jvm.exec) {o : Int} {a : Addr} (hp : pc + 3 = pc') (hd : decode c.code pc = .ok (.ifnull o, 3)) (G : OG p e below Φ Q (T.setTop (mkF m pc' L S))) : OG p e below Φ Q (T.setTop (mkF m pc L (.ref a :: S))) := by
  subst hp; exact og_of (fun _ st => XS.ifnullNo X.here hx rfl hd rfl st) G
theorem o_ifnonnullY (X : Stand p l e R s m args below meth c T locs cells slots) (hx : p.tables.exec = Jvm.exec) {o : Int} {a : Addr} (hd : decode c.code pc = .ok (.ifnonnull o, 3)) (ho : 0 ≤ (pc : Int) + o) (hp : ((pc : Int) + o).toNat = pc') (G : OG p e below Φ Q (T.setTop (mkF m pc' L S))) : OG p e below Φ Q (T.setTop (mkF m pc L (.ref a :: S))) := og_of (fun _ st => XS.ifnonnullYes X.here hx rfl rfl hd rfl ho hp st) G
theorem o_ifnonnullN (X : Stand p l e R s m args below meth c T locs cells slots) (hx : p.tables.exec = Jvm.exec) {o : Int} (hp : pc + 3 = pc') (hd : decode c.code pc = .ok (.ifnonnull o, 3)) (G : OG p e below Φ Q (T.setTop (mkF m pc' L S))) : OG p e below Φ Q (T.setTop (mkF m pc L (.null :: S))) := by
  subst hp; exact og_of (fun _ st => XS.ifnonnullNo X.here hx rfl hd rfl st) G
theorem o_acmpY (X : Stand p l e R s m args below meth c T locs cells slots) (hx : p.tables.exec = Jvm.exec) {cd : ClassFile.ACond} {a b : Addr} {o : Int} (hd : decode c.code pc = .ok (.if_acmp cd o, 3)) (hc : if_acmp.holds cd (some a) (some b) = true) (ho : 0 ≤ (pc : Int) + o) (hp : ((pc : Int) + o).toNat = pc') (G : OG p e below Φ Q (T.setTop (mkF m pc' L S))) : OG p e below Φ Q (T.setTop (mkF m pc L (.ref b :: .ref a :: S))) := og_of (fun _ st => XS.acmpYes X.here hx rfl rfl hd rfl hc ho hp st) G
theorem o_acmpN (X : Stand p l e R s m args below meth c T locs cells slots) (hx : p.tables.exec = Jvm.exec) {cd : ClassFile.ACond} {a b : Addr} {o : Int} (hp : pc + 3 = pc') (hd : decode c.code pc = .ok (.if_acmp cd o, 3)) (hc : if_acmp.holds cd (some a) (some b) = false) (G : OG p e below Φ Q (T.setTop (mkF m pc' L S))) : OG p e below Φ Q (T.setTop (mkF m pc L (.ref b :: .ref a :: S))) := by
  subst hp; exact og_of (fun _ st => XS.acmpNo X.here hx rfl hd rfl hc st) G
theorem o_ldcI (X : Stand p l e R s m args below meth c T locs cells slots) (hx : p.tables.exec = Jvm.exec) {Z : State} {a0 : Array Value} {own : String} {i : Nat} {v : Int32} (hp : pc + 2 = pc') (hd : decode c.code pc = .ok (.ldc i, 2)) (hZ : Z.Warmed39 s.vm) (hown : s.vm.findClass own = some m.cls) (w : (Cond.constant own i v).before a0 Z = true) (G : OG p e below Φ Q (T.setTop (mkF m pc' L (.int v :: S)))) : OG p e below Φ Q (T.setTop (mkF m pc L S)) := by
  subst hp; exact og_of (X.ldcInt hx hown (mvT hZ w) (g := mkF m pc L S) rfl hd) G
theorem o_ldcwI (X : Stand p l e R s m args below meth c T locs cells slots) (hx : p.tables.exec = Jvm.exec) {Z : State} {a0 : Array Value} {own : String} {i : Nat} {v : Int32} (hp : pc + 3 = pc') (hd : decode c.code pc = .ok (.ldc_w i, 3)) (hZ : Z.Warmed39 s.vm) (hown : s.vm.findClass own = some m.cls) (w : (Cond.constant own i v).before a0 Z = true) (G : OG p e below Φ Q (T.setTop (mkF m pc' L (.int v :: S)))) : OG p e below Φ Q (T.setTop (mkF m pc L S)) := by
  subst hp; exact og_of (X.ldcwInt hx hown (mvT hZ w) (g := mkF m pc L S) rfl hd) G
theorem o_ldc2L (X : Stand p l e R s m args below meth c T locs cells slots) (hx : p.tables.exec = Jvm.exec) {Z : State} {a0 : Array Value} {own : String} {i : Nat} {v : Int64} (hp : pc + 3 = pc') (hd : decode c.code pc = .ok (.ldc2_w i, 3)) (hZ : Z.Warmed39 s.vm) (hown : s.vm.findClass own = some m.cls) (w : (Cond.constantLong own i v).before a0 Z = true) (G : OG p e below Φ Q (T.setTop (mkF m pc' L (.long v :: S)))) : OG p e below Φ Q (T.setTop (mkF m pc L S)) := by
  subst hp; exact og_of (X.ldc2Long hx hown (mvT hZ w) (g := mkF m pc L S) rfl hd) G
theorem own_cat {x : Value} (h : x.isRef = true) : x.category = 1 := by cases x <;> simp_all [Value.isRef, Value.category]
theorem own_narR {x : Value} (h : x.isRef = true) (t : FieldType) : narrow t x = x := by rcases ref_cases h with rfl | ⟨a, rfl⟩ <;> cases t <;> rfl
theorem own_fitR {x : Value} {C : String} (h : x.isRef = true) : fits (.object C) x = true := by rcases ref_cases h with rfl | ⟨a, rfl⟩ <;> rfl
theorem own_selp {Z : State} {a0 : Array Value} {y : MethodName} {q : Nat} (hZ : Z.Warmed39 s.vm) (wi : (Cond.instantiable y.cls q).before a0 Z = true) (hp : (Cond.privateMethod y).before a0 Z = true) (hi : (Cond.instanceMethod y).before a0 Z = true) (hy : y.cls ≠ "java/lang/invoke/MethodHandle" ∧ y.cls ≠ "java/lang/invoke/VarHandle") : (Cond.selects y.cls y y).before args s = true := by
  have wi' : (Cond.instantiable y.cls q).before args s = true := mv hZ wi
  obtain ⟨cc, kk, h1, h2, -, h4, -⟩ := Cond.instantiable_spec wi'
  have hni : kk.isInterface = false := by simp only [Bool.or_eq_false_iff] at h4; exact h4.1
  exact selects_self_of_private h1 h2 hni (Cond.privateMethod_at (mvP hZ hp (args := args))) (mv hZ hi) hy
theorem own_staK {Z : State} {h h' : Heap} {C nn d : String} {v : Value} (F : Sta Z h C nn d v) (K : Keep h h' []) : Sta Z h' C nn d v := by
  obtain ⟨cf, i, k, f, st, cell, h1, h2, h3, h4, h5, r⟩ := F
  exact ⟨cf, i, k, f, st, cell, h1, h2, h3, h4, K.2.1 _ _ h5 (fun q => nomatch q), r⟩
end Own
end Jvm.RoadKit
namespace Jvm.Pilot.@@N@@
open Jvm Jvm.ClassFile Sem Op Lib Jvm.Free Jvm.Stand Jvm.LawKit Jvm.RoadKit Bundle Jvm.Pilot.@@N@@.Jvm.D
theorem own_d1_0 : decode prog_32_method_7_code 0 = .ok (.iload_n 0, 1) := by decide +kernel
theorem own_d1_1 : decode prog_32_method_7_code 1 = .ok (.iconst 1, 1) := by decide +kernel
theorem own_d1_2 : decode prog_32_method_7_code 2 = .ok (.if_icmp .lt 20, 3) := by decide +kernel
theorem own_d1_5 : decode prog_32_method_7_code 5 = .ok (.iload_n 1, 1) := by decide +kernel
theorem own_d1_6 : decode prog_32_method_7_code 6 = .ok (.iconst 1, 1) := by decide +kernel
theorem own_d1_7 : decode prog_32_method_7_code 7 = .ok (.if_icmp .lt 15, 3) := by decide +kernel
theorem own_d1_10 : decode prog_32_method_7_code 10 = .ok (.iload_n 0, 1) := by decide +kernel
theorem own_d1_11 : decode prog_32_method_7_code 11 = .ok (.i2l, 1) := by decide +kernel
theorem own_d1_12 : decode prog_32_method_7_code 12 = .ok (.iload_n 1, 1) := by decide +kernel
theorem own_d1_13 : decode prog_32_method_7_code 13 = .ok (.i2l, 1) := by decide +kernel
theorem own_d1_14 : decode prog_32_method_7_code 14 = .ok (.lmul, 1) := by decide +kernel
theorem own_d1_15 : decode prog_32_method_7_code 15 = .ok (.ldc2_w 167, 3) := by decide +kernel
theorem own_d1_18 : decode prog_32_method_7_code 18 = .ok (.lcmp, 1) := by decide +kernel
theorem own_d1_19 : decode prog_32_method_7_code 19 = .ok (.ifCond .le 18, 3) := by decide +kernel
theorem own_d1_37 : decode prog_32_method_7_code 37 = .ok (.return_, 1) := by decide +kernel
theorem own_ef1 (m : MethodId) (p0 : Int32) (p1 : Int32) : entryFrame m #[(.int p0), (.int p1)] 2 = mkF m 0 #[.val (.int p0), .val (.int p1)] [] := by first | rfl | (simp [entryFrame, mkF, argsToLocals, Value.category]; done)
def own_Q1 (Z : State) (p0 : Int32) (p1 : Int32) (h0 : Heap) (n0 : Nat) (v : Option Value) (h : Heap) (L : List Loc) : Prop := v = none ∧ Fr n0 L ∧ h = h0
theorem own_pn15 : plainName "com/example/shingle/shingle/similarity/LshIndex" = true := by first | (simp [plainName, overriddenIn]; done) | decide +kernel
set_option maxRecDepth 65536 in
set_option maxHeartbeats 40000000 in
theorem own_rm1 (l : Launch) (Z : State) (aA : Array Value) (hw : ∀ d ∈ tables_1, d.before aA Z = true) (ws : List Jvm.Cond) (p0 : Int32) (p1 : Int32) (h0 : Heap) (n0 : Nat) (Z0 : n0 ≤ h0.size) (h1 : ¬ (p0 < (1 : Int32))) (h2 : ¬ (p1 < (1 : Int32))) (h3 : ¬ ((65536 : Int64) < p0.toInt64 * p1.toInt64)) :
    MetFree l (⟨"com/example/shingle/shingle/similarity/LshIndex", "checkShape", "(II)V"⟩ : MethodName) (head1 (Jvm.Cond.code (⟨"com/example/shingle/shingle/similarity/LshIndex", "checkShape", "(II)V"⟩ : MethodName) prog_32_method_7_code 2 none :: ws) ({ frames := 0, cells := 0, slots := 0, locals := 0 } : Room)) (fun a U => a = #[(.int p0), (.int p1)] ∧ Z.Warmed39 U.vm ∧ U.heap = h0) (fun _ _ _ _ _ => True) (fun _ U o U' => ∃ v L, o = .returned v ∧ own_Q1 Z p0 p1 h0 n0 v U'.heap L ∧ FrameEnd U o U' L ({ frames := 0, cells := 0, slots := 0, locals := 0 } : Room).cells ({ frames := 0, cells := 0, slots := 0, locals := 0 } : Room).slots) := by
  refine MetFree.of_bodySF (plainFor_of_name own_pn15) hisR ?_
  intro p e s m args below meth c s₁ Bd hml0 hP hK
  obtain ⟨rfl, hZ, hh⟩ := hP
  have hx := Bd.exec
  have hby := Bd.bytes
  have hlk : meth.locks = false := Bd.notSynchronized
  have hml : c.maxLocals = 2 := hml0
  have hown : s.vm.findClass "com/example/shingle/shingle/similarity/LshIndex" = some m.cls := findClass_of_methodNamed Bd.named
  have hnm := (name_of_methodNamed Bd.named Bd.method).1
  have X0 : Stand p l e ({ frames := 0, cells := 0, slots := 0, locals := 0 } : Room) s m #[(.int p0), (.int p1)] below meth c s₁ [] 0 0 := Stand.of_body Bd
  have e0 : s₁.heap = h0 := by rw [← hh, Bd.state]; rfl
  have N0 := Fr.nil n0
  show OG p e below (FE s ({ frames := 0, cells := 0, slots := 0, locals := 0 } : Room).cells ({ frames := 0, cells := 0, slots := 0, locals := 0 } : Room).slots) (own_Q1 Z p0 p1 h0 n0) (s₁.setTop (entryFrame m #[(.int p0), (.int p1)] 2))
  refine og_of (fun _ k => castTop (own_ef1 m p0 p1) k) ?_
  refine o_iloadN X0 hx rfl (hb hby own_d1_0) rfl ?_
  refine o_iconst (z := (1 : Int32)) X0 hx rfl (hb hby own_d1_1) (by decide) ?_
  have hk1 : ¬ (p0 < (1 : Int32)) := h1
  refine o_icmpN (pc' := 5) X0 hx rfl (hb hby own_d1_2) (flt hk1).1 ?_
  refine o_iloadN X0 hx rfl (hb hby own_d1_5) rfl ?_
  refine o_iconst (z := (1 : Int32)) X0 hx rfl (hb hby own_d1_6) (by decide) ?_
  have hk2 : ¬ (p1 < (1 : Int32)) := h2
  refine o_icmpN (pc' := 10) X0 hx rfl (hb hby own_d1_7) (flt hk2).1 ?_
  refine o_iloadN X0 hx rfl (hb hby own_d1_10) rfl ?_
  refine o_i2l (z := (p0.toInt64)) X0 hx rfl (hb hby own_d1_11) rfl ?_
  refine o_iloadN X0 hx rfl (hb hby own_d1_12) rfl ?_
  refine o_i2l (z := (p1.toInt64)) X0 hx rfl (hb hby own_d1_13) rfl ?_
  refine o_lmul (z := ((p0.toInt64) * (p1.toInt64))) X0 hx rfl (hb hby own_d1_14) rfl ?_
  refine o_ldc2L X0 hx rfl (hb hby own_d1_15) hZ hown (hw _ (List.mem_of_getElem? (i := 6) rfl)) ?_
  refine o_lcmp X0 hx rfl (hb hby own_d1_18) ?_
  have hk3 : ¬ ((65536 : Int64) < ((p0.toInt64) * (p1.toInt64))) := h3
  refine o_ifY (pc' := 37) X0 hx (hb hby own_d1_19) (lcN_gt hk3).2 (by decide) (by decide) ?_
  exact o_ret0 X0 hx Bd.returns (own_lv X0 hlk (by decide) (by decide)) (hb hby own_d1_37) ⟨rfl, N0, e0⟩
theorem own_b (x : Int32) : 1 ≤ (((x &&& (2147483647 : Int32)) % (65536 : Int32)) + (1 : Int32)).toInt ∧ (((x &&& (2147483647 : Int32)) % (65536 : Int32)) + (1 : Int32)).toInt ≤ 65536 := by
  have e1 := c_mask x 2147483647 31 (by decide) (by decide)
  have e2 := (c_irem (x &&& 2147483647) 65536 65536 rfl).1 (by omega)
  have e3 := c_iadd ((x &&& 2147483647) % 65536) 1
  have r := rng32 (((x &&& 2147483647) % 65536) + 1)
  have o1 : (1 : Int32).toInt = 1 := rfl
  omega
theorem own_ne0 {x : Int32} (h : 1 ≤ x.toInt) : x ≠ 0 := fun e => by
  subst e
  have z0 : (0 : Int32).toInt = 0 := rfl
  omega
theorem own_rows (b y z : Int32) (hb : 1 ≤ b.toInt ∧ b.toInt ≤ 65536) : 1 ≤ ((65536 : Int32) / b).toInt ∧ ((65536 : Int32) / b).toInt = 65536 / b.toInt := by
  have hne : b ≠ -1 := fun e => by subst e; have q : (-1 : Int32).toInt = -1 := rfl; omega
  have e := (c_idiv 65536 b b.toInt rfl hne).1 (by decide)
  have q : (65536 : Int32).toInt = 65536 := rfl
  rw [q] at e
  rw [e]
  refine ⟨?_, rfl⟩
  have := Int.le_ediv_of_mul_le (a := 1) (b := 65536) (c := b.toInt) (by omega) (by omega)
  exact this
theorem own_r (y m : Int32) (hm : 1 ≤ m.toInt) : 1 ≤ (((y &&& (2147483647 : Int32)) % m) + (1 : Int32)).toInt ∧ (((y &&& (2147483647 : Int32)) % m) + (1 : Int32)).toInt ≤ m.toInt := by
  have e1 := c_mask y 2147483647 31 (by decide) (by decide)
  have e2 := (c_iremV (y &&& 2147483647) m).1 (by omega) (by omega)
  have e3 := c_iadd ((y &&& 2147483647) % m) 1
  have r := rng32 (((y &&& 2147483647) % m) + 1)
  have rm := rng32 m
  have o1 : (1 : Int32).toInt = 1 := rfl
  omega
theorem own_prod (b r m : Int32) (hb : 1 ≤ b.toInt ∧ b.toInt ≤ 65536) (hm : m.toInt = 65536 / b.toInt) (hr : 1 ≤ r.toInt ∧ r.toInt ≤ m.toInt) : ¬ ((65536 : Int64) < b.toInt64 * r.toInt64) := by
  have e1 := c_i2l b
  have e2 := c_i2l r
  have h1 : b.toInt * r.toInt ≤ 65536 := by
    have h2 : r.toInt ≤ 65536 / b.toInt := by omega
    have h3 := Int.mul_le_of_le_ediv (a := r.toInt) (b := 65536) (c := b.toInt) (by omega) h2
    rw [Int.mul_comm]; exact h3
  have h0 : 0 ≤ b.toInt * r.toInt := Int.mul_nonneg (by omega) (by omega)
  have c := c_lmul b.toInt64 r.toInt64
  rw [e1, e2] at c
  have q := rng64 (b.toInt64 * r.toInt64)
  have o : (65536 : Int64).toInt = 65536 := rfl
  rw [Int64.lt_iff_toInt_lt, o]
  omega
theorem own_nlt {x : Int32} (h : 1 ≤ x.toInt) : ¬ x < (1 : Int32) := by
  have o1 : (1 : Int32).toInt = 1 := rfl
  rw [Int32.lt_iff_toInt_lt]; omega
theorem own_pd0 : parseMethodDescriptor "(II)V" = some ⟨[.int, .int], none⟩ := by decide +kernel
theorem own_ef0 (m : MethodId) (p0 : Int32) (p1 : Int32) (p2 : Int32) : entryFrame m #[(.int p0), (.int p1), (.int p2)] maxLocals = mkF m 0 #[.val (.int p0), .val (.int p1), .val (.int p2), .unset, .unset, .unset, .unset] [] := by first | rfl | (simp [entryFrame, mkF, argsToLocals, Value.category, maxLocals]; done)
def own_Q0 (Z : State) (p0 : Int32) (p1 : Int32) (p2 : Int32) (h0 : Heap) (n0 : Nat) (v : Option Value) (h : Heap) (L : List Loc) : Prop := v = some (.int (1 : Int32)) ∧ Fr n0 L
theorem own_pn16 : plainName "com/example/shingle/shingle/similarity/LshIndexCheckShapePinLaw" = true := by first | (simp [plainName, overriddenIn]; done) | decide +kernel
set_option maxRecDepth 65536 in
set_option maxHeartbeats 40000000 in
theorem own_rm0 (l : Launch) (Z : State) (aA : Array Value) (hw : ∀ d ∈ tables_1, d.before aA Z = true) (ws : List Jvm.Cond) (p0 : Int32) (p1 : Int32) (p2 : Int32) (h0 : Heap) (n0 : Nat) (Z0 : n0 ≤ h0.size) :
    MetFree l x (head1 (Jvm.Cond.code x code maxLocals ret :: ws) room_1) (fun a U => a = #[(.int p0), (.int p1), (.int p2)] ∧ Z.Warmed39 U.vm ∧ U.heap = h0) (fun _ _ _ _ _ => True) (fun _ U o U' => ∃ v L, o = .returned v ∧ own_Q0 Z p0 p1 p2 h0 n0 v U'.heap L ∧ FrameEnd U o U' L room_1.cells room_1.slots) := by
  refine MetFree.of_bodySF (plainFor_of_name own_pn16) hisR ?_
  intro p e s m args below meth c s₁ Bd hml0 hP hK
  obtain ⟨rfl, hZ, hh⟩ := hP
  have hx := Bd.exec
  have hby := Bd.bytes
  have hlk : meth.locks = false := Bd.notSynchronized
  have hml : c.maxLocals = 7 := hml0
  have hown : s.vm.findClass "com/example/shingle/shingle/similarity/LshIndexCheckShapePinLaw" = some m.cls := findClass_of_methodNamed Bd.named
  have hnm := (name_of_methodNamed Bd.named Bd.method).1
  have X0 : Stand p l e room_1 s m #[(.int p0), (.int p1), (.int p2)] below meth c s₁ [] 0 0 := Stand.of_body Bd
  have e0 : s₁.heap = h0 := by rw [← hh, Bd.state]; rfl
  have N0 := Fr.nil n0
  show OG p e below (FE s room_1.cells room_1.slots) (own_Q0 Z p0 p1 p2 h0 n0) (s₁.setTop (entryFrame m #[(.int p0), (.int p1), (.int p2)] maxLocals))
  refine og_of (fun _ k => castTop (own_ef0 m p0 p1 p2) k) ?_
  refine o_ldcI X0 hx rfl (hb hby at_0) hZ hown (hw _ (List.mem_of_getElem? (i := 0) rfl)) ?_
  refine o_istoreN X0 hx rfl (hb hby at_2) (L' := #[.val (.int p0), .val (.int p1), .val (.int p2), .val (.int (65536 : Int32)), .unset, .unset, .unset]) rfl ?_
  refine o_iloadN X0 hx rfl (hb hby at_3) rfl ?_
  refine o_ldcI X0 hx rfl (hb hby at_4) hZ hown (hw _ (List.mem_of_getElem? (i := 1) rfl)) ?_
  obtain ⟨z1, hz1⟩ : ∃ z : Int32, p0 &&& (2147483647 : Int32) = z := ⟨_, rfl⟩
  refine o_iand (z := z1) X0 hx rfl (hb hby at_6) hz1 ?_
  refine o_iloadN X0 hx rfl (hb hby at_7) rfl ?_
  obtain ⟨z2, hz2⟩ : ∃ z : Int32, z1 % (65536 : Int32) = z := ⟨_, rfl⟩
  refine o_irem (z := z2) X0 hx rfl (hb hby at_8) hz2 (by decide) ?_
  refine o_iconst (z := (1 : Int32)) X0 hx rfl (hb hby at_9) (by decide) ?_
  obtain ⟨z3, hz3⟩ : ∃ z : Int32, z2 + (1 : Int32) = z := ⟨_, rfl⟩
  refine o_iadd (z := z3) X0 hx rfl (hb hby at_10) hz3 ?_
  refine o_istore X0 hx rfl (hb hby at_11) (L' := #[.val (.int p0), .val (.int p1), .val (.int p2), .val (.int (65536 : Int32)), .val (.int z3), .unset, .unset]) rfl ?_
  have hB : 1 ≤ z3.toInt ∧ z3.toInt ≤ 65536 := by subst hz1 hz2 hz3; exact own_b p0
  refine o_iloadN X0 hx rfl (hb hby at_13) rfl ?_
  refine o_iload X0 hx rfl (hb hby at_14) rfl ?_
  obtain ⟨z4, hz4⟩ : ∃ z : Int32, (65536 : Int32) / z3 = z := ⟨_, rfl⟩
  have hw_5 : z3 ≠ 0 := own_ne0 hB.1
  refine o_idiv (z := z4) X0 hx rfl (hb hby at_16) hz4 hw_5 ?_
  refine o_istore X0 hx rfl (hb hby at_17) (L' := #[.val (.int p0), .val (.int p1), .val (.int p2), .val (.int (65536 : Int32)), .val (.int z3), .val (.int z4), .unset]) rfl ?_
  have hM : 1 ≤ z4.toInt ∧ z4.toInt = 65536 / z3.toInt := by
    have q := own_rows z3 0 0 hB
    rw [hz4] at q; exact q
  refine o_iloadN X0 hx rfl (hb hby at_19) rfl ?_
  refine o_iconst (z := (1 : Int32)) X0 hx rfl (hb hby at_20) (by decide) ?_
  obtain ⟨z6, hz6⟩ : ∃ z : Int32, p2 &&& (1 : Int32) = z := ⟨_, rfl⟩
  refine o_iand (z := z6) X0 hx rfl (hb hby at_21) hz6 ?_
  obtain ⟨ph9, hph9⟩ : ∃ z : Int32, (if z6 = (0 : Int32) then (((p1 &&& (2147483647 : Int32)) % z4) + (1 : Int32)) else z4) = z := ⟨_, rfl⟩
  have J10 : OG p e below (FE s room_1.cells room_1.slots) (own_Q0 Z p0 p1 p2 h0 n0) (s₁.setTop (mkF m 39 #[.val (.int p0), .val (.int p1), .val (.int p2), .val (.int (65536 : Int32)), .val (.int z3), .val (.int z4), .unset] [(.int ph9)])) := by
    have hR : 1 ≤ ph9.toInt ∧ ph9.toInt ≤ z4.toInt := by
      rw [← hph9]; split
      · exact own_r p1 z4 hM.1
      · exact ⟨hM.1, Int.le_refl _⟩
    refine o_istore X0 hx rfl (hb hby at_39) (L' := #[.val (.int p0), .val (.int p1), .val (.int p2), .val (.int (65536 : Int32)), .val (.int z3), .val (.int z4), .val (.int ph9)]) rfl ?_
    refine o_iload X0 hx rfl (hb hby at_41) rfl ?_
    refine o_iload X0 hx rfl (hb hby at_43) rfl ?_
    have hw_12 : ¬ (z3 < (1 : Int32)) := own_nlt hB.1
    have hw_13 : ¬ (ph9 < (1 : Int32)) := own_nlt hR.1
    have hw_14 : ¬ ((65536 : Int64) < z3.toInt64 * ph9.toInt64) := own_prod _ _ _ hB hM.2 hR
    obtain ⟨_, _, ⟨T11, L11, k11, n11⟩, -, X11, ⟨Lc11, hQ11, l11, y11, z11⟩, st11⟩ := Jvm.LawKit.callS X0 hx (y := (⟨"com/example/shingle/shingle/similarity/LshIndex", "checkShape", "(II)V"⟩ : MethodName)) hown (mvT hZ (hw _ (List.mem_of_getElem? (i := 2) rfl))) (mvT hZ (hw _ (List.mem_of_getElem? (i := 3) rfl))) (mvT hZ (hw _ (List.mem_of_getElem? (i := 4) rfl))) (mvT hZ (hw _ (List.mem_of_getElem? (i := 5) rfl))) (by decide) (backOf (W := 0) (own_rm1 l Z aA hw [] z3 ph9 h0 n0 Z0 hw_12 hw_13 hw_14) hZ (hw _ (List.mem_of_getElem? (i := 5) rfl)) (hw _ (List.mem_of_getElem? (i := 4) rfl)) (by decide) (by decide)) (g := (mkF m 45 #[.val (.int p0), .val (.int p1), .val (.int p2), .val (.int (65536 : Int32)), .val (.int z3), .val (.int z4), .val (.int ph9)] [(.int ph9), (.int z3)])) rfl (by rw [hml]; rfl) (argsL := [(.int z3), (.int ph9)]) (rest := []) (lenOf own_pd0 rfl) rfl (by show 2 * 0 + _ ≤ _; exact Nat.le_of_eq rfl) (hb hby at_45) (fun _ _ => ⟨rfl, e0, Nat.le_of_ble_eq_true rfl, Nat.le_of_ble_eq_true rfl⟩)
    dsimp only [Pt.U, Pt.locs, Pt.cells, Pt.slots] at X11 l11 y11 z11 st11 hQ11
    subst l11 y11 z11
    obtain ⟨rfl, N11q, ee11⟩ := hQ11
    have N15 := Fr.app N0 N11q
    refine og_of st11 ?_
    show OG p e below _ _ (T11.setTop (mkF m 48 #[.val (.int p0), .val (.int p1), .val (.int p2), .val (.int (65536 : Int32)), .val (.int z3), .val (.int z4), .val (.int ph9)] []))
    refine o_iload X11 hx rfl (hb hby at_48) rfl ?_
    obtain ⟨z16, hz16⟩ : ∃ z : Int64, z3.toInt64 = z := ⟨_, rfl⟩
    refine o_i2l (z := z16) X11 hx rfl (hb hby at_50) hz16 ?_
    refine o_iload X11 hx rfl (hb hby at_51) rfl ?_
    obtain ⟨z17, hz17⟩ : ∃ z : Int64, ph9.toInt64 = z := ⟨_, rfl⟩
    refine o_i2l (z := z17) X11 hx rfl (hb hby at_53) hz17 ?_
    obtain ⟨z18, hz18⟩ : ∃ z : Int64, z16 * z17 = z := ⟨_, rfl⟩
    refine o_lmul (z := z18) X11 hx rfl (hb hby at_54) hz18 ?_
    refine o_iloadN X11 hx rfl (hb hby at_55) rfl ?_
    refine o_i2l (z := (65536 : Int64)) X11 hx rfl (hb hby at_56) (by decide) ?_
    refine o_lcmp X11 hx rfl (hb hby at_57) ?_
    have hk19 : ¬ ((65536 : Int64) < z18) := by subst hz16 hz17 hz18; exact own_prod _ _ _ hB hM.2 hR
    refine o_ifN (pc' := 61) X11 hx rfl (hb hby at_58) (lcN_gt hk19).1 ?_
    refine o_iload X11 hx rfl (hb hby at_61) rfl ?_
    refine o_iconst (z := (1 : Int32)) X11 hx rfl (hb hby at_63) (by decide) ?_
    have hk20 : ¬ (z3 < (1 : Int32)) := own_nlt hB.1
    refine o_icmpN (pc' := 67) X11 hx rfl (hb hby at_64) (flt hk20).1 ?_
    refine o_iload X11 hx rfl (hb hby at_67) rfl ?_
    refine o_iconst (z := (1 : Int32)) X11 hx rfl (hb hby at_69) (by decide) ?_
    have hk21 : ¬ (ph9 < (1 : Int32)) := own_nlt hR.1
    refine o_icmpN (pc' := 73) X11 hx rfl (hb hby at_70) (flt hk21).1 ?_
    refine o_iconst (z := (1 : Int32)) X11 hx rfl (hb hby at_73) (by decide) ?_
    refine o_goto (pc' := 78) X11 hx (hb hby at_74) (by decide) (by decide) ?_
    subst hz1 hz2 hz3 hz4 hz6 hph9 hz16 hz17 hz18
    exact o_retB X11 hx Bd.returns (own_lv X11 hlk (by decide) (by decide)) (hb hby at_78) (by decide) ⟨rfl, N15⟩
  by_cases hc22 : z6 = (0 : Int32)
  · skip
    refine o_ifY (pc' := 30) X0 hx (hb hby at_22) ((if0 _ _).trans (teq hc22).1) (by decide) (by decide) ?_
    refine o_iloadN X0 hx rfl (hb hby at_30) rfl ?_
    refine o_ldcI X0 hx rfl (hb hby at_31) hZ hown (hw _ (List.mem_of_getElem? (i := 1) rfl)) ?_
    refine o_iand (z := (p1 &&& (2147483647 : Int32))) X0 hx rfl (hb hby at_33) rfl ?_
    refine o_iload X0 hx rfl (hb hby at_34) rfl ?_
    have hw_23 : z4 ≠ 0 := own_ne0 hM.1
    refine o_irem (z := ((p1 &&& (2147483647 : Int32)) % z4)) X0 hx rfl (hb hby at_36) rfl hw_23 ?_
    refine o_iconst (z := (1 : Int32)) X0 hx rfl (hb hby at_37) (by decide) ?_
    refine o_iadd (z := (((p1 &&& (2147483647 : Int32)) % z4) + (1 : Int32))) X0 hx rfl (hb hby at_38) rfl ?_
    have q24 : ph9 = (((p1 &&& (2147483647 : Int32)) % z4) + (1 : Int32)) := by
      rw [← hph9]
      simp only [if_pos hc22]
    rw [q24] at J10
    exact J10
  · skip
    refine o_ifN (pc' := 25) X0 hx rfl (hb hby at_22) ((if0 _ _).trans (feq hc22).1) ?_
    refine o_iload X0 hx rfl (hb hby at_25) rfl ?_
    refine o_goto (pc' := 39) X0 hx (hb hby at_27) (by decide) (by decide) ?_
    have q25 : ph9 = z4 := by
      rw [← hph9]
      simp only [if_neg hc22]
    rw [q25] at J10
    exact J10
set_option maxRecDepth 65536 in
set_option maxHeartbeats 40000000 in
theorem own_comes {Post : Tables → Env → Array Value → State → Outcome → State → Prop} (hpost : ∀ tb e args s v u, (limb_1_1.after args s (.returned v) u = true ∧ limb_1_2.after args s (.returned v) u = true ∧ True) → FrameEnd s (.returned v) u (Jvm.fieldLocs frame_1_writes args s ++ Jvm.arrayLocs frame_1_arrays args s ++ Jvm.staticLocs frame_1_statics s) 0 0 → Post tb e args s (.returned v) u) :
    ArmFor flags0 classFile x code maxLocals ret World_1 tables_1 room_1 Calls_1 rest_1 Pre_1 Post := by
  intro l hfl _ _ p e ha hc hk s m args below hf hA hF happ hP
  obtain ⟨hcalls, hrest, hpre⟩ := hP
  obtain ⟨-, -, -, hnamed, -, -, -, hat⟩ := (Spec.applies_iff hf).mp happ
  obtain ⟨hg, hn⟩ := and_e (Cond.before_iff.mp (show (Jvm.Cond.and given_1 narrow_1).before args s = true from hpre))
  obtain ⟨g0, gr0⟩ := and_e hg
  obtain ⟨gi0, gr1⟩ := and_e gr0
  obtain ⟨gi1, gr2⟩ := and_e gr1
  have gi2 := gr2
  obtain ⟨w0, w1, w2, rfl⟩ : ∃ w0 w1 w2 : Value, args = #[w0, w1, w2] := by
    have hs : args.size = 3 := by simpa [Cond.value, given_1] using g0
    obtain ⟨L⟩ := args
    match L, hs with
    | [w0, w1, w2], _ => exact ⟨w0, w1, w2, rfl⟩
  have hw := fun d (hd : d ∈ tables_1) => atoms_spec (ws := Jvm.Cond.code x code maxLocals ret :: tables_1) hat d (List.mem_cons_of_mem _ hd)
  have hfit : Fit s := fun {y c} hc i hi => by
    obtain ⟨ha, rfl⟩ := Array.getElem?_eq_some_iff.mp hc
    have q := List.all_eq_true.mp ((Array.all_eq_true_iff_forall_mem.mp hF) _ (Array.getElem_mem ha)) i (List.mem_range.mpr hi)
    simpa [Array.getElem?_eq_getElem hi] using q
  obtain ⟨i0, ei0⟩ := is_v gi0
  obtain rfl : w0 = (.int i0) := Option.some.inj ei0
  obtain ⟨i1, ei1⟩ := is_v gi1
  obtain rfl : w1 = (.int i1) := Option.some.inj ei1
  obtain ⟨i2, ei2⟩ := is_v gi2
  obtain rfl : w2 = (.int i2) := Option.some.inj ei2
  obtain ⟨n, o, h1, h2, h3, _, L, rfl, ⟨rfl, N⟩, hq⟩ := own_rm0 l s _ hw tables_1 i0 i1 i2  s.heap s.heap.size (Nat.le_refl _)  p e ha hc hk s m _ below hf ((Spec.applies_iff_loose hf).mp happ).1 ⟨rfl, State.Warmed39.refl s, rfl⟩ trivial
  refine ⟨n, _, h1, h2, h3, hpost _ _ _ _ _ _ ⟨Cond.after_iff.mpr rfl, Cond.after_iff.mpr (eq_i res_at (Term.int_eval (1)) rfl), trivial⟩ ⟨hq.1, hq.2.1, (hq.2.2.sift fun y hy => Or.inr (N y hy)).mono (by decide) (by decide)⟩⟩
theorem main_1_1 : Claimed_1_1 := own_comes fun _ _ _ _ _ _ h hF => ⟨h.1, hF⟩
theorem main_1_2 : Claimed_1_2 := own_comes fun _ _ _ _ _ _ h hF => ⟨h.2.1, hF⟩
end Jvm.Pilot.@@N@@
namespace Jvm.Pilot.@@N@@
open Jvm Jvm.ClassFile Sem Op Lib Jvm.Free Jvm.Stand Jvm.Pilot.@@N@@.Jvm.D
/-! MADE BY PROGRAM (witnessworld.py) out of the Statement's table words and the real class files: 9 classes; the members and pool entries that the words name. The judged class is class 1, her method 1. -/
namespace start1
open Jvm.ClassFile
def u (s : String) : CpInfo := .utf8 (stringToUtf16 s)
/-- a pool by its gaps: so many unusable entries, then the entry; so many at the end -/
def gap : Nat → List CpInfo → List CpInfo
  | 0, r => r
  | n + 1, r => .unusable :: gap n r
def poolList (es : List (Nat × CpInfo)) (last : Nat) : List CpInfo := es.foldr (fun e r => gap e.1 (e.2 :: r)) (gap last [])
def pool (es : List (Nat × CpInfo)) (last : Nat) : Array CpInfo := ⟨poolList es last⟩
def fileOf (pool : Array CpInfo) (this : Nat) (attrs : Array Attribute := #[]) (ms : Array MethodInfo := #[]) (fl : Nat := 33) (sup : Nat := 0) (ifs : Array Nat := #[]) (fds : Array FieldInfo := #[]) : ClassFile where
  minorVersion := 0
  majorVersion := 65
  constantPool := pool
  accessFlags := fl
  thisClass := this
  superClass := sup
  interfaces := ifs
  fields := fds
  methods := ms
  attributes := attrs
def plain (name : String) (sup : Option ClassId) : Class where
  name := name
  kind := .ordinary
  loader := none
  accessFlags := 33
  super := sup
  interfaces := #[]
  cf := none
  fields := #[]
  methods := #[]
  instanceTypes := #[]
  staticTypes := #[]
  resolved := #[]
  callSites := []
  init := .initialized
  statics := none
  mirror := none

def pool0 : Array CpInfo := pool [(5, u "<init>"), (0, u "()V"), (1, .class_ 10), (1, u "java/lang/Object")] 113

def k0m0 : Method := { name := "<init>", desc := "()V", sig := { parameters := [], returnType := none }, accessFlags := 1, code := none }
/-- java/lang/Object -/
def k0 : Class := { plain "java/lang/Object" none with
  accessFlags := 33
  interfaces := #[]
  cf := some (fileOf pool0 8 #[] #[{ accessFlags := 1, nameIndex := 5, descriptorIndex := 6, attributes := #[] }] 33 0 #[] #[])
  fields := #[]
  methods := #[k0m0]
  instanceTypes := #[]
  staticTypes := #[]
  resolved := Array.replicate 124 none
  statics := none }

def pool1 : Array CpInfo := pool [(2, .class_ 4), (1, u "java/lang/Object"), (0, u "<init>"), (0, u "()V"), (2, .integer 65536), (0, .integer 2147483647), (0, .methodref 12 13), (0, .class_ 14), (0, .nameAndType 15 16), (0, u "com/example/shingle/shingle/similarity/LshIndex"), (0, u "checkShape"), (0, u "(II)V"), (0, .class_ 18), (0, u "com/example/shingle/shingle/similarity/LshIndexCheckShapePinLaw"), (2, u "law"), (0, u "(III)Z")] 3

def k1m0 : Method := { name := "<init>", desc := "()V", sig := { parameters := [], returnType := none }, accessFlags := 1, code := none }
def k1c1 : Code := { maxStack := 4, maxLocals := 7, code := code, exceptionTable := #[], attributes := #[] }
def k1m1 : Method := { name := "law", desc := "(III)Z", sig := { parameters := [.int, .int, .int], returnType := some .boolean }, accessFlags := 9, code := some k1c1 }
/-- com/example/shingle/shingle/similarity/LshIndexCheckShapePinLaw -/
def k1 : Class := { plain "com/example/shingle/shingle/similarity/LshIndexCheckShapePinLaw" (some 0) with
  accessFlags := 49
  interfaces := #[]
  cf := some (fileOf pool1 17 #[] #[{ accessFlags := 1, nameIndex := 5, descriptorIndex := 6, attributes := #[] }, { accessFlags := 9, nameIndex := 21, descriptorIndex := 22, attributes := #[] }] 49 2 #[] #[])
  fields := #[]
  methods := #[k1m0, k1m1]
  instanceTypes := #[]
  staticTypes := #[]
  resolved := Array.replicate 26 none
  statics := none }

def pool2 : Array CpInfo := pool [(2, .class_ 4), (1, u "java/lang/Object"), (6, .class_ 13), (1, u "com/example/shingle/shingle/similarity/LshIndex"), (0, u "keys"), (0, u "Ljava/util/List;"), (2, u "buckets"), (2, u "checkShape"), (0, u "(II)V"), (2, u "bands"), (0, u "I"), (2, u "rows"), (29, .class_ 60), (0, u "com/example/shingle/shingle/similarity/LshIndex$BandKey"), (106, .long 65536)] 74

def k2c0 : Code := { maxStack := 4, maxLocals := 2, code := prog_32_method_7_code, exceptionTable := #[], attributes := #[] }
def k2m0 : Method := { name := "checkShape", desc := "(II)V", sig := { parameters := [.int, .int], returnType := none }, accessFlags := 8, code := some k2c0 }
/-- com/example/shingle/shingle/similarity/LshIndex -/
def k2 : Class := { plain "com/example/shingle/shingle/similarity/LshIndex" (some 0) with
  accessFlags := 49
  interfaces := #[]
  cf := some (fileOf pool2 11 #[.nestMembers #[59]] #[{ accessFlags := 8, nameIndex := 21, descriptorIndex := 22, attributes := #[] }] 49 2 #[] #[{ accessFlags := 18, nameIndex := 25, descriptorIndex := 26, attributes := #[] }, { accessFlags := 18, nameIndex := 29, descriptorIndex := 26, attributes := #[] }, { accessFlags := 18, nameIndex := 14, descriptorIndex := 15, attributes := #[] }, { accessFlags := 18, nameIndex := 18, descriptorIndex := 15, attributes := #[] }])
  fields := #[{ name := "bands", type := .int, accessFlags := 18, slot := 0, constantValue := 0 }, { name := "rows", type := .int, accessFlags := 18, slot := 1, constantValue := 0 }, { name := "keys", type := (.object "java/util/List"), accessFlags := 18, slot := 2, constantValue := 0 }, { name := "buckets", type := (.object "java/util/List"), accessFlags := 18, slot := 3, constantValue := 0 }]
  methods := #[k2m0]
  instanceTypes := #[.int, .int, (.object "java/util/List"), (.object "java/util/List")]
  staticTypes := #[]
  resolved := Array.replicate 242 none
  statics := none }

def pool3 : Array CpInfo := pool [(1, u "java/lang/Cloneable"), (0, .class_ 1), (0, u "java/lang/Object"), (0, .class_ 3)] 3

/-- java/lang/Cloneable -/
def k3 : Class := { plain "java/lang/Cloneable" (some 0) with
  accessFlags := 1537
  interfaces := #[]
  cf := some (fileOf pool3 2 #[] #[] 1537 4 #[] #[])
  fields := #[]
  methods := #[]
  instanceTypes := #[]
  staticTypes := #[]
  resolved := Array.replicate 8 none
  statics := none }

def pool4 : Array CpInfo := pool [(1, u "java/io/Serializable"), (0, .class_ 1), (0, u "java/lang/Object"), (0, .class_ 3)] 3

/-- java/io/Serializable -/
def k4 : Class := { plain "java/io/Serializable" (some 0) with
  accessFlags := 1537
  interfaces := #[]
  cf := some (fileOf pool4 2 #[] #[] 1537 4 #[] #[])
  fields := #[]
  methods := #[]
  instanceTypes := #[]
  staticTypes := #[]
  resolved := Array.replicate 8 none
  statics := none }

/-- the primitive byte -/
def k5 : Class := { plain "byte" none with kind := .primitive 'B', accessFlags := 0x411 }
/-- [B -/
def k6 : Class := { plain "[B" (some 0) with kind := .array 5 .byte, interfaces := #[3, 4], accessFlags := 1041 }

/-- the primitive int -/
def k7 : Class := { plain "int" none with kind := .primitive 'I', accessFlags := 0x411 }
/-- [I -/
def k8 : Class := { plain "[I" (some 0) with kind := .array 7 .int, interfaces := #[3, 4], accessFlags := 1041 }

def heap : Heap := #[]
def classes : Array Class := #[k0, k1, k2, k3, k4, k5, k6, k7, k8]
def interned : List (Array UInt16 × Addr) := []
def slotsUsed : Nat := 0
def theMethod : MethodId := ⟨1, 1⟩
def args0 : Array Value := #[.int 5, .int 7, .int 4]
def aboutOver (below : List Frame) : State where
  vm := { classes := classes, interned := interned.toArray }
  heap := heap
  slotsUsed := slotsUsed
  threads := #[{ frames := .invoking theMethod args0 :: below }]
def below0 : List Frame := [.native { method := ⟨0, 0⟩, args := #[] }]
def about1 : State := aboutOver below0
def p0 : Program := .bare "" "" ""
def e0 : Env := launch0.env 0 0 0
theorem w_frames : about1.frames = Frame.invoking theMethod args0 :: below0 := rfl
set_option maxRecDepth 65536 in
theorem w_args : argsFit about1.vm theMethod args0 = true := by decide +kernel
set_option maxRecDepth 65536 in
theorem w_heap : heapFits about1 = true := by decide +kernel
set_option maxRecDepth 65536 in
theorem w_runnable : about1.curStatus? = some .runnable := by decide +kernel
set_option maxRecDepth 65536 in
theorem w_alone : about1.alone = true := by decide +kernel
set_option maxRecDepth 65536 in
theorem w_named : about1.methodNamed? x = some theMethod := by decide +kernel
set_option maxRecDepth 65536 in
theorem w_hears : about1.hears theMethod below0 = true := by decide +kernel
set_option maxRecDepth 65536 in
theorem w_ripe : about1.ripe theMethod args0 below0 = true := by decide +kernel
theorem w_running : about1.status = .running := rfl
set_option maxRecDepth 65536 in
theorem w_room : about1.hasRoom e0.platform room_1 = true :=
  launch0.hasRoom_least _ room_1 (by decide +kernel) (by decide +kernel) (by decide +kernel) (by decide +kernel) (by decide +kernel) (by decide +kernel)
theorem allAtoms_all (ts : List Jvm.Cond) (a : Array Jvm.Value) (st : Jvm.State) : (allAtoms ts).before a st = ts.all (fun c => c.before a st) := by
  induction ts with
  | nil => rfl
  | cons c t ih =>
    show (Jvm.Cond.and c (allAtoms t)).before a st = _
    rw [Jvm.Cond.before_and, ih, List.all_cons]
def words1 : List Jvm.Cond := Jvm.Cond.code x code maxLocals ret :: tables_1
/-- a 'code' word, met by the world's own term for the bytes: nothing is compared byte by byte -/
theorem code_word {y : MethodName} {bytes : ByteArray} {mx : Nat} {rt : Option FieldType} {a : Array Value} {s : State} {m : MethodId} {meth : Method} {c : Code} (h1 : s.methodNamed? y = some m) (h2 : s.vm.method? m = some meth) (h3 : meth.code = some c) (h4 : c.code = bytes)
    (h5 : (c.maxLocals == mx && c.exceptionTable.isEmpty && decide (c.maxStack ≤ mostOperands) && decide (meth.sig.returnType = rt) && !meth.locks && decide (parseMethodDescriptor y.desc = some meth.sig)) = true) : (Jvm.Cond.code y bytes mx rt).before a s = true := by
  simp only [Bool.and_eq_true, beq_iff_eq, Bool.not_eq_true', decide_eq_true_eq] at h5
  obtain ⟨⟨⟨⟨⟨g1, g2⟩, g3⟩, g4⟩, g5⟩, g6⟩ := h5
  simp [Cond.before, Cond.holds, Cond.value, h1, h2, h3, h4, g1, g2, g3, g4, g5, g6]
def isCode : Jvm.Cond → Bool
  | .code _ _ _ _ => true
  | _ => false
theorem all_split {L : List Jvm.Cond} {P : Jvm.Cond → Bool} (h1 : L.all (fun c => isCode c || P c) = true) (h2 : ∀ c ∈ L.filter isCode, P c = true) : L.all P = true := by
  refine List.all_eq_true.mpr fun c hc => ?_
  have h := List.all_eq_true.mp h1 c hc
  rcases Bool.eq_false_or_eq_true (isCode c) with hi | hi
  · exact h2 c (List.mem_filter.mpr ⟨hc, hi⟩)
  · simpa [hi] using h
set_option maxRecDepth 65536 in
theorem w_c0 : (Jvm.Cond.code x code maxLocals ret).before args0 about1 = true := code_word (m := ⟨1, 1⟩) (meth := k1m1) (c := k1c1) (by decide +kernel) rfl rfl rfl (by decide +kernel)
set_option maxRecDepth 65536 in
theorem w_c1 : (Jvm.Cond.code ({ cls := "com/example/shingle/shingle/similarity/LshIndex", name := "checkShape", desc := "(II)V" } : Jvm.MethodName) prog_32_method_7_code (2 : Nat) (Option.none : Option Jvm.ClassFile.FieldType)).before args0 about1 = true := code_word (m := ⟨2, 0⟩) (meth := k2m0) (c := k2c0) (by decide +kernel) rfl rfl rfl (by decide +kernel)
def codes1 : List Jvm.Cond := [Jvm.Cond.code x code maxLocals ret, Jvm.Cond.code ({ cls := "com/example/shingle/shingle/similarity/LshIndex", name := "checkShape", desc := "(II)V" } : Jvm.MethodName) prog_32_method_7_code (2 : Nat) (Option.none : Option Jvm.ClassFile.FieldType)]
set_option maxRecDepth 65536 in
theorem codes_eq : words1.filter isCode = codes1 := rfl
theorem w_codes : ∀ c ∈ words1.filter isCode, c.before args0 about1 = true := by
  rw [codes_eq]
  intro c hc
  simp only [codes1, List.mem_cons, List.not_mem_nil, or_false] at hc
  rcases hc with rfl | rfl
  · exact w_c0
  · exact w_c1
set_option maxRecDepth 65536 in
theorem w_t1 : words1.all (fun c => isCode c || c.before args0 about1) = true := by decide +kernel
theorem w_tables : (allAtoms (Jvm.Cond.code x code maxLocals ret :: tables_1)).before args0 about1 = true := by
  rw [allAtoms_all]
  show words1.all (fun c => c.before args0 about1) = true
  refine all_split ?_ w_codes
  rw [w_t1]
set_option maxRecDepth 65536 in
theorem w_case : (Jvm.Cond.and given_1 narrow_1).before args0 about1 = true := by decide +kernel
theorem w_applies : (headSpec (Jvm.Cond.code x code maxLocals ret :: tables_1) room_1).applies x e0.platform about1 = true :=
  (Spec.applies_iff w_frames).mpr ⟨w_running, w_runnable, w_alone, w_named, w_hears, w_ripe, w_room, w_tables⟩
theorem atStart : AtStart classFile x code maxLocals ret World_1 tables_1 room_1 Calls_1 rest_1 Pre_1 launch0 p0 e0 about1 theMethod args0 below0 :=
  ⟨lists_1, trivial, launch0.admits_env _ _ _, launch0.least_env, fairChoices_fair.cas, fairChoices_fair.clock, w_frames, w_args, w_heap, w_applies, trivial, trivial, w_case⟩
end start1
theorem witness_1 : WitnessClaimed_1 := ⟨start1.p0, start1.e0, start1.about1, start1.theMethod, start1.args0, start1.below0, start1.atStart⟩
end Jvm.Pilot.@@N@@

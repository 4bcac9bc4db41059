import JvmDerived
import JvmDerived.Pilot.@@N@@Statement
import JvmDerived.Pilot.@@N@@Code
set_option linter.unusedVariables false
set_option linter.unusedSimpArgs false
namespace Jvm.RoadKit
open Sem ClassFile Op Lib Jvm.Stand Jvm.Free Jvm.LawKit
section New
variable {p : Program} {l : Launch} {e : Env} {R : Room} {s : State} {m : MethodId} {args : Array Value} {below : List Frame} {meth : Method} {c : Code} {T : State} {locs : List Loc} {cells slots : Nat}
theorem retI (X : Stand p l e R s m args below meth c T locs cells slots) (hx : p.tables.exec = Jvm.exec) {pc : Nat} {Ls : Array Slot} {z : Int32} {rest : List Value} (hret : meth.sig.returnType = some .int) (hd : decode c.code pc = .ok (.ireturn, 1)) {fs : List Frame}
    (hl : ∀ (f : JFrame) (acts : List Action), f.method = m → f.locked = none → f.entered = [] → (doReturn e (T.setTop f) acts (some (.int z))).1 = T.setFrames fs) : Steps p.tables e below (T.setTop (mkF m pc Ls (.int z :: rest))) (T.setFrames fs) := by
  have hm' : T.vm.method? m = some meth := X.method'
  have hn : narrow .int (.int z) = .int z := rfl
  show Steps p.tables e below (T.setTop { method := m, pc := pc, locals := Ls, stack := _ :: rest, locked := none }) _
  jvm_step X.here [X.here.top, hx, hd, hm', hret, hn]
  first | (intro acts; rw [hl _ acts rfl rfl rfl]) | rw [hl _ _ rfl rfl rfl]
  exact Steps.refl _
end New
end Jvm.RoadKit
namespace Jvm.Pilot.@@N@@
open Jvm Jvm.ClassFile Sem Op Lib Jvm.Free Jvm.Stand Jvm.LawKit Jvm.RoadKit Bundle Jvm.Pilot.@@N@@.Jvm.D
/-! own: the rest of a run, told backwards; the contract of a body; steps and calls -/
section OwnBase
variable {p : Program} {l : Launch} {e : Env} {R : Room} {s : State} {m : MethodId} {args : Array Value} {below : List Frame} {meth : Method} {c : Code} {T : State} {locs : List Loc} {cells slots : Nat} {Z : State} {a0 : Array Value} {h : Heap} {bs : ByteArray} {pc q : Nat} {Ls : Array Slot} {S : List Value} {G : State → Prop}
abbrev PQ := Option Value → Heap → List Loc → Prop
def Cl (p : Program) (e : Env) (below : List Frame) (G : State → Prop) : Prop := ∀ (A B : State), (∀ t, Steps p.tables e below B t → Steps p.tables e below A t) → G B → G A
def Go (p : Program) (e : Env) (below : List Frame) (s : State) (C N : Nat) (Q : PQ) (A : State) : Prop :=
  ∃ s₂ o, Steps p.tables e below A s₂ ∧ s₂.status = .running ∧ Ended s₂ below o ∧ ∃ v L, o = .returned v ∧ Q v s₂.heap L ∧ FrameEnd s o s₂ L C N
theorem Go.cl {C N : Nat} {Q : PQ} : Cl p e below (Go p e below s C N Q) := fun A B k ⟨s2, o, h1, r⟩ => ⟨s2, o, k _ h1, r⟩
theorem Go.with {C N : Nat} {Q : PQ} {A : State} (k : Cl p e below (Go p e below s C N Q) → Go p e below s C N Q A) : Go p e below s C N Q A := k Go.cl
theorem Go.leave (X : Stand p l e R s m args below meth c T locs cells slots) {v : Option Value} (hv : meth.sig.returnType = none → v = none) (hlk : meth.locks = false) {C N : Nat} {Q : PQ} (hc : cells ≤ C) (hn : slots ≤ N) (q : Q v T.heap locs) {A : State}
    (k : ∀ fs, (∀ (f : JFrame) (acts : List Action), f.method = m → f.locked = none → f.entered = [] → (doReturn e (T.setTop f) acts v).1 = T.setFrames fs) → Steps p.tables e below A (T.setFrames fs)) : Go p e below s C N Q A := by
  obtain ⟨fs, hr, hrun, hended, hW, hsame⟩ := X.leave hv hlk
  exact ⟨_, _, k fs hr, hrun, hended, _, _, rfl, q, ⟨_, rfl⟩, hW, hsame.mono hc hn⟩
theorem Go.retI (X : Stand p l e R s m args below meth c T locs cells slots) (hx : p.tables.exec = Jvm.exec) (hby : c.code = bs) (hlk : meth.locks = false) {z : Int32} (hret : meth.sig.returnType = some .int) (hd : decode bs pc = .ok (.ireturn, 1)) {C N : Nat} {Q : PQ} (hc : cells ≤ C) (hn : slots ≤ N) (q : Q (some (.int z)) T.heap locs) :
    Go p e below s C N Q (T.setTop (mkF m pc Ls (.int z :: S))) :=
  Go.leave X (fun h => by rw [hret] at h; cases h) hlk hc hn q fun _ hr => Jvm.RoadKit.retI X hx hret (hb hby hd) hr
theorem Go.retN (X : Stand p l e R s m args below meth c T locs cells slots) (hx : p.tables.exec = Jvm.exec) (hby : c.code = bs) (hlk : meth.locks = false) {z : Int32} {t : FieldType} (hret : meth.sig.returnType = some t) (ht : t = .boolean ∨ t = .byte ∨ t = .char ∨ t = .short) (hd : decode bs pc = .ok (.ireturn, 1)) {C N : Nat} {Q : PQ} (hc : cells ≤ C) (hn : slots ≤ N) (hz : nar t z = z) (q : Q (some (.int z)) T.heap locs) :
    Go p e below s C N Q (T.setTop (mkF m pc Ls (.int z :: S))) :=
  Go.leave X (fun h => by rw [hret] at h; cases h) hlk hc hn q fun _ hr => Jvm.RoadKit.retN X hx hret ht (hb hby hd) (by rw [hz]; exact hr)
theorem Go.retV (X : Stand p l e R s m args below meth c T locs cells slots) (hx : p.tables.exec = Jvm.exec) (hby : c.code = bs) (hlk : meth.locks = false) (hret : meth.sig.returnType = none) (hd : decode bs pc = .ok (.return_, 1)) {C N : Nat} {Q : PQ} (hc : cells ≤ C) (hn : slots ≤ N) (q : Q none T.heap locs) :
    Go p e below s C N Q (T.setTop (mkF m pc Ls [])) :=
  Go.leave X (fun _ => rfl) hlk hc hn q fun _ hr => X.returnOut hx hret (hb hby hd) hr
theorem Go.retO (X : Stand p l e R s m args below meth c T locs cells slots) (hx : p.tables.exec = Jvm.exec) (hby : c.code = bs) (hlk : meth.locks = false) {w : Value} {t : FieldType} {i : Instr} (hret : meth.sig.returnType = some t) (hnw : narrow t w = w)
    (hi : (i = .ireturn ∧ (t = .int ∨ t = .boolean ∨ t = .byte ∨ t = .char ∨ t = .short) ∧ ∃ z, w = .int z) ∨ (i = .lreturn ∧ t = .long ∧ ∃ z, w = .long z) ∨ (i = .dreturn ∧ t = .double ∧ ∃ z, w = .double z) ∨ (i = .freturn ∧ t = .float ∧ ∃ z, w = .float z) ∨ (i = .areturn ∧ t.isReference = true ∧ w.isRef = true))
    (hd : decode bs pc = .ok (i, 1)) {C N : Nat} {Q : PQ} (hc : cells ≤ C) (hn : slots ≤ N) (q : Q (some w) T.heap locs) :
    Go p e below s C N Q (T.setTop (mkF m pc Ls (w :: S))) :=
  Go.leave X (fun h => by rw [hret] at h; cases h) hlk hc hn q fun _ hr => Jvm.RoadKit.retOut X hx hret hnw hi (hb hby hd) hr
/-- two roads meet: at a state like X's, at the heap h, with the frame g' -/
def Mx (X : Stand p l e R s m args below meth c T locs cells slots) (h : Heap) (g' : JFrame) (A : State) : Prop := ∃ T', Stand p l e R s m args below meth c T' locs cells slots ∧ T'.heap = h ∧ ∀ t, Steps p.tables e below (T'.setTop g') t → Steps p.tables e below A t
theorem Mx.cl {X : Stand p l e R s m args below meth c T locs cells slots} {g' : JFrame} : Cl p e below (Mx X h g') := fun A B k ⟨T', X', e', st⟩ => ⟨T', X', e', fun t r => k _ (st t r)⟩
theorem Mx.with {X : Stand p l e R s m args below meth c T locs cells slots} {g' : JFrame} {A : State} (k : Cl p e below (Mx X h g') → Mx X h g' A) : Mx X h g' A := k Mx.cl
theorem Mx.here {X : Stand p l e R s m args below meth c T locs cells slots} {g' : JFrame} {T' : State} (X' : Stand p l e R s m args below meth c T' locs cells slots) (e' : T'.heap = h) : Mx X h g' (T'.setTop g') := ⟨T', X', e', fun _ k => k⟩
theorem own_nar01 {z : Int32} (h : z = 0 ∨ z = 1) : nar .boolean z = z := by rcases h with rfl | rfl <;> rfl
theorem own_px (X : Stand p l e R s m args below meth c T (locs ++ []) (cells + 0) (slots + 0)) : Stand p l e R s m args below meth c T locs cells slots := by rw [List.append_nil] at X; exact X
theorem k_go (K : Cl p e below G) {A B : State} (st : ∀ t, Steps p.tables e below B t → Steps p.tables e below A t) (hr : G B) : G A := K A B st hr
theorem k_some (K : Cl p e below G) {w : Value} (hr : G (T.setTop (mkF m q Ls (w :: S)))) : G (T.setTop (mkF m q Ls ((some w).toList ++ S))) := hr
theorem k_none (K : Cl p e below G) (hr : G (T.setTop (mkF m q Ls S))) : G (T.setTop (mkF m q Ls ((none : Option Value).toList ++ S))) := hr
theorem own_irem (x y : Int32) : x - (x / y) * y = x % y := by
  apply Int32.toInt_inj.mp
  have h1 := Int32.le_toInt (x % y)
  have h2 := Int32.toInt_lt (x % y)
  rw [Int32.toInt_sub, Int32.toInt_mul, Int32.toInt_div, Int.bmod_mul_bmod, Int.sub_bmod_bmod, Int.mul_comm (x.toInt.tdiv y.toInt), ← Int.tmod_def, ← Int32.toInt_mod]
  exact Int.bmod_eq_of_le_mul_two (by omega) (by omega)
theorem m_iload (K : Cl p e below G) (h : At T m c below) (hx : p.tables.exec = Jvm.exec) (hby : c.code = bs) {k : Nat} {v : Int32} (hd : decode bs pc = .ok (.iload k, 2)) (hl : Ls[k]? = some (.val (.int v))) (hq : pc + 2 = q) (hr : G (T.setTop (mkF m q Ls (.int v :: S)))) : G (T.setTop (mkF m pc Ls S)) := by subst hq; exact K _ _ (fun t k => Jvm.Free.XS.iload h hx rfl (hb hby hd) hl k) hr
theorem m_iloadN (K : Cl p e below G) (h : At T m c below) (hx : p.tables.exec = Jvm.exec) (hby : c.code = bs) {k : Fin 4} {v : Int32} (hd : decode bs pc = .ok (.iload_n k, 1)) (hl : Ls[k.val]? = some (.val (.int v))) (hq : pc + 1 = q) (hr : G (T.setTop (mkF m q Ls (.int v :: S)))) : G (T.setTop (mkF m pc Ls S)) := by subst hq; exact K _ _ (fun t k => Jvm.Free.XS.iloadN h hx rfl (hb hby hd) hl k) hr
theorem m_istore (K : Cl p e below G) (h : At T m c below) (hx : p.tables.exec = Jvm.exec) (hby : c.code = bs) {k : Nat} {v : Int32} (l' : Array Slot) (hd : decode bs pc = .ok (.istore k, 2)) (hl : storeLocals Ls k (.int v) = some l') (hq : pc + 2 = q) (hr : G (T.setTop (mkF m q l' S))) : G (T.setTop (mkF m pc Ls (.int v :: S))) := by subst hq; exact K _ _ (fun t k => Jvm.Free.XS.istore h hx rfl (hb hby hd) rfl hl k) hr
theorem m_istoreN (K : Cl p e below G) (h : At T m c below) (hx : p.tables.exec = Jvm.exec) (hby : c.code = bs) {k : Fin 4} {v : Int32} (l' : Array Slot) (hd : decode bs pc = .ok (.istore_n k, 1)) (hl : storeLocals Ls k.val (.int v) = some l') (hq : pc + 1 = q) (hr : G (T.setTop (mkF m q l' S))) : G (T.setTop (mkF m pc Ls (.int v :: S))) := by subst hq; exact K _ _ (fun t k => Jvm.Free.XS.istoreN h hx rfl (hb hby hd) rfl hl k) hr
theorem m_lload (K : Cl p e below G) (h : At T m c below) (hx : p.tables.exec = Jvm.exec) (hby : c.code = bs) {k : Nat} {v : Int64} (hd : decode bs pc = .ok (.lload k, 2)) (hl : Ls[k]? = some (.val (.long v))) (hq : pc + 2 = q) (hr : G (T.setTop (mkF m q Ls (.long v :: S)))) : G (T.setTop (mkF m pc Ls S)) := by subst hq; exact K _ _ (fun t k => Jvm.Free.XS.lload h hx rfl (hb hby hd) hl k) hr
theorem m_lloadN (K : Cl p e below G) (h : At T m c below) (hx : p.tables.exec = Jvm.exec) (hby : c.code = bs) {k : Fin 4} {v : Int64} (hd : decode bs pc = .ok (.lload_n k, 1)) (hl : Ls[k.val]? = some (.val (.long v))) (hq : pc + 1 = q) (hr : G (T.setTop (mkF m q Ls (.long v :: S)))) : G (T.setTop (mkF m pc Ls S)) := by subst hq; exact K _ _ (fun t k => Jvm.Free.XS.lloadN h hx rfl (hb hby hd) hl k) hr
theorem m_lstore (K : Cl p e below G) (h : At T m c below) (hx : p.tables.exec = Jvm.exec) (hby : c.code = bs) {k : Nat} {v : Int64} (l' : Array Slot) (hd : decode bs pc = .ok (.lstore k, 2)) (hl : storeLocals Ls k (.long v) = some l') (hq : pc + 2 = q) (hr : G (T.setTop (mkF m q l' S))) : G (T.setTop (mkF m pc Ls (.long v :: S))) := by subst hq; exact K _ _ (fun t k => Jvm.Free.XS.lstore h hx rfl (hb hby hd) rfl hl k) hr
theorem m_lstoreN (K : Cl p e below G) (h : At T m c below) (hx : p.tables.exec = Jvm.exec) (hby : c.code = bs) {k : Fin 4} {v : Int64} (l' : Array Slot) (hd : decode bs pc = .ok (.lstore_n k, 1)) (hl : storeLocals Ls k.val (.long v) = some l') (hq : pc + 1 = q) (hr : G (T.setTop (mkF m q l' S))) : G (T.setTop (mkF m pc Ls (.long v :: S))) := by subst hq; exact K _ _ (fun t k => Jvm.Free.XS.lstoreN h hx rfl (hb hby hd) rfl hl k) hr
theorem m_dload (K : Cl p e below G) (h : At T m c below) (hx : p.tables.exec = Jvm.exec) (hby : c.code = bs) {k : Nat} {v : UInt64} (hd : decode bs pc = .ok (.dload k, 2)) (hl : Ls[k]? = some (.val (.double v))) (hq : pc + 2 = q) (hr : G (T.setTop (mkF m q Ls (.double v :: S)))) : G (T.setTop (mkF m pc Ls S)) := by subst hq; exact K _ _ (fun t k => Jvm.Free.XS.dload h hx rfl (hb hby hd) hl k) hr
theorem m_dloadN (K : Cl p e below G) (h : At T m c below) (hx : p.tables.exec = Jvm.exec) (hby : c.code = bs) {k : Fin 4} {v : UInt64} (hd : decode bs pc = .ok (.dload_n k, 1)) (hl : Ls[k.val]? = some (.val (.double v))) (hq : pc + 1 = q) (hr : G (T.setTop (mkF m q Ls (.double v :: S)))) : G (T.setTop (mkF m pc Ls S)) := by subst hq; exact K _ _ (fun t k => Jvm.Free.XS.dloadN h hx rfl (hb hby hd) hl k) hr
theorem m_dstore (K : Cl p e below G) (h : At T m c below) (hx : p.tables.exec = Jvm.exec) (hby : c.code = bs) {k : Nat} {v : UInt64} (l' : Array Slot) (hd : decode bs pc = .ok (.dstore k, 2)) (hl : storeLocals Ls k (.double v) = some l') (hq : pc + 2 = q) (hr : G (T.setTop (mkF m q l' S))) : G (T.setTop (mkF m pc Ls (.double v :: S))) := by subst hq; exact K _ _ (fun t k => Jvm.Free.XS.dstore h hx rfl (hb hby hd) rfl hl k) hr
theorem m_dstoreN (K : Cl p e below G) (h : At T m c below) (hx : p.tables.exec = Jvm.exec) (hby : c.code = bs) {k : Fin 4} {v : UInt64} (l' : Array Slot) (hd : decode bs pc = .ok (.dstore_n k, 1)) (hl : storeLocals Ls k.val (.double v) = some l') (hq : pc + 1 = q) (hr : G (T.setTop (mkF m q l' S))) : G (T.setTop (mkF m pc Ls (.double v :: S))) := by subst hq; exact K _ _ (fun t k => Jvm.Free.XS.dstoreN h hx rfl (hb hby hd) rfl hl k) hr
theorem m_aload (K : Cl p e below G) (h : At T m c below) (hx : p.tables.exec = Jvm.exec) (hby : c.code = bs) {k : Nat} {v : Value} (hd : decode bs pc = .ok (.aload k, 2)) (hl : Ls[k]? = some (.val v)) (hv : v.isRef = true) (hq : pc + 2 = q) (hr : G (T.setTop (mkF m q Ls (v :: S)))) : G (T.setTop (mkF m pc Ls S)) := by subst hq; exact K _ _ (fun t k => Jvm.Free.XS.aload h hx rfl (hb hby hd) hl hv k) hr
theorem m_aloadN (K : Cl p e below G) (h : At T m c below) (hx : p.tables.exec = Jvm.exec) (hby : c.code = bs) {k : Fin 4} {v : Value} (hd : decode bs pc = .ok (.aload_n k, 1)) (hl : Ls[k.val]? = some (.val v)) (hv : v.isRef = true) (hq : pc + 1 = q) (hr : G (T.setTop (mkF m q Ls (v :: S)))) : G (T.setTop (mkF m pc Ls S)) := by subst hq; exact K _ _ (fun t k => Jvm.Free.XS.aloadN h hx rfl (hb hby hd) hl hv k) hr
theorem m_astore (K : Cl p e below G) (h : At T m c below) (hx : p.tables.exec = Jvm.exec) (hby : c.code = bs) {k : Nat} {v : Value} (l' : Array Slot) (hd : decode bs pc = .ok (.astore k, 2)) (hv : v.isRef = true) (hl : storeLocals Ls k v = some l') (hq : pc + 2 = q) (hr : G (T.setTop (mkF m q l' S))) : G (T.setTop (mkF m pc Ls (v :: S))) := by subst hq; exact K _ _ (fun t k => Jvm.Free.XS.astore h hx rfl (hb hby hd) rfl hv hl k) hr
theorem m_astoreN (K : Cl p e below G) (h : At T m c below) (hx : p.tables.exec = Jvm.exec) (hby : c.code = bs) {k : Fin 4} {v : Value} (l' : Array Slot) (hd : decode bs pc = .ok (.astore_n k, 1)) (hv : v.isRef = true) (hl : storeLocals Ls k.val v = some l') (hq : pc + 1 = q) (hr : G (T.setTop (mkF m q l' S))) : G (T.setTop (mkF m pc Ls (v :: S))) := by subst hq; exact K _ _ (fun t k => Jvm.Free.XS.astoreN h hx rfl (hb hby hd) rfl hv hl k) hr
theorem m_iconst (K : Cl p e below G) (h : At T m c below) (hx : p.tables.exec = Jvm.exec) (hby : c.code = bs) {i : Int} (z : Int32) (hd : decode bs pc = .ok (.iconst i, 1)) (hz : Int32.ofInt i = z) (hq : pc + 1 = q) (hr : G (T.setTop (mkF m q Ls (.int z :: S)))) : G (T.setTop (mkF m pc Ls S)) := by subst hq; subst hz; exact K _ _ (fun t k => Jvm.Free.XS.iconst h hx rfl (hb hby hd) k) hr
theorem m_bipush (K : Cl p e below G) (h : At T m c below) (hx : p.tables.exec = Jvm.exec) (hby : c.code = bs) {i : Int} (z : Int32) (hd : decode bs pc = .ok (.bipush i, 2)) (hz : (Int8.ofInt i).toInt32 = z) (hq : pc + 2 = q) (hr : G (T.setTop (mkF m q Ls (.int z :: S)))) : G (T.setTop (mkF m pc Ls S)) := by subst hq; subst hz; exact K _ _ (fun t k => Jvm.Free.XS.bipush h hx rfl (hb hby hd) k) hr
theorem m_sipush (K : Cl p e below G) (h : At T m c below) (hx : p.tables.exec = Jvm.exec) (hby : c.code = bs) {i : Int} (z : Int32) (hd : decode bs pc = .ok (.sipush i, 3)) (hz : (Int16.ofInt i).toInt32 = z) (hq : pc + 3 = q) (hr : G (T.setTop (mkF m q Ls (.int z :: S)))) : G (T.setTop (mkF m pc Ls S)) := by subst hq; subst hz; exact K _ _ (fun t k => Jvm.Free.XS.sipush h hx rfl (hb hby hd) k) hr
theorem m_lconst (K : Cl p e below G) (h : At T m c below) (hx : p.tables.exec = Jvm.exec) (hby : c.code = bs) {k : Fin 2} (z : Int64) (hd : decode bs pc = .ok (.lconst k, 1)) (hz : Int64.ofNat k.val = z) (hq : pc + 1 = q) (hr : G (T.setTop (mkF m q Ls (.long z :: S)))) : G (T.setTop (mkF m pc Ls S)) := by subst hq; subst hz; exact K _ _ (fun t k => Jvm.Free.XS.lconst h hx rfl (hb hby hd) k) hr
theorem m_null (K : Cl p e below G) (h : At T m c below) (hx : p.tables.exec = Jvm.exec) (hby : c.code = bs)  (hd : decode bs pc = .ok (.aconst_null, 1)) (hq : pc + 1 = q) (hr : G (T.setTop (mkF m q Ls (.null :: S)))) : G (T.setTop (mkF m pc Ls S)) := by subst hq; exact K _ _ (fun t k => Jvm.Free.XS.aconstNull h hx rfl (hb hby hd) k) hr
theorem m_iadd (K : Cl p e below G) (h : At T m c below) (hx : p.tables.exec = Jvm.exec) (hby : c.code = bs) {x y : Int32} (z : Int32) (hd : decode bs pc = .ok (.iadd, 1)) (hz : x + y = z) (hq : pc + 1 = q) (hr : G (T.setTop (mkF m q Ls (.int z :: S)))) : G (T.setTop (mkF m pc Ls (.int y :: .int x :: S))) := by subst hq; subst hz; exact K _ _ (fun t k => Jvm.Free.XS.iadd h hx rfl (hb hby hd) rfl k) hr
theorem m_isub (K : Cl p e below G) (h : At T m c below) (hx : p.tables.exec = Jvm.exec) (hby : c.code = bs) {x y : Int32} (z : Int32) (hd : decode bs pc = .ok (.isub, 1)) (hz : x - y = z) (hq : pc + 1 = q) (hr : G (T.setTop (mkF m q Ls (.int z :: S)))) : G (T.setTop (mkF m pc Ls (.int y :: .int x :: S))) := by subst hq; subst hz; exact K _ _ (fun t k => Jvm.Free.XS.isub h hx rfl (hb hby hd) rfl k) hr
theorem m_imul (K : Cl p e below G) (h : At T m c below) (hx : p.tables.exec = Jvm.exec) (hby : c.code = bs) {x y : Int32} (z : Int32) (hd : decode bs pc = .ok (.imul, 1)) (hz : x * y = z) (hq : pc + 1 = q) (hr : G (T.setTop (mkF m q Ls (.int z :: S)))) : G (T.setTop (mkF m pc Ls (.int y :: .int x :: S))) := by subst hq; subst hz; exact K _ _ (fun t k => Jvm.Free.XS.imul h hx rfl (hb hby hd) rfl k) hr
theorem m_iand (K : Cl p e below G) (h : At T m c below) (hx : p.tables.exec = Jvm.exec) (hby : c.code = bs) {x y : Int32} (z : Int32) (hd : decode bs pc = .ok (.iand, 1)) (hz : x &&& y = z) (hq : pc + 1 = q) (hr : G (T.setTop (mkF m q Ls (.int z :: S)))) : G (T.setTop (mkF m pc Ls (.int y :: .int x :: S))) := by subst hq; subst hz; exact K _ _ (fun t k => Jvm.Free.XS.iand h hx rfl (hb hby hd) rfl k) hr
theorem m_ior (K : Cl p e below G) (h : At T m c below) (hx : p.tables.exec = Jvm.exec) (hby : c.code = bs) {x y : Int32} (z : Int32) (hd : decode bs pc = .ok (.ior, 1)) (hz : x ||| y = z) (hq : pc + 1 = q) (hr : G (T.setTop (mkF m q Ls (.int z :: S)))) : G (T.setTop (mkF m pc Ls (.int y :: .int x :: S))) := by subst hq; subst hz; exact K _ _ (fun t k => Jvm.Free.XS.ior h hx rfl (hb hby hd) rfl k) hr
theorem m_ixor (K : Cl p e below G) (h : At T m c below) (hx : p.tables.exec = Jvm.exec) (hby : c.code = bs) {x y : Int32} (z : Int32) (hd : decode bs pc = .ok (.ixor, 1)) (hz : x ^^^ y = z) (hq : pc + 1 = q) (hr : G (T.setTop (mkF m q Ls (.int z :: S)))) : G (T.setTop (mkF m pc Ls (.int y :: .int x :: S))) := by subst hq; subst hz; exact K _ _ (fun t k => Jvm.Free.XS.ixor h hx rfl (hb hby hd) rfl k) hr
theorem m_idiv (K : Cl p e below G) (h : At T m c below) (hx : p.tables.exec = Jvm.exec) (hby : c.code = bs) {x y : Int32} (z : Int32) (hd : decode bs pc = .ok (.idiv, 1)) (hy : y ≠ 0) (hz : x / y = z) (hq : pc + 1 = q) (hr : G (T.setTop (mkF m q Ls (.int z :: S)))) : G (T.setTop (mkF m pc Ls (.int y :: .int x :: S))) := by subst hq; subst hz; exact K _ _ (fun t k => Jvm.Free.XS.idiv h hx rfl (hb hby hd) rfl hy k) hr
theorem m_ladd (K : Cl p e below G) (h : At T m c below) (hx : p.tables.exec = Jvm.exec) (hby : c.code = bs) {x y : Int64} (z : Int64) (hd : decode bs pc = .ok (.ladd, 1)) (hz : x + y = z) (hq : pc + 1 = q) (hr : G (T.setTop (mkF m q Ls (.long z :: S)))) : G (T.setTop (mkF m pc Ls (.long y :: .long x :: S))) := by subst hq; subst hz; exact K _ _ (fun t k => Jvm.Free.XS.ladd h hx rfl (hb hby hd) rfl k) hr
theorem m_lsub (K : Cl p e below G) (h : At T m c below) (hx : p.tables.exec = Jvm.exec) (hby : c.code = bs) {x y : Int64} (z : Int64) (hd : decode bs pc = .ok (.lsub, 1)) (hz : x - y = z) (hq : pc + 1 = q) (hr : G (T.setTop (mkF m q Ls (.long z :: S)))) : G (T.setTop (mkF m pc Ls (.long y :: .long x :: S))) := by subst hq; subst hz; exact K _ _ (fun t k => Jvm.Free.XS.lsub h hx rfl (hb hby hd) rfl k) hr
theorem m_lmul (K : Cl p e below G) (h : At T m c below) (hx : p.tables.exec = Jvm.exec) (hby : c.code = bs) {x y : Int64} (z : Int64) (hd : decode bs pc = .ok (.lmul, 1)) (hz : x * y = z) (hq : pc + 1 = q) (hr : G (T.setTop (mkF m q Ls (.long z :: S)))) : G (T.setTop (mkF m pc Ls (.long y :: .long x :: S))) := by subst hq; subst hz; exact K _ _ (fun t k => Jvm.Free.XS.lmul h hx rfl (hb hby hd) rfl k) hr
theorem m_land (K : Cl p e below G) (h : At T m c below) (hx : p.tables.exec = Jvm.exec) (hby : c.code = bs) {x y : Int64} (z : Int64) (hd : decode bs pc = .ok (.land, 1)) (hz : x &&& y = z) (hq : pc + 1 = q) (hr : G (T.setTop (mkF m q Ls (.long z :: S)))) : G (T.setTop (mkF m pc Ls (.long y :: .long x :: S))) := by subst hq; subst hz; exact K _ _ (fun t k => Jvm.Free.XS.land h hx rfl (hb hby hd) rfl k) hr
theorem m_lor (K : Cl p e below G) (h : At T m c below) (hx : p.tables.exec = Jvm.exec) (hby : c.code = bs) {x y : Int64} (z : Int64) (hd : decode bs pc = .ok (.lor, 1)) (hz : x ||| y = z) (hq : pc + 1 = q) (hr : G (T.setTop (mkF m q Ls (.long z :: S)))) : G (T.setTop (mkF m pc Ls (.long y :: .long x :: S))) := by subst hq; subst hz; exact K _ _ (fun t k => Jvm.Free.XS.lor h hx rfl (hb hby hd) rfl k) hr
theorem m_lxor (K : Cl p e below G) (h : At T m c below) (hx : p.tables.exec = Jvm.exec) (hby : c.code = bs) {x y : Int64} (z : Int64) (hd : decode bs pc = .ok (.lxor, 1)) (hz : x ^^^ y = z) (hq : pc + 1 = q) (hr : G (T.setTop (mkF m q Ls (.long z :: S)))) : G (T.setTop (mkF m pc Ls (.long y :: .long x :: S))) := by subst hq; subst hz; exact K _ _ (fun t k => Jvm.Free.XS.lxor h hx rfl (hb hby hd) rfl k) hr
theorem m_ldiv (K : Cl p e below G) (h : At T m c below) (hx : p.tables.exec = Jvm.exec) (hby : c.code = bs) {x y : Int64} (z : Int64) (hd : decode bs pc = .ok (.ldiv, 1)) (hy : y ≠ 0) (hz : x / y = z) (hq : pc + 1 = q) (hr : G (T.setTop (mkF m q Ls (.long z :: S)))) : G (T.setTop (mkF m pc Ls (.long y :: .long x :: S))) := by subst hq; subst hz; exact K _ _ (fun t k => Jvm.Free.XS.ldiv h hx rfl (hb hby hd) rfl hy k) hr
theorem m_irem (K : Cl p e below G) (h : At T m c below) (hx : p.tables.exec = Jvm.exec) (hby : c.code = bs) {x y : Int32} (z : Int32) (hd : decode bs pc = .ok (.irem, 1)) (hy : y ≠ 0) (hz : x % y = z) (hq : pc + 1 = q) (hr : G (T.setTop (mkF m q Ls (.int z :: S)))) : G (T.setTop (mkF m pc Ls (.int y :: .int x :: S))) := by subst hq; subst hz; rw [← own_irem] at hr; exact K _ _ (fun t k => Jvm.Free.XS.irem h hx rfl (hb hby hd) rfl hy k) hr
theorem m_lrem (K : Cl p e below G) (h : At T m c below) (hx : p.tables.exec = Jvm.exec) (hby : c.code = bs) {x y : Int64} (z : Int64) (hd : decode bs pc = .ok (.lrem, 1)) (hy : y ≠ 0) (hz : x - (x / y) * y = z) (hq : pc + 1 = q) (hr : G (T.setTop (mkF m q Ls (.long z :: S)))) : G (T.setTop (mkF m pc Ls (.long y :: .long x :: S))) := by subst hq; subst hz; exact K _ _ (fun t k => Jvm.Free.XS.lrem h hx rfl (hb hby hd) rfl hy k) hr
theorem m_ishl (K : Cl p e below G) (h : At T m c below) (hx : p.tables.exec = Jvm.exec) (hby : c.code = bs) {x : Int32} {y : Int32} (z : Int32) (hd : decode bs pc = .ok (.ishl, 1)) (hz : x <<< (y &&& 31) = z) (hq : pc + 1 = q) (hr : G (T.setTop (mkF m q Ls (.int z :: S)))) : G (T.setTop (mkF m pc Ls (.int y :: .int x :: S))) := by subst hq; subst hz; exact K _ _ (fun t k => Jvm.Free.XS.ishl h hx rfl (hb hby hd) rfl k) hr
theorem m_ishr (K : Cl p e below G) (h : At T m c below) (hx : p.tables.exec = Jvm.exec) (hby : c.code = bs) {x : Int32} {y : Int32} (z : Int32) (hd : decode bs pc = .ok (.ishr, 1)) (hz : x >>> (y &&& 31) = z) (hq : pc + 1 = q) (hr : G (T.setTop (mkF m q Ls (.int z :: S)))) : G (T.setTop (mkF m pc Ls (.int y :: .int x :: S))) := by subst hq; subst hz; exact K _ _ (fun t k => Jvm.Free.XS.ishr h hx rfl (hb hby hd) rfl k) hr
theorem m_iushr (K : Cl p e below G) (h : At T m c below) (hx : p.tables.exec = Jvm.exec) (hby : c.code = bs) {x : Int32} {y : Int32} (z : Int32) (hd : decode bs pc = .ok (.iushr, 1)) (hz : (x.toUInt32 >>> (y &&& 31).toUInt32).toInt32 = z) (hq : pc + 1 = q) (hr : G (T.setTop (mkF m q Ls (.int z :: S)))) : G (T.setTop (mkF m pc Ls (.int y :: .int x :: S))) := by subst hq; subst hz; exact K _ _ (fun t k => Jvm.Free.XS.iushr h hx rfl (hb hby hd) rfl k) hr
theorem m_lshl (K : Cl p e below G) (h : At T m c below) (hx : p.tables.exec = Jvm.exec) (hby : c.code = bs) {x : Int64} {y : Int32} (z : Int64) (hd : decode bs pc = .ok (.lshl, 1)) (hz : x <<< (y &&& 0x3f).toInt64 = z) (hq : pc + 1 = q) (hr : G (T.setTop (mkF m q Ls (.long z :: S)))) : G (T.setTop (mkF m pc Ls (.int y :: .long x :: S))) := by subst hq; subst hz; exact K _ _ (fun t k => Jvm.Free.XS.lshl h hx rfl (hb hby hd) rfl k) hr
theorem m_lshr (K : Cl p e below G) (h : At T m c below) (hx : p.tables.exec = Jvm.exec) (hby : c.code = bs) {x : Int64} {y : Int32} (z : Int64) (hd : decode bs pc = .ok (.lshr, 1)) (hz : x >>> (y &&& 0x3f).toInt64 = z) (hq : pc + 1 = q) (hr : G (T.setTop (mkF m q Ls (.long z :: S)))) : G (T.setTop (mkF m pc Ls (.int y :: .long x :: S))) := by subst hq; subst hz; exact K _ _ (fun t k => Jvm.Free.XS.lshr h hx rfl (hb hby hd) rfl k) hr
theorem m_lushr (K : Cl p e below G) (h : At T m c below) (hx : p.tables.exec = Jvm.exec) (hby : c.code = bs) {x : Int64} {y : Int32} (z : Int64) (hd : decode bs pc = .ok (.lushr, 1)) (hz : (x.toUInt64 >>> (y &&& 0x3f).toInt64.toUInt64).toInt64 = z) (hq : pc + 1 = q) (hr : G (T.setTop (mkF m q Ls (.long z :: S)))) : G (T.setTop (mkF m pc Ls (.int y :: .long x :: S))) := by subst hq; subst hz; exact K _ _ (fun t k => Jvm.Free.XS.lushr h hx rfl (hb hby hd) rfl k) hr
theorem m_ineg (K : Cl p e below G) (h : At T m c below) (hx : p.tables.exec = Jvm.exec) (hby : c.code = bs) {x : Int32} (z : Int32) (hd : decode bs pc = .ok (.ineg, 1)) (hz : -x = z) (hq : pc + 1 = q) (hr : G (T.setTop (mkF m q Ls (.int z :: S)))) : G (T.setTop (mkF m pc Ls (.int x :: S))) := by subst hq; subst hz; exact K _ _ (fun t k => Jvm.Free.XS.ineg h hx rfl (hb hby hd) rfl k) hr
theorem m_lneg (K : Cl p e below G) (h : At T m c below) (hx : p.tables.exec = Jvm.exec) (hby : c.code = bs) {x : Int64} (z : Int64) (hd : decode bs pc = .ok (.lneg, 1)) (hz : -x = z) (hq : pc + 1 = q) (hr : G (T.setTop (mkF m q Ls (.long z :: S)))) : G (T.setTop (mkF m pc Ls (.long x :: S))) := by subst hq; subst hz; exact K _ _ (fun t k => Jvm.Free.XS.lneg h hx rfl (hb hby hd) rfl k) hr
theorem m_i2l (K : Cl p e below G) (h : At T m c below) (hx : p.tables.exec = Jvm.exec) (hby : c.code = bs) {x : Int32} (z : Int64) (hd : decode bs pc = .ok (.i2l, 1)) (hz : x.toInt64 = z) (hq : pc + 1 = q) (hr : G (T.setTop (mkF m q Ls (.long z :: S)))) : G (T.setTop (mkF m pc Ls (.int x :: S))) := by subst hq; subst hz; exact K _ _ (fun t k => Jvm.Free.XS.i2l h hx rfl (hb hby hd) rfl k) hr
theorem m_l2i (K : Cl p e below G) (h : At T m c below) (hx : p.tables.exec = Jvm.exec) (hby : c.code = bs) {x : Int64} (z : Int32) (hd : decode bs pc = .ok (.l2i, 1)) (hz : x.toInt32 = z) (hq : pc + 1 = q) (hr : G (T.setTop (mkF m q Ls (.int z :: S)))) : G (T.setTop (mkF m pc Ls (.long x :: S))) := by subst hq; subst hz; exact K _ _ (fun t k => Jvm.Free.XS.l2i h hx rfl (hb hby hd) rfl k) hr
theorem m_i2b (K : Cl p e below G) (h : At T m c below) (hx : p.tables.exec = Jvm.exec) (hby : c.code = bs) {x : Int32} (z : Int32) (hd : decode bs pc = .ok (.i2b, 1)) (hz : x.toInt8.toInt32 = z) (hq : pc + 1 = q) (hr : G (T.setTop (mkF m q Ls (.int z :: S)))) : G (T.setTop (mkF m pc Ls (.int x :: S))) := by subst hq; subst hz; exact K _ _ (fun t k => Jvm.Free.XS.i2b h hx rfl (hb hby hd) rfl k) hr
theorem m_i2s (K : Cl p e below G) (h : At T m c below) (hx : p.tables.exec = Jvm.exec) (hby : c.code = bs) {x : Int32} (z : Int32) (hd : decode bs pc = .ok (.i2s, 1)) (hz : x.toInt16.toInt32 = z) (hq : pc + 1 = q) (hr : G (T.setTop (mkF m q Ls (.int z :: S)))) : G (T.setTop (mkF m pc Ls (.int x :: S))) := by subst hq; subst hz; exact K _ _ (fun t k => Jvm.Free.XS.i2s h hx rfl (hb hby hd) rfl k) hr
theorem m_i2c (K : Cl p e below G) (h : At T m c below) (hx : p.tables.exec = Jvm.exec) (hby : c.code = bs) {x : Int32} (z : Int32) (hd : decode bs pc = .ok (.i2c, 1)) (hz : x.toUInt32.toUInt16.toUInt32.toInt32 = z) (hq : pc + 1 = q) (hr : G (T.setTop (mkF m q Ls (.int z :: S)))) : G (T.setTop (mkF m pc Ls (.int x :: S))) := by subst hq; subst hz; exact K _ _ (fun t k => Jvm.Free.XS.i2c h hx rfl (hb hby hd) rfl k) hr
theorem m_lcmp (K : Cl p e below G) (h : At T m c below) (hx : p.tables.exec = Jvm.exec) (hby : c.code = bs) {x y : Int64} (z : Int32) (hd : decode bs pc = .ok (.lcmp, 1)) (hz : lcmpW x y = z) (hq : pc + 1 = q) (hr : G (T.setTop (mkF m q Ls (.int z :: S)))) : G (T.setTop (mkF m pc Ls (.long y :: .long x :: S))) := by subst hq; subst hz; exact K _ _ (fun t k => Jvm.Free.XS.lcmp h hx rfl (hb hby hd) rfl k) hr
theorem m_iinc (K : Cl p e below G) (h : At T m c below) (hx : p.tables.exec = Jvm.exec) (hby : c.code = bs) {k : Nat} {i : Int} {x : Int32} (l' : Array Slot) (hd : decode bs pc = .ok (.iinc k i, 3)) (hl : Ls[k]? = some (.val (.int x))) (hl' : storeLocals Ls k (.int (x + Int32.ofInt i)) = some l') (hq : pc + 3 = q) (hr : G (T.setTop (mkF m q l' S))) : G (T.setTop (mkF m pc Ls S)) := by subst hq; exact K _ _ (fun t k => Jvm.Free.XS.iinc h hx rfl (hb hby hd) hl hl' k) hr
theorem m_dup (K : Cl p e below G) (h : At T m c below) (hx : p.tables.exec = Jvm.exec) (hby : c.code = bs) {v : Value} (hd : decode bs pc = .ok (.dup, 1)) (hv : v.category = 1) (hq : pc + 1 = q) (hr : G (T.setTop (mkF m q Ls (v :: v :: S)))) : G (T.setTop (mkF m pc Ls (v :: S))) := by subst hq; exact K _ _ (fun t k => Jvm.Free.XS.dup h hx rfl (hb hby hd) rfl hv k) hr
theorem m_dupX1 (K : Cl p e below G) (h : At T m c below) (hx : p.tables.exec = Jvm.exec) (hby : c.code = bs) {v w : Value} (hd : decode bs pc = .ok (.dup_x1, 1)) (hv : v.category = 1) (hw : w.category = 1) (hq : pc + 1 = q) (hr : G (T.setTop (mkF m q Ls (v :: w :: v :: S)))) : G (T.setTop (mkF m pc Ls (v :: w :: S))) := by subst hq; exact K _ _ (fun t k => Jvm.Free.XS.dupX1 h hx rfl (hb hby hd) rfl hv hw k) hr
theorem m_dup2 (K : Cl p e below G) (h : At T m c below) (hx : p.tables.exec = Jvm.exec) (hby : c.code = bs) {v w : Value} (hd : decode bs pc = .ok (.dup2, 1)) (hv : v.category = 1) (hw : w.category = 1) (hq : pc + 1 = q) (hr : G (T.setTop (mkF m q Ls (v :: w :: v :: w :: S)))) : G (T.setTop (mkF m pc Ls (v :: w :: S))) := by subst hq; refine K _ _ (fun t k => ?_) hr; cases v <;> cases w <;> simp [Value.category] at hv hw <;> (jvm_step h [h.top, hx, hb hby hd, Value.category]; exact k)
theorem m_dup2L (K : Cl p e below G) (h : At T m c below) (hx : p.tables.exec = Jvm.exec) (hby : c.code = bs) {v : Int64} (hd : decode bs pc = .ok (.dup2, 1)) (hq : pc + 1 = q) (hr : G (T.setTop (mkF m q Ls (.long v :: .long v :: S)))) : G (T.setTop (mkF m pc Ls (.long v :: S))) := by subst hq; refine K _ _ (fun t k => ?_) hr; jvm_step h [h.top, hx, hb hby hd, Value.category]; exact k
theorem m_pop (K : Cl p e below G) (h : At T m c below) (hx : p.tables.exec = Jvm.exec) (hby : c.code = bs) {v : Value} (hd : decode bs pc = .ok (.pop, 1)) (hv : v.category = 1) (hq : pc + 1 = q) (hr : G (T.setTop (mkF m q Ls S))) : G (T.setTop (mkF m pc Ls (v :: S))) := by subst hq; exact K _ _ (fun t k => Jvm.Free.XS.pop h hx rfl (hb hby hd) rfl hv k) hr
theorem m_goto (K : Cl p e below G) (h : At T m c below) (hx : p.tables.exec = Jvm.exec) (hby : c.code = bs)  {o : Int} (hd : decode bs pc = .ok (.goto o, 3)) (ho : 0 ≤ (pc : Int) + o) (hq : ((pc : Int) + o).toNat = q) (hr : G (T.setTop (mkF m q Ls S))) : G (T.setTop (mkF m pc Ls S)) := by exact K _ _ (fun t k => Jvm.Free.XS.goto h hx rfl rfl (hb hby hd) ho hq k) hr
theorem m_ifY (K : Cl p e below G) (h : At T m c below) (hx : p.tables.exec = Jvm.exec) (hby : c.code = bs) {cd : ClassFile.Cond} {x : Int32} {o : Int} (hd : decode bs pc = .ok (.ifCond cd o, 3)) (hc : ifCond.holds cd x = true) (ho : 0 ≤ (pc : Int) + o) (hq : ((pc : Int) + o).toNat = q) (hr : G (T.setTop (mkF m q Ls S))) : G (T.setTop (mkF m pc Ls (.int x :: S))) := by exact K _ _ (fun t k => Jvm.Free.XS.ifYes h hx rfl rfl (hb hby hd) rfl hc ho hq k) hr
theorem m_icmpY (K : Cl p e below G) (h : At T m c below) (hx : p.tables.exec = Jvm.exec) (hby : c.code = bs) {cd : ClassFile.Cond} {x y : Int32} {o : Int} (hd : decode bs pc = .ok (.if_icmp cd o, 3)) (hc : if_icmp.holds cd x y = true) (ho : 0 ≤ (pc : Int) + o) (hq : ((pc : Int) + o).toNat = q) (hr : G (T.setTop (mkF m q Ls S))) : G (T.setTop (mkF m pc Ls (.int y :: .int x :: S))) := by exact K _ _ (fun t k => Jvm.Free.XS.icmpYes h hx rfl rfl (hb hby hd) rfl hc ho hq k) hr
theorem m_nullY (K : Cl p e below G) (h : At T m c below) (hx : p.tables.exec = Jvm.exec) (hby : c.code = bs)  {o : Int} (hd : decode bs pc = .ok (.ifnull o, 3)) (ho : 0 ≤ (pc : Int) + o) (hq : ((pc : Int) + o).toNat = q) (hr : G (T.setTop (mkF m q Ls S))) : G (T.setTop (mkF m pc Ls (.null :: S))) := by exact K _ _ (fun t k => Jvm.Free.XS.ifnullYes h hx rfl rfl (hb hby hd) rfl ho hq k) hr
theorem m_nnY (K : Cl p e below G) (h : At T m c below) (hx : p.tables.exec = Jvm.exec) (hby : c.code = bs) {a : Addr} {o : Int} (hd : decode bs pc = .ok (.ifnonnull o, 3)) (ho : 0 ≤ (pc : Int) + o) (hq : ((pc : Int) + o).toNat = q) (hr : G (T.setTop (mkF m q Ls S))) : G (T.setTop (mkF m pc Ls (.ref a :: S))) := by exact K _ _ (fun t k => Jvm.Free.XS.ifnonnullYes h hx rfl rfl (hb hby hd) rfl ho hq k) hr
theorem m_ifN (K : Cl p e below G) (h : At T m c below) (hx : p.tables.exec = Jvm.exec) (hby : c.code = bs) {cd : ClassFile.Cond} {o : Int} {x : Int32} (hd : decode bs pc = .ok (.ifCond cd o, 3)) (hc : ifCond.holds cd x = false) (hq : pc + 3 = q) (hr : G (T.setTop (mkF m q Ls S))) : G (T.setTop (mkF m pc Ls (.int x :: S))) := by subst hq; exact K _ _ (fun t k => Jvm.Free.XS.ifNo h hx rfl (hb hby hd) rfl hc k) hr
theorem m_icmpN (K : Cl p e below G) (h : At T m c below) (hx : p.tables.exec = Jvm.exec) (hby : c.code = bs) {cd : ClassFile.Cond} {o : Int} {x y : Int32} (hd : decode bs pc = .ok (.if_icmp cd o, 3)) (hc : if_icmp.holds cd x y = false) (hq : pc + 3 = q) (hr : G (T.setTop (mkF m q Ls S))) : G (T.setTop (mkF m pc Ls (.int y :: .int x :: S))) := by subst hq; exact K _ _ (fun t k => Jvm.Free.XS.icmpNo h hx rfl (hb hby hd) rfl hc k) hr
theorem m_nullN (K : Cl p e below G) (h : At T m c below) (hx : p.tables.exec = Jvm.exec) (hby : c.code = bs) {o : Int} {a : Addr} (hd : decode bs pc = .ok (.ifnull o, 3)) (hq : pc + 3 = q) (hr : G (T.setTop (mkF m q Ls S))) : G (T.setTop (mkF m pc Ls (.ref a :: S))) := by subst hq; exact K _ _ (fun t k => Jvm.Free.XS.ifnullNo h hx rfl (hb hby hd) rfl k) hr
theorem m_nnN (K : Cl p e below G) (h : At T m c below) (hx : p.tables.exec = Jvm.exec) (hby : c.code = bs) {o : Int} (hd : decode bs pc = .ok (.ifnonnull o, 3)) (hq : pc + 3 = q) (hr : G (T.setTop (mkF m q Ls S))) : G (T.setTop (mkF m pc Ls (.null :: S))) := by subst hq; exact K _ _ (fun t k => Jvm.Free.XS.ifnonnullNo h hx rfl (hb hby hd) rfl k) hr
theorem m_acmp (K : Cl p e below G) (X : Stand p l e R s m args below meth c T locs cells slots) (hx : p.tables.exec = Jvm.exec) (hby : c.code = bs) {cd : ACond} {x y : Value} {o : Int} (same : Bool) (hd : decode bs pc = .ok (.if_acmp cd o, 3)) (h1 : x.isRef = true) (h2 : y.isRef = true) (hs : decide (x = y) = same) (ho : 0 ≤ (pc : Int) + o) (hq : q = if acV cd same = true then ((pc : Int) + o).toNat else pc + 3) (hr : G (T.setTop (mkF m q Ls S))) : G (T.setTop (mkF m pc Ls (y :: x :: S))) := K _ _ (fun t k => Jvm.RoadKit.acmp (g := mkF m pc Ls (y :: x :: S)) X hx rfl h1 h2 rfl (hb hby hd) rfl hs ho hq k) hr
theorem m_ldc (K : Cl p e below G) (X : Stand p l e R s m args below meth c T locs cells slots) (hx : p.tables.exec = Jvm.exec) (hby : c.code = bs) (hZ : Z.Warmed39 s.vm) {own : String} {i : Nat} {v : Int32} (hown : s.vm.findClass own = some m.cls) (w : (Jvm.Cond.constant own i v).before a0 Z = true) (hd : decode bs pc = .ok (.ldc i, 2)) (hq : pc + 2 = q) (hr : G (T.setTop (mkF m q Ls (.int v :: S)))) : G (T.setTop (mkF m pc Ls S)) := by subst hq; exact K _ _ (fun t k => X.ldcInt hx hown (mvT hZ w) (g := mkF m pc Ls S) rfl (hb hby hd) _ k) hr
theorem m_ldcw (K : Cl p e below G) (X : Stand p l e R s m args below meth c T locs cells slots) (hx : p.tables.exec = Jvm.exec) (hby : c.code = bs) (hZ : Z.Warmed39 s.vm) {own : String} {i : Nat} {v : Int32} (hown : s.vm.findClass own = some m.cls) (w : (Jvm.Cond.constant own i v).before a0 Z = true) (hd : decode bs pc = .ok (.ldc_w i, 3)) (hq : pc + 3 = q) (hr : G (T.setTop (mkF m q Ls (.int v :: S)))) : G (T.setTop (mkF m pc Ls S)) := by subst hq; exact K _ _ (fun t k => X.ldcwInt hx hown (mvT hZ w) (g := mkF m pc Ls S) rfl (hb hby hd) _ k) hr
theorem m_ldc2 (K : Cl p e below G) (X : Stand p l e R s m args below meth c T locs cells slots) (hx : p.tables.exec = Jvm.exec) (hby : c.code = bs) (hZ : Z.Warmed39 s.vm) {own : String} {i : Nat} {v : Int64} (hown : s.vm.findClass own = some m.cls) (w : (Jvm.Cond.constantLong own i v).before a0 Z = true) (hd : decode bs pc = .ok (.ldc2_w i, 3)) (hq : pc + 3 = q) (hr : G (T.setTop (mkF m q Ls (.long v :: S)))) : G (T.setTop (mkF m pc Ls S)) := by subst hq; exact K _ _ (fun t k => X.ldc2Long hx hown (mvT hZ w) (g := mkF m pc Ls S) rfl (hb hby hd) _ k) hr
theorem k_getF (K : Cl p e below G) (X : Stand p l e R s m args below meth c T locs cells slots) (hx : p.tables.exec = Jvm.exec) (hby : c.code = bs) (hZ : Z.Warmed39 s.vm) {own R0 O n d host : String} {i : Nat} (hown : s.vm.findClass own = some m.cls) (w : (Jvm.Cond.fieldLink own i R0 n d).before a0 Z = true ∨ (Jvm.Cond.fieldLinkNest own i R0 n d host).before a0 Z = true) (via : Via Z R0 O n d) (eT : T.heap = h) {a : Addr} {v : Value} (F : Fld Z h a O n d v) (hd : decode bs pc = .ok (.getfield i, 3)) (hq : pc + 3 = q) (k : ∀ T', Stand p l e R s m args below meth c T' locs cells slots → T'.heap = h → G (T'.setTop (mkF m q Ls (v :: S)))) : G (T.setTop (mkF m pc Ls (.ref a :: S))) := by
  subst hq
  obtain ⟨T', X', e', st⟩ := getF X hx hZ hown w via eT F (g := mkF m pc Ls (.ref a :: S)) rfl rfl (hb hby hd)
  exact K _ _ st (k T' X' e')
theorem k_getS (K : Cl p e below G) (X : Stand p l e R s m args below meth c T locs cells slots) (hx : p.tables.exec = Jvm.exec) (hby : c.code = bs) (hZ : Z.Warmed39 s.vm) {own R0 O n d host : String} {i : Nat} (hown : s.vm.findClass own = some m.cls) (w : (Jvm.Cond.fieldLink own i R0 n d).before a0 Z = true ∨ (Jvm.Cond.fieldLinkNest own i R0 n d host).before a0 Z = true) (via : Via Z R0 O n d) (eT : T.heap = h) {v : Value} (F : Sta Z h O n d v) (hd : decode bs pc = .ok (.getstatic i, 3)) (hq : pc + 3 = q) (k : ∀ T', Stand p l e R s m args below meth c T' locs cells slots → T'.heap = h → G (T'.setTop (mkF m q Ls (v :: S)))) : G (T.setTop (mkF m pc Ls S)) := by
  subst hq
  obtain ⟨T', X', e', st⟩ := getS2 X hx hZ hown w via eT F (g := mkF m pc Ls S) rfl (hb hby hd)
  exact K _ _ st (k T' X' e')
theorem k_putF (K : Cl p e below G) (X : Stand p l e R s m args below meth c T locs cells slots) (hx : p.tables.exec = Jvm.exec) (hby : c.code = bs) (hZ : Z.Warmed39 s.vm) {own R0 O n d host C : String} {i kk : Nat} {ty : FieldType} (hown : s.vm.findClass own = some m.cls) (w : (Jvm.Cond.fieldLink own i R0 n d).before a0 Z = true ∨ (Jvm.Cond.fieldLinkNest own i R0 n d host).before a0 Z = true) (via : Via Z R0 O n d) (eT : T.heap = h) {a : Addr} {v old : Value} (F : Fld Z h a O n d old) (E : Exa Z h a C) (L : (Jvm.Cond.lays C O n d).before a0 Z = true ∨ ((Jvm.Cond.laysFinal C O n d).before a0 Z = true ∧ own = O ∧ meth.name = "<init>")) (wi : (Jvm.Cond.instantiable C kk).before a0 Z = true) (hty : parseFieldDescriptor d = some ty) (hn : narrow ty v = v) (hf : fits ty v = true) (hd : decode bs pc = .ok (.putfield i, 3)) (hq : pc + 3 = q)
    (k : ∀ T' h', Stand p l e R s m args below meth c T' (locs ++ [⟨a, Jvm.RoadKit.slotOf Z O n d⟩]) cells slots → T'.heap = h' → Wr h h' a (Jvm.RoadKit.slotOf Z O n d) v → G (T'.setTop (mkF m q Ls S))) : G (T.setTop (mkF m pc Ls (v :: .ref a :: S))) := by
  subst hq
  obtain ⟨T', h', X', e', W', st⟩ := putF X hx hZ hown w via eT F E L wi hty hn hf (g := mkF m pc Ls (v :: .ref a :: S)) rfl rfl (hb hby hd)
  exact K _ _ st (k T' h' X' e' W')
theorem k_newO (K : Cl p e below G) (X : Stand p l e R s m args below meth c T locs cells slots) (hx : p.tables.exec = Jvm.exec) (hby : c.code = bs) (hZ : Z.Warmed39 s.vm) {own C : String} {i n : Nat} (hown : s.vm.findClass own = some m.cls) (w : (Jvm.Cond.classLink own i C).before a0 Z = true) (wi : (Jvm.Cond.instantiable C n).before a0 Z = true) (wz : (Jvm.Cond.initialized C).before a0 Z = true) (eT : T.heap = h) (hd : decode bs pc = .ok (.new i, 3)) (hq : pc + 3 = q) (hc : cells + 1 ≤ R.cells) (hl : slots + n ≤ R.slots)
    (k : ∀ T' h' b, Stand p l e R s m args below meth c T' locs (cells + 1) (slots + n) → T'.heap = h' → Ext h h' → b = h.size → Exa Z h' b C → (∀ {O nm d : String} {ty : FieldType}, Laid Z a0 C O nm d → parseFieldDescriptor d = some ty → Fld Z h' b O nm d (defaultValue ty)) → G (T'.setTop (mkF m q Ls (.ref b :: S)))) : G (T.setTop (mkF m pc Ls S)) := by
  subst hq
  obtain ⟨T', h', X', e', E', A', D', -, st⟩ := newO X hx hZ hown w wi wz eT (g := mkF m pc Ls S) rfl (hb hby hd) hc hl
  exact K _ _ st (k T' h' _ X' e' E' rfl A' D')
theorem k_initO (K : Cl p e below G) (X : Stand p l e R s m args below meth c T locs cells slots) (hx : p.tables.exec = Jvm.exec) (hby : c.code = bs) (hZ : Z.Warmed39 s.vm) {own : String} {i : Nat} (hown : s.vm.findClass own = some m.cls) (w1 : (Jvm.Cond.methodLink own i ⟨"java/lang/Object", "<init>", "()V"⟩).before a0 Z = true) (w2 : (Jvm.Cond.instanceMethod ⟨"java/lang/Object", "<init>", "()V"⟩).before a0 Z = true) (w3 : (Jvm.Cond.code ⟨"java/lang/Object", "<init>", "()V"⟩ object_method_1_code 1 none).before a0 Z = true) (eT : T.heap = h) {a : Addr} (hd : decode bs pc = .ok (.invokespecial i, 3)) (hsz : Ls.size = c.maxLocals) (hq : pc + 3 = q) (hf : 1 ≤ R.frames) (hlo : (S.map fun v => v.category).sum + 12 ≤ R.locals)
    (k : ∀ T', Stand p l e R s m args below meth c T' locs cells slots → T'.heap = h → G (T'.setTop (mkF m q Ls S))) : G (T.setTop (mkF m pc Ls (.ref a :: S))) := by
  subst hq
  obtain ⟨T', X', e', st⟩ := initO X hx hZ hown w1 w2 w3 eT (g := mkF m pc Ls (.ref a :: S)) rfl hsz rfl (hb hby hd) hf (W := (S.map fun v => v.category).sum) (by show 2 * 0 + _ ≤ _; exact Nat.le_of_eq (Nat.zero_add _)) hlo
  exact K _ _ st (k T' X' e')
theorem k_cast (K : Cl p e below G) (X : Stand p l e R s m args below meth c T locs cells slots) (hx : p.tables.exec = Jvm.exec) (hby : c.code = bs) (hZ : Z.Warmed39 s.vm) {own C : String} {i : Nat} (hown : s.vm.findClass own = some m.cls) (w : (Jvm.Cond.classLink own i C).before a0 Z = true) (eT : T.heap = h) {a : Addr} (I : Ins Z h a C true) (hd : decode bs pc = .ok (.checkcast i, 3)) (hq : pc + 3 = q) (k : ∀ T', Stand p l e R s m args below meth c T' locs cells slots → T'.heap = h → G (T'.setTop (mkF m q Ls (.ref a :: S)))) : G (T.setTop (mkF m pc Ls (.ref a :: S))) := by
  subst hq
  obtain ⟨T', X', e', st⟩ := castY X hx hZ hown w eT I (g := mkF m pc Ls (.ref a :: S)) rfl rfl (hb hby hd)
  exact K _ _ st (k T' X' e')
def Con (l : Launch) (Z : State) (y : MethodName) (bytes : ByteArray) (maxL : Nat) (ret : Option FieldType) (rm : Room) (ws : List Jvm.Cond) (as' : Array Value) (h : Heap) (Q : PQ) : Prop :=
  MetFree l y (head1 (Jvm.Cond.code y bytes maxL ret :: ws) rm) (fun a U => a = as' ∧ Z.Warmed39 U.vm ∧ U.heap = h) (fun _ _ _ _ _ => True) (fun _ U o U' => ∃ v L, o = .returned v ∧ Q v U'.heap L ∧ FrameEnd U o U' L rm.cells rm.slots)
theorem Con.of {y : MethodName} {bytes : ByteArray} {maxL : Nat} {ret : Option FieldType} {rm : Room} {ws : List Jvm.Cond} {as' : Array Value} {Q : PQ} (hpl : plainFor y = true) (Ls : Array Slot) (hef : ∀ m, entryFrame m as' maxL = mkF m 0 Ls [])
    (body : ∀ p e s m below meth c s₁, Cl p e below (Go p e below s rm.cells rm.slots Q) → p.tables.exec = Jvm.exec → c.code = bytes → c.maxLocals = maxL → s.vm.findClass y.cls = some m.cls → meth.name = y.name → meth.sig.returnType = ret → meth.locks = false → Z.Warmed39 s.vm → Stand p l e rm s m as' below meth c s₁ [] 0 0 → s₁.heap = h →
      Go p e below s rm.cells rm.slots Q (s₁.setTop (mkF m 0 Ls []))) : Con l Z y bytes maxL ret rm ws as' h Q := by
  refine MetFree.of_bodySF hpl hisR ?_
  intro p e s m args below meth c s₁ Bd hml0 hP hK
  obtain ⟨rfl, hZ, hh⟩ := hP
  have r := body p e s m below meth c s₁ Go.cl Bd.exec Bd.bytes hml0 (findClass_of_methodNamed Bd.named) (name_of_methodNamed Bd.named Bd.method).1 Bd.returns Bd.notSynchronized hZ (Stand.of_body Bd) (by rw [← hh, Bd.state]; rfl)
  rw [← hef m] at r
  exact r
theorem Con.back {y : MethodName} {bytes : ByteArray} {maxL : Nat} {ret : Option FieldType} {rm : Room} {as' : Array Value} {Q : PQ} {len W : Nat} (K : Con l Z y bytes maxL ret rm [] as' h Q)
    (hZ : Z.Warmed39 s.vm) (wc : (Jvm.Cond.code y bytes maxL ret).before a0 Z = true) (wz : (Jvm.Cond.initialized y.cls).before a0 Z = true) (hf : rm.frames + 1 ≤ R.frames) (hl : W + (maxL + 11) + rm.locals ≤ R.locals) :
    Back l R p e below s args y len W (fun A a => a = as' ∧ A.U.heap = h ∧ A.cells + rm.cells ≤ R.cells ∧ A.slots + rm.slots ≤ R.slots)
      (fun A _ v B => ∃ L, Q v B.U.heap L ∧ B.locs = A.locs ++ L ∧ B.cells = A.cells + rm.cells ∧ B.slots = A.slots + rm.slots) := backOf K hZ wc wz hf hl
theorem k_callS (K : Cl p e below G) (X : Stand p l e R s m args below meth c T locs cells slots) (hx : p.tables.exec = Jvm.exec) (hby : c.code = bs) (hZ : Z.Warmed39 s.vm) {own : String} {i : Nat} {y : MethodName} {bytes : ByteArray} {maxL : Nat} {ret : Option FieldType} {rm : Room} {Q : PQ} {as' : Array Value} {ps : List FieldType} {r : Option FieldType} (argsL rest : List Value) (hown : s.vm.findClass own = some m.cls) (w1 : (Jvm.Cond.methodLink own i y).before a0 Z = true) (w2 : (Jvm.Cond.static y).before a0 Z = true) (w3 : (Jvm.Cond.initialized y.cls).before a0 Z = true) (w4 : (Jvm.Cond.code y bytes maxL ret).before a0 Z = true)
    (C : Con l Z y bytes maxL ret rm [] as' h Q) (eT : T.heap = h) (has : argsL.toArray = as') (hs : S = argsL.reverse ++ rest) (hps : parseMethodDescriptor y.desc = some ⟨ps, r⟩) (hl : argsL.length = ps.length) (hd : decode bs pc = .ok (.invokestatic i, 3)) (hsz : Ls.size = c.maxLocals) (hq : pc + 3 = q) (hy : y.cls ≠ "java/lang/invoke/MethodHandle" ∧ y.cls ≠ "java/lang/invoke/VarHandle") (hf : rm.frames + 1 ≤ R.frames) (hlo : (rest.map fun v => v.category).sum + (maxL + 11) + rm.locals ≤ R.locals) (hc : cells + rm.cells ≤ R.cells) (hn : slots + rm.slots ≤ R.slots)
    (k : ∀ v T' L, Stand p l e R s m args below meth c T' (locs ++ L) (cells + rm.cells) (slots + rm.slots) → Q v T'.heap L → G (T'.setTop (mkF m q Ls (v.toList ++ rest)))) : G (T.setTop (mkF m pc Ls S)) := by
  subst has hs hq
  obtain ⟨v, _, ⟨T', L', k', n'⟩, -, X', ⟨Lc, hQ, l1, y1, z1⟩, st⟩ := Jvm.LawKit.callS X hx (y := y) hown (mvT hZ w1) (mvT hZ w2) (mvT hZ w3) (mvT hZ w4) hy (C.back (W := (rest.map fun v => v.category).sum) hZ w4 w3 hf hlo) (g := mkF m pc Ls (argsL.reverse ++ rest)) rfl hsz (argsL := argsL) (rest := rest) (lenOf hps hl) rfl (by show 2 * 0 + _ ≤ _; exact Nat.le_of_eq (Nat.zero_add _)) (hb hby hd) (fun _ _ => ⟨rfl, eT, hc, hn⟩)
  dsimp only at X' l1 y1 z1 st hQ
  subst l1 y1 z1
  exact K _ _ st (k v T' Lc X' hQ)
theorem k_callP (K : Cl p e below G) (X : Stand p l e R s m args below meth c T locs cells slots) (hx : p.tables.exec = Jvm.exec) (hby : c.code = bs) (hZ : Z.Warmed39 s.vm) {own : String} {i : Nat} {y : MethodName} {bytes : ByteArray} {maxL : Nat} {rm : Room} {Q : PQ} {as' : Array Value} {ps : List FieldType} {r : Option FieldType} (a : Addr) (argsL rest : List Value) (hown : s.vm.findClass own = some m.cls) (w1 : (Jvm.Cond.methodLink own i y).before a0 Z = true) (w2 : (Jvm.Cond.instanceMethod y).before a0 Z = true) (w3 : (Jvm.Cond.initialized y.cls).before a0 Z = true) (w4 : (Jvm.Cond.code y bytes maxL none).before a0 Z = true) (hy1 : y.name = "<init>")
    (C : Con l Z y bytes maxL none rm [] as' h Q) (eT : T.heap = h) (has : (.ref a :: argsL).toArray = as') (hs : S = argsL.reverse ++ .ref a :: rest) (hps : parseMethodDescriptor y.desc = some ⟨ps, r⟩) (hl : argsL.length = ps.length) (hd : decode bs pc = .ok (.invokespecial i, 3)) (hsz : Ls.size = c.maxLocals) (hq : pc + 3 = q) (hy : y.cls ≠ "java/lang/invoke/MethodHandle" ∧ y.cls ≠ "java/lang/invoke/VarHandle") (hf : rm.frames + 1 ≤ R.frames) (hlo : (rest.map fun v => v.category).sum + (maxL + 11) + rm.locals ≤ R.locals) (hc : cells + rm.cells ≤ R.cells) (hn : slots + rm.slots ≤ R.slots)
    (k : ∀ v T' L, Stand p l e R s m args below meth c T' (locs ++ L) (cells + rm.cells) (slots + rm.slots) → Q v T'.heap L → G (T'.setTop (mkF m q Ls (v.toList ++ rest)))) : G (T.setTop (mkF m pc Ls S)) := by
  subst has hs hq
  obtain ⟨v, _, ⟨T', L', k', n'⟩, -, X', ⟨Lc, hQ, l1, y1, z1⟩, st⟩ := X.specialBack hx (y := y) hy1 hown (mvT hZ w1) (mvT hZ w2) (mvT hZ w4) hy (C.back (W := (rest.map fun v => v.category).sum) hZ w4 w3 hf hlo) (g := mkF m pc Ls (argsL.reverse ++ .ref a :: rest)) rfl hsz (Steps.refl _) (a := a) (argsL := argsL) (rest := rest) (lenOf hps hl) rfl (by show 2 * 0 + _ ≤ _; exact Nat.le_of_eq (Nat.zero_add _)) (hb hby hd) (fun _ _ => ⟨rfl, eT, hc, hn⟩)
  dsimp only at X' l1 y1 z1 st hQ
  subst l1 y1 z1
  exact K _ _ (fun t k => st.trans k) (k v T' Lc X' hQ)
theorem k_callV (K : Cl p e below G) (X : Stand p l e R s m args below meth c T locs cells slots) (hx : p.tables.exec = Jvm.exec) (hby : c.code = bs) (hZ : Z.Warmed39 s.vm) {own : String} {i : Nat} {y : MethodName} {bytes : ByteArray} {maxL : Nat} {ret : Option FieldType} {rm : Room} {Q : PQ} {as' : Array Value} {ps : List FieldType} {r : Option FieldType} {z : MethodName} {C0 : String} (a : Addr) (argsL rest : List Value) (hown : s.vm.findClass own = some m.cls) (w1 : (Jvm.Cond.methodLink own i y).before a0 Z = true) (w2 : (Jvm.Cond.declares y).before a0 Z = true) (hnf : NotFace s y) (w5 : (Jvm.Cond.selects C0 y z).before a0 Z = true) (w6 : (Jvm.Cond.instanceMethod z).before a0 Z = true) (w3 : (Jvm.Cond.initialized z.cls).before a0 Z = true) (w4 : (Jvm.Cond.code z bytes maxL ret).before a0 Z = true)
    (C : Con l Z z bytes maxL ret rm [] as' h Q) (eT : T.heap = h) (E : Exa Z h a C0) (has : (.ref a :: argsL).toArray = as') (hs : S = argsL.reverse ++ .ref a :: rest) (hps : parseMethodDescriptor y.desc = some ⟨ps, r⟩) (hl : argsL.length = ps.length) (hd : decode bs pc = .ok (.invokevirtual i, 3)) (hsz : Ls.size = c.maxLocals) (hq : pc + 3 = q) (hy : y.cls ≠ "java/lang/invoke/MethodHandle" ∧ y.cls ≠ "java/lang/invoke/VarHandle") (hf : rm.frames + 1 ≤ R.frames) (hlo : (rest.map fun v => v.category).sum + (maxL + 11) + rm.locals ≤ R.locals) (hc : cells + rm.cells ≤ R.cells) (hn : slots + rm.slots ≤ R.slots)
    (k : ∀ v T' L, Stand p l e R s m args below meth c T' (locs ++ L) (cells + rm.cells) (slots + rm.slots) → Q v T'.heap L → G (T'.setTop (mkF m q Ls (v.toList ++ rest)))) : G (T.setTop (mkF m pc Ls S)) := by
  subst has hs hq
  obtain ⟨cq, kq, qa, qb, qc⟩ := isOf hZ eT E
  obtain ⟨v, _, ⟨T', L', k', n'⟩, -, X', ⟨Lc, hQ, l1, y1, z1⟩, st⟩ := X.virtualBack hx (y := y) (z := z) hown (mvT hZ w1) (mvT hZ w2) hnf (mvT hZ w5) (mvT hZ w6) hy (C.back (W := (rest.map fun v => v.category).sum) hZ w4 w3 hf hlo) qa qc (g := mkF m pc Ls (argsL.reverse ++ .ref a :: rest)) rfl hsz (Steps.refl _) (argsL := argsL) (rest := rest) (lenOf hps hl) rfl (by show 2 * 0 + _ ≤ _; exact Nat.le_of_eq (Nat.zero_add _)) (hb hby hd) (fun _ _ => ⟨rfl, eT, hc, hn⟩)
  dsimp only at X' l1 y1 z1 st hQ
  subst l1 y1 z1
  exact K _ _ (fun t k => st.trans k) (k v T' Lc X' hQ)
theorem k_callI (K : Cl p e below G) (X : Stand p l e R s m args below meth c T locs cells slots) (hx : p.tables.exec = Jvm.exec) (hby : c.code = bs) (hZ : Z.Warmed39 s.vm) {own : String} {i : Nat} {y : MethodName} {bytes : ByteArray} {maxL : Nat} {ret : Option FieldType} {rm : Room} {Q : PQ} {as' : Array Value} {ps : List FieldType} {r : Option FieldType} {z : MethodName} {C0 : String} {cnt : Nat} (a : Addr) (argsL rest : List Value) (hown : s.vm.findClass own = some m.cls) (w1 : (Jvm.Cond.methodLink own i y).before a0 Z = true) (w2 : (Jvm.Cond.declares y).before a0 Z = true) (w7 : (Jvm.Cond.interfaceMethod y.cls y.cls y.name y.desc).before args s = true) (w5 : (Jvm.Cond.selects C0 y z).before a0 Z = true) (w6 : (Jvm.Cond.instanceMethod z).before a0 Z = true) (w8 : (Jvm.Cond.publicMethod z).before a0 Z = true) (w9 : (Jvm.Cond.unhidden C0 y.name y.desc).before a0 Z = true) (wa : (Jvm.Cond.castable C0 y.cls).before a0 Z = true) (w3 : (Jvm.Cond.initialized z.cls).before a0 Z = true) (w4 : (Jvm.Cond.code z bytes maxL ret).before a0 Z = true)
    (C : Con l Z z bytes maxL ret rm [] as' h Q) (eT : T.heap = h) (E : Exa Z h a C0) (has : (.ref a :: argsL).toArray = as') (hs : S = argsL.reverse ++ .ref a :: rest) (hps : parseMethodDescriptor y.desc = some ⟨ps, r⟩) (hl : argsL.length = ps.length) (hd : decode bs pc = .ok (.invokeinterface i cnt, 5)) (hsz : Ls.size = c.maxLocals) (hq : pc + 5 = q) (hy : y.cls ≠ "java/lang/invoke/MethodHandle" ∧ y.cls ≠ "java/lang/invoke/VarHandle") (hf : rm.frames + 1 ≤ R.frames) (hlo : (rest.map fun v => v.category).sum + (maxL + 11) + rm.locals ≤ R.locals) (hc : cells + rm.cells ≤ R.cells) (hn : slots + rm.slots ≤ R.slots)
    (k : ∀ v T' L, Stand p l e R s m args below meth c T' (locs ++ L) (cells + rm.cells) (slots + rm.slots) → Q v T'.heap L → G (T'.setTop (mkF m q Ls (v.toList ++ rest)))) : G (T.setTop (mkF m pc Ls S)) := by
  subst has hs hq
  obtain ⟨cq, kq, qa, qb, qc⟩ := isOf hZ eT E
  obtain ⟨v, _, ⟨T', L', k', n'⟩, -, X', ⟨Lc, hQ, l1, y1, z1⟩, st⟩ := X.interfaceBack hx (xi := y) (y := z) hown (mvT hZ w1) (mvT hZ w2) w7 (mvT hZ w5) (mvT hZ w6) (mvT hZ w8) (mvT hZ w9) (mvT hZ wa) hy (C.back (W := (rest.map fun v => v.category).sum) hZ w4 w3 hf hlo) qa qb qc (g := mkF m pc Ls (argsL.reverse ++ .ref a :: rest)) rfl hsz (Steps.refl _) (argsL := argsL) (rest := rest) (lenOf hps hl) rfl (by show 2 * 0 + _ ≤ _; exact Nat.le_of_eq (Nat.zero_add _)) (hb hby hd) (fun _ _ => ⟨rfl, eT, hc, hn⟩)
  dsimp only at X' l1 y1 z1 st hQ
  subst l1 y1 z1
  exact K _ _ (fun t k => st.trans k) (k v T' Lc X' hQ)
end OwnBase
section OwnArr
variable {p : Program} {l : Launch} {e : Env} {R : Room} {s : State} {m : MethodId} {args : Array Value} {below : List Frame} {meth : Method} {c : Code} {T : State} {locs : List Loc} {cells slots : Nat} {Z : State} {a0 : Array Value} {h h' : Heap} {a b : Addr} {ty : FieldType} {vs : List Value} {v : Value} {sl : Nat} {ws : List Addr} {bs : ByteArray} {pc q : Nat} {Ls : Array Slot} {S : List Value} {G : State → Prop}
def Av (Z : State) (h : Heap) (a : Addr) (ty : FieldType) (vs : List Value) : Prop := ∃ cl : Cell, Arr Z h a cl ty ∧ cl.slots = vs.toArray
theorem Av.lt (F : Av Z h a ty vs) : a < h.size := by obtain ⟨_, A, -⟩ := F; exact A.lt
theorem Av.ext (F : Av Z h a ty vs) (E : Ext h h') : Av Z h' a ty vs := by obtain ⟨c, A, r⟩ := F; exact ⟨c, A.ext E, r⟩
theorem Av.other (F : Av Z h b ty vs) (W : Wr h h' a sl v) (q : b ≠ a) : Av Z h' b ty vs := by obtain ⟨c, A, r⟩ := F; exact ⟨c, A.other W q, r⟩
theorem Av.keep (F : Av Z h a ty vs) (K : Keep h h' ws) (q : a ∉ ws) : Av Z h' a ty vs := by obtain ⟨c, A, r⟩ := F; exact ⟨c, ⟨K.2.1 a c A.1 q, A.2⟩, r⟩
theorem Av.new {k : ClassId} {z : Int32} {n : Nat} (A : Arr Z h a (newA k ty z) ty) (hn : z.toNatClampNeg = n) : Av Z h a ty (List.replicate n (defaultValue ty)) := ⟨_, A, by subst hn; simp [newA]⟩
theorem Av.set (F : Av Z h a ty vs) (W : Wr h h' a sl v) : Av Z h' a ty (vs.set sl v) := by
  obtain ⟨c, A, r⟩ := F
  exact ⟨_, A.same W, by simp [Cell.setSlot, r]⟩
theorem Av.ofArv {k : ClassId} {z : Int32} {d : Value} (A : Arv Z h a k ty z vs d) (hl : z.toNatClampNeg = vs.length) : Av Z h a ty vs := by
  obtain ⟨cl, A, -, S, -, H, -⟩ := A
  refine ⟨cl, A, Array.ext_getElem? fun i => ?_⟩
  by_cases q : i < vs.length
  · have := H i (by omega)
    rw [this]
    simp [q]
  · rw [Array.getElem?_eq_none (by omega), List.getElem?_toArray, List.getElem?_eq_none (by omega)]
theorem own_in {cl : Cell} {j : Int32} (r : cl.slots = vs.toArray) (h0 : ¬ j < 0) (h1 : j.toNatClampNeg < vs.length) : ¬ (j < 0 ∨ cl.slots.size ≤ j.toNatClampNeg) := by
  rintro (q | q)
  · exact h0 q
  · rw [r, List.size_toArray] at q; omega
theorem own_at {cl : Cell} {i : Nat} (r : cl.slots = vs.toArray) (hv : vs[i]? = some v) : cl.slots[i]? = some v := by rw [r]; simpa using hv
theorem own_ltl0 {i : Nat} (hv : vs[i]? = some v) : i < vs.length := (List.getElem?_eq_some_iff.mp hv).1
theorem k_ldI (K : Cl p e below G) (X : Stand p l e R s m args below meth c T locs cells slots) (hx : p.tables.exec = Jvm.exec) (hby : c.code = bs) (hZ : Z.Warmed39 s.vm) (eT : T.heap = h) (F : Av Z h a .int vs) {j : Int32} (h0 : ¬ j < 0) (hv : vs[j.toNatClampNeg]? = some v) (hd : decode bs pc = .ok (.iaload, 1)) (hq : pc + 1 = q) (hr : G (T.setTop (mkF m q Ls (v :: S)))) : G (T.setTop (mkF m pc Ls (.int j :: .ref a :: S))) := by
  subst hq
  obtain ⟨cl, A, r⟩ := F
  exact K _ _ (X.iaload hx (j := j) (v := v) (by rw [eT]; exact A.1) (State.isArrayOf_alike hZ.alike A.2.1) A.2.2 (own_in r h0 (own_ltl0 hv)) (own_at r hv) (g := mkF m pc Ls (.int j :: .ref a :: S)) rfl rfl (hb hby hd)) hr
theorem k_ldJ (K : Cl p e below G) (X : Stand p l e R s m args below meth c T locs cells slots) (hx : p.tables.exec = Jvm.exec) (hby : c.code = bs) (hZ : Z.Warmed39 s.vm) (eT : T.heap = h) (F : Av Z h a .long vs) {j : Int32} (h0 : ¬ j < 0) (hv : vs[j.toNatClampNeg]? = some v) (hd : decode bs pc = .ok (.laload, 1)) (hq : pc + 1 = q) (hr : G (T.setTop (mkF m q Ls (v :: S)))) : G (T.setTop (mkF m pc Ls (.int j :: .ref a :: S))) := by
  subst hq
  obtain ⟨cl, A, r⟩ := F
  exact K _ _ (X.laload hx (j := j) (v := v) (by rw [eT]; exact A.1) (State.isArrayOf_alike hZ.alike A.2.1) A.2.2 (own_in r h0 (own_ltl0 hv)) (own_at r hv) (g := mkF m pc Ls (.int j :: .ref a :: S)) rfl rfl (hb hby hd)) hr
theorem k_ldC (K : Cl p e below G) (X : Stand p l e R s m args below meth c T locs cells slots) (hx : p.tables.exec = Jvm.exec) (hby : c.code = bs) (hZ : Z.Warmed39 s.vm) (eT : T.heap = h) (F : Av Z h a .char vs) {j : Int32} (h0 : ¬ j < 0) (hv : vs[j.toNatClampNeg]? = some v) (hd : decode bs pc = .ok (.caload, 1)) (hq : pc + 1 = q) (hr : G (T.setTop (mkF m q Ls (v :: S)))) : G (T.setTop (mkF m pc Ls (.int j :: .ref a :: S))) := by
  subst hq
  obtain ⟨cl, A, r⟩ := F
  exact K _ _ (X.caload hx (j := j) (v := v) (by rw [eT]; exact A.1) (State.isArrayOf_alike hZ.alike A.2.1) A.2.2 (own_in r h0 (own_ltl0 hv)) (own_at r hv) (g := mkF m pc Ls (.int j :: .ref a :: S)) rfl rfl (hb hby hd)) hr
theorem k_ldB (K : Cl p e below G) (X : Stand p l e R s m args below meth c T locs cells slots) (hx : p.tables.exec = Jvm.exec) (hby : c.code = bs) (hZ : Z.Warmed39 s.vm) (eT : T.heap = h) (F : Av Z h a .byte vs) {j : Int32} (h0 : ¬ j < 0) (hv : vs[j.toNatClampNeg]? = some v) (hd : decode bs pc = .ok (.baload, 1)) (hq : pc + 1 = q) (hr : G (T.setTop (mkF m q Ls (v :: S)))) : G (T.setTop (mkF m pc Ls (.int j :: .ref a :: S))) := by
  subst hq
  obtain ⟨cl, A, r⟩ := F
  exact K _ _ (X.baloadBytes hx (j := j) (v := v) (by rw [eT]; exact A.1) (State.isArrayOf_alike hZ.alike A.2.1) A.2.2 (own_in r h0 (own_ltl0 hv)) (own_at r hv) (g := mkF m pc Ls (.int j :: .ref a :: S)) rfl rfl (hb hby hd)) hr
theorem k_ldZ (K : Cl p e below G) (X : Stand p l e R s m args below meth c T locs cells slots) (hx : p.tables.exec = Jvm.exec) (hby : c.code = bs) (hZ : Z.Warmed39 s.vm) (eT : T.heap = h) (F : Av Z h a .boolean vs) {j : Int32} (h0 : ¬ j < 0) (hv : vs[j.toNatClampNeg]? = some v) (hd : decode bs pc = .ok (.baload, 1)) (hq : pc + 1 = q) (hr : G (T.setTop (mkF m q Ls (v :: S)))) : G (T.setTop (mkF m pc Ls (.int j :: .ref a :: S))) := by
  subst hq
  obtain ⟨cl, A, r⟩ := F
  exact K _ _ (X.baloadBooleans hx (j := j) (v := v) (by rw [eT]; exact A.1) (State.isArrayOf_alike hZ.alike A.2.1) A.2.2 (own_in r h0 (own_ltl0 hv)) (own_at r hv) (g := mkF m pc Ls (.int j :: .ref a :: S)) rfl rfl (hb hby hd)) hr
theorem k_ldD (K : Cl p e below G) (X : Stand p l e R s m args below meth c T locs cells slots) (hx : p.tables.exec = Jvm.exec) (hby : c.code = bs) (hZ : Z.Warmed39 s.vm) (eT : T.heap = h) (F : Av Z h a .double vs) {j : Int32} (h0 : ¬ j < 0) (hv : vs[j.toNatClampNeg]? = some v) (hd : decode bs pc = .ok (.daload, 1)) (hq : pc + 1 = q) (hr : G (T.setTop (mkF m q Ls (v :: S)))) : G (T.setTop (mkF m pc Ls (.int j :: .ref a :: S))) := by
  subst hq
  obtain ⟨cl, A, r⟩ := F
  exact K _ _ (X.daload hx (j := j) (v := v) (by rw [eT]; exact A.1) (State.isArrayOf_alike hZ.alike A.2.1) A.2.2 (own_in r h0 (own_ltl0 hv)) (own_at r hv) (g := mkF m pc Ls (.int j :: .ref a :: S)) rfl rfl (hb hby hd)) hr
theorem k_ldR (K : Cl p e below G) (X : Stand p l e R s m args below meth c T locs cells slots) (hx : p.tables.exec = Jvm.exec) (hby : c.code = bs) (hZ : Z.Warmed39 s.vm) (eT : T.heap = h) (hty : ty.isReference = true) (F : Av Z h a ty vs) {j : Int32} (h0 : ¬ j < 0) (hv : vs[j.toNatClampNeg]? = some v) (hd : decode bs pc = .ok (.aaload, 1)) (hq : pc + 1 = q) (hr : G (T.setTop (mkF m q Ls (v :: S)))) : G (T.setTop (mkF m pc Ls (.int j :: .ref a :: S))) := by
  subst hq
  obtain ⟨cl, A, r⟩ := F
  exact K _ _ (X.aaload hx (j := j) (v := v) (by rw [eT]; exact A.1) (State.isArrayOf_alike hZ.alike A.2.1) hty A.2.2 (own_in r h0 (own_ltl0 hv)) (own_at r hv) (g := mkF m pc Ls (.int j :: .ref a :: S)) rfl rfl (hb hby hd)) hr
theorem k_len (K : Cl p e below G) (X : Stand p l e R s m args below meth c T locs cells slots) (hx : p.tables.exec = Jvm.exec) (hby : c.code = bs) (hZ : Z.Warmed39 s.vm) (z : Int32) (eT : T.heap = h) (F : Av Z h a ty vs) (hz : Int32.ofNat vs.length = z) (hd : decode bs pc = .ok (.arraylength, 1)) (hq : pc + 1 = q) (hr : G (T.setTop (mkF m q Ls (.int z :: S)))) : G (T.setTop (mkF m pc Ls (.ref a :: S))) := by
  subst hq
  obtain ⟨cl, A, r⟩ := F
  have hl : cl.slots.size.toInt32 = z := by rw [r, List.size_toArray]; exact hz
  have st := X.arraylength hx (by rw [eT]; exact A.1) (State.isArrayOf_alike hZ.alike A.2.1) (g := mkF m pc Ls (.ref a :: S)) rfl rfl (hb hby hd)
  rw [hl] at st
  exact K _ _ st hr
theorem k_stI (K : Cl p e below G) (X : Stand p l e R s m args below meth c T locs cells slots) (hx : p.tables.exec = Jvm.exec) (hby : c.code = bs) (hZ : Z.Warmed39 s.vm) (eT : T.heap = h) (F : Av Z h a .int vs) {j : Int32} {x : Int32} (h0 : ¬ j < 0) (h1 : j.toNatClampNeg < vs.length) (hd : decode bs pc = .ok (.iastore, 1)) (hq : pc + 1 = q) (k : ∀ T' h', Stand p l e R s m args below meth c T' (locs ++ [⟨a, j.toNatClampNeg⟩]) cells slots → T'.heap = h' → Wr h h' a j.toNatClampNeg (.int x) → Av Z h' a .int (vs.set j.toNatClampNeg (.int x)) → G (T'.setTop (mkF m q Ls S))) : G (T.setTop (mkF m pc Ls (.int x :: .int j :: .ref a :: S))) := by
  subst hq
  obtain ⟨cl, A, r⟩ := F
  obtain ⟨T', h', X', e', W', st⟩ := stI X hx hZ eT A (j := j) (own_in r h0 h1) (g := mkF m pc Ls (.int x :: .int j :: .ref a :: S)) rfl rfl (hb hby hd)
  exact K _ _ st (k T' h' X' e' W' (Av.set ⟨cl, A, r⟩ W'))
theorem k_stJ (K : Cl p e below G) (X : Stand p l e R s m args below meth c T locs cells slots) (hx : p.tables.exec = Jvm.exec) (hby : c.code = bs) (hZ : Z.Warmed39 s.vm) (eT : T.heap = h) (F : Av Z h a .long vs) {j : Int32} {x : Int64} (h0 : ¬ j < 0) (h1 : j.toNatClampNeg < vs.length) (hd : decode bs pc = .ok (.lastore, 1)) (hq : pc + 1 = q) (k : ∀ T' h', Stand p l e R s m args below meth c T' (locs ++ [⟨a, j.toNatClampNeg⟩]) cells slots → T'.heap = h' → Wr h h' a j.toNatClampNeg (.long x) → Av Z h' a .long (vs.set j.toNatClampNeg (.long x)) → G (T'.setTop (mkF m q Ls S))) : G (T.setTop (mkF m pc Ls (.long x :: .int j :: .ref a :: S))) := by
  subst hq
  obtain ⟨cl, A, r⟩ := F
  obtain ⟨T', h', X', e', W', st⟩ := stJ X hx hZ eT A (j := j) (own_in r h0 h1) (g := mkF m pc Ls (.long x :: .int j :: .ref a :: S)) rfl rfl (hb hby hd)
  exact K _ _ st (k T' h' X' e' W' (Av.set ⟨cl, A, r⟩ W'))
theorem k_stC (K : Cl p e below G) (X : Stand p l e R s m args below meth c T locs cells slots) (hx : p.tables.exec = Jvm.exec) (hby : c.code = bs) (hZ : Z.Warmed39 s.vm) (eT : T.heap = h) (F : Av Z h a .char vs) {j : Int32} {x : Int32} (h0 : ¬ j < 0) (h1 : j.toNatClampNeg < vs.length) (hd : decode bs pc = .ok (.castore, 1)) (hq : pc + 1 = q) (k : ∀ T' h', Stand p l e R s m args below meth c T' (locs ++ [⟨a, j.toNatClampNeg⟩]) cells slots → T'.heap = h' → Wr h h' a j.toNatClampNeg (.int (nar .char x)) → Av Z h' a .char (vs.set j.toNatClampNeg (.int (nar .char x))) → G (T'.setTop (mkF m q Ls S))) : G (T.setTop (mkF m pc Ls (.int x :: .int j :: .ref a :: S))) := by
  subst hq
  obtain ⟨cl, A, r⟩ := F
  obtain ⟨T', h', X', e', W', st⟩ := stC X hx hZ eT A (j := j) (own_in r h0 h1) (g := mkF m pc Ls (.int x :: .int j :: .ref a :: S)) rfl rfl (hb hby hd)
  exact K _ _ st (k T' h' X' e' W' (Av.set ⟨cl, A, r⟩ W'))
theorem k_stB (K : Cl p e below G) (X : Stand p l e R s m args below meth c T locs cells slots) (hx : p.tables.exec = Jvm.exec) (hby : c.code = bs) (hZ : Z.Warmed39 s.vm) (eT : T.heap = h) (F : Av Z h a .byte vs) {j : Int32} {x : Int32} (h0 : ¬ j < 0) (h1 : j.toNatClampNeg < vs.length) (hd : decode bs pc = .ok (.bastore, 1)) (hq : pc + 1 = q) (k : ∀ T' h', Stand p l e R s m args below meth c T' (locs ++ [⟨a, j.toNatClampNeg⟩]) cells slots → T'.heap = h' → Wr h h' a j.toNatClampNeg (.int (nar .byte x)) → Av Z h' a .byte (vs.set j.toNatClampNeg (.int (nar .byte x))) → G (T'.setTop (mkF m q Ls S))) : G (T.setTop (mkF m pc Ls (.int x :: .int j :: .ref a :: S))) := by
  subst hq
  obtain ⟨cl, A, r⟩ := F
  obtain ⟨T', h', X', e', W', st⟩ := stB X hx hZ eT A (j := j) (own_in r h0 h1) (g := mkF m pc Ls (.int x :: .int j :: .ref a :: S)) rfl rfl (hb hby hd)
  exact K _ _ st (k T' h' X' e' W' (Av.set ⟨cl, A, r⟩ W'))
theorem k_stZ (K : Cl p e below G) (X : Stand p l e R s m args below meth c T locs cells slots) (hx : p.tables.exec = Jvm.exec) (hby : c.code = bs) (hZ : Z.Warmed39 s.vm) (eT : T.heap = h) (F : Av Z h a .boolean vs) {j : Int32} {x : Int32} (h0 : ¬ j < 0) (h1 : j.toNatClampNeg < vs.length) (hd : decode bs pc = .ok (.bastore, 1)) (hq : pc + 1 = q) (k : ∀ T' h', Stand p l e R s m args below meth c T' (locs ++ [⟨a, j.toNatClampNeg⟩]) cells slots → T'.heap = h' → Wr h h' a j.toNatClampNeg (.int (nar .boolean x)) → Av Z h' a .boolean (vs.set j.toNatClampNeg (.int (nar .boolean x))) → G (T'.setTop (mkF m q Ls S))) : G (T.setTop (mkF m pc Ls (.int x :: .int j :: .ref a :: S))) := by
  subst hq
  obtain ⟨cl, A, r⟩ := F
  obtain ⟨T', h', X', e', W', st⟩ := stZ X hx hZ eT A (j := j) (own_in r h0 h1) (g := mkF m pc Ls (.int x :: .int j :: .ref a :: S)) rfl rfl (hb hby hd)
  exact K _ _ st (k T' h' X' e' W' (Av.set ⟨cl, A, r⟩ W'))
theorem k_stD (K : Cl p e below G) (X : Stand p l e R s m args below meth c T locs cells slots) (hx : p.tables.exec = Jvm.exec) (hby : c.code = bs) (hZ : Z.Warmed39 s.vm) (eT : T.heap = h) (F : Av Z h a .double vs) {j : Int32} {x : UInt64} (h0 : ¬ j < 0) (h1 : j.toNatClampNeg < vs.length) (hd : decode bs pc = .ok (.dastore, 1)) (hq : pc + 1 = q) (k : ∀ T' h', Stand p l e R s m args below meth c T' (locs ++ [⟨a, j.toNatClampNeg⟩]) cells slots → T'.heap = h' → Wr h h' a j.toNatClampNeg (.double x) → Av Z h' a .double (vs.set j.toNatClampNeg (.double x)) → G (T'.setTop (mkF m q Ls S))) : G (T.setTop (mkF m pc Ls (.double x :: .int j :: .ref a :: S))) := by
  subst hq
  obtain ⟨cl, A, r⟩ := F
  obtain ⟨T', h', X', e', W', st⟩ := stD X hx hZ eT A (j := j) (own_in r h0 h1) (g := mkF m pc Ls (.double x :: .int j :: .ref a :: S)) rfl rfl (hb hby hd)
  exact K _ _ st (k T' h' X' e' W' (Av.set ⟨cl, A, r⟩ W'))
def Avr (Z : State) (h : Heap) (a : Addr) (C : String) (vs : List Value) : Prop := ∃ cl : Cell, Arr Z h a cl (.object C) ∧ cl.slots = vs.toArray ∧ Ovr Z cl.cls C
variable {C : String}
theorem Avr.av (F : Avr Z h a C vs) : Av Z h a (.object C) vs := by obtain ⟨c, A, r, -⟩ := F; exact ⟨c, A, r⟩
theorem Avr.lt (F : Avr Z h a C vs) : a < h.size := F.av.lt
theorem Avr.ext (F : Avr Z h a C vs) (E : Ext h h') : Avr Z h' a C vs := by obtain ⟨c, A, r⟩ := F; exact ⟨c, A.ext E, r⟩
theorem Avr.other (F : Avr Z h b C vs) (W : Wr h h' a sl v) (q : b ≠ a) : Avr Z h' b C vs := by obtain ⟨c, A, r⟩ := F; exact ⟨c, A.other W q, r⟩
theorem Avr.keep (F : Avr Z h a C vs) (K : Keep h h' ws) (q : a ∉ ws) : Avr Z h' a C vs := by obtain ⟨c, A, r⟩ := F; exact ⟨c, ⟨K.2.1 a c A.1 q, A.2⟩, r⟩
theorem Avr.new {k : ClassId} {z : Int32} {n : Nat} (A : Arr Z h a (newA k (.object C) z) (.object C)) (O : Ovr Z k C) (hn : z.toNatClampNeg = n) : Avr Z h a C (List.replicate n .null) := ⟨_, A, by subst hn; simp [newA, defaultValue], O⟩
theorem Avr.set (F : Avr Z h a C vs) (W : Wr h h' a sl v) : Avr Z h' a C (vs.set sl v) := by
  obtain ⟨c, A, r, O⟩ := F
  exact ⟨_, A.same W, by simp [Cell.setSlot, r], O⟩
theorem k_stR (K : Cl p e below G) (X : Stand p l e R s m args below meth c T locs cells slots) (hx : p.tables.exec = Jvm.exec) (hby : c.code = bs) (hZ : Z.Warmed39 s.vm) (eT : T.heap = h) (F : Avr Z h a C vs) {j : Int32} (h0 : ¬ j < 0) (h1 : j.toNatClampNeg < vs.length) (hv : v = .null ∨ ∃ y, v = .ref y ∧ Ins Z h y C true) (hd : decode bs pc = .ok (.aastore, 1)) (hq : pc + 1 = q) (k : ∀ T' h', Stand p l e R s m args below meth c T' (locs ++ [⟨a, j.toNatClampNeg⟩]) cells slots → T'.heap = h' → Wr h h' a j.toNatClampNeg v → Avr Z h' a C (vs.set j.toNatClampNeg v) → G (T'.setTop (mkF m q Ls S))) : G (T.setTop (mkF m pc Ls (v :: .int j :: .ref a :: S))) := by
  subst hq
  obtain ⟨cl, A, r, O⟩ := F
  have St : Sto Z h a v := by
    rcases hv with rfl | ⟨y, rfl, I⟩
    · exact Or.inl rfl
    · exact Sto.of A O I
  obtain ⟨T', h', X', e', W', st⟩ := stR X hx hZ eT A (j := j) (own_in r h0 h1) rfl St (g := mkF m pc Ls (v :: .int j :: .ref a :: S)) rfl rfl (hb hby hd)
  exact K _ _ st (k T' h' X' e' W' (Avr.set ⟨cl, A, r, O⟩ W'))
theorem k_newP (K : Cl p e below G) (X : Stand p l e R s m args below meth c T locs cells slots) (hx : p.tables.exec = Jvm.exec) (hby : c.code = bs) (hZ : Z.Warmed39 s.vm) {aty : ArrayType} {n : Int32} (N cap : Nat) (w : (Jvm.Cond.arrayClass (newarray.typeOf aty)).before a0 Z = true) (eT : T.heap = h) (hd : decode bs pc = .ok (.newarray aty, 2)) (hq : pc + 2 = q) (hn : ¬ n < 0) (hN : n.toNatClampNeg = N) (hcap : N ≤ cap) (hcb : cap * 8 ≤ 536870912) (hc : cells + 1 ≤ R.cells) (hl : slots + cap ≤ R.slots)
    (k : ∀ T' h' b, Stand p l e R s m args below meth c T' locs (cells + 1) (slots + cap) → T'.heap = h' → Ext h h' → b = h.size → Av Z h' b (newarray.typeOf aty) (List.replicate N (defaultValue (newarray.typeOf aty))) → G (T'.setTop (mkF m q Ls (.ref b :: S)))) : G (T.setTop (mkF m pc Ls (.int n :: S))) := by
  subst hq hN
  obtain ⟨T', h', kA, X', e', E', A', st⟩ := newP X hx hZ w eT (g := mkF m pc Ls (.int n :: S)) rfl (hb hby hd) rfl hn hcap hcb hc hl
  exact K _ _ st (k T' h' _ X' e' E' rfl (Av.new A' rfl))
theorem k_newR (K : Cl p e below G) (X : Stand p l e R s m args below meth c T locs cells slots) (hx : p.tables.exec = Jvm.exec) (hby : c.code = bs) (hZ : Z.Warmed39 s.vm) {own : String} {i : Nat} {n : Int32} (N cap : Nat) (hown : s.vm.findClass own = some m.cls) (w1 : (Jvm.Cond.classLink own i C).before a0 Z = true) (w2 : (Jvm.Cond.arrayOver (.object C)).before a0 Z = true) (eT : T.heap = h) (hd : decode bs pc = .ok (.anewarray i, 3)) (hq : pc + 3 = q) (hn : ¬ n < 0) (hN : n.toNatClampNeg = N) (hcap : N ≤ cap) (hcb : cap * 8 ≤ 536870912) (hc : cells + 1 ≤ R.cells) (hl : slots + cap ≤ R.slots)
    (k : ∀ T' h' b, Stand p l e R s m args below meth c T' locs (cells + 1) (slots + cap) → T'.heap = h' → Ext h h' → b = h.size → Avr Z h' b C (List.replicate N .null) → G (T'.setTop (mkF m q Ls (.ref b :: S)))) : G (T.setTop (mkF m pc Ls (.int n :: S))) := by
  subst hq hN
  obtain ⟨T', h', kA, X', e', E', A', O', st⟩ := newR X hx hZ hown w1 w2 eT (g := mkF m pc Ls (.int n :: S)) rfl (hb hby hd) rfl hn hcap hcb hc hl
  exact K _ _ st (k T' h' _ X' e' E' rfl (Avr.new A' O' rfl))
theorem own_ge {H : Heap} {b c : Addr} {j : Nat} (g : b = H.size) (q : c = b + 1 + j) : H.size ≤ c := by subst g q; exact Nat.le_trans (Nat.le_add_right _ _) (Nat.le_add_right _ _)
theorem own_le {b c : Addr} {j : Nat} (q : c = b + 1 + j) : b ≤ c := by subst q; exact Nat.le_trans (Nat.le_add_right _ _) (Nat.le_add_right _ _)
theorem own_ne {b c : Addr} {j : Nat} (q : c = b + 1 + j) : b ≠ c := by subst q; exact Nat.ne_of_lt (Nat.lt_of_lt_of_le (Nat.lt_succ_self _) (Nat.le_add_right _ _))
theorem own_ne2 {b c d : Addr} {i j : Nat} (q : c = b + 1 + i) (r : d = b + 1 + j) (h : i ≠ j) : c ≠ d := by subst q r; exact fun e => h (Nat.add_left_cancel e)
end OwnArr
theorem d_prog_3_1_0 : decode prog_3_method_1_code 0 = .ok (.aload_n 0, 1) := by decide +kernel
theorem d_prog_3_1_1 : decode prog_3_method_1_code 1 = .ok (.invokespecial 1, 3) := by decide +kernel
theorem d_prog_3_1_4 : decode prog_3_method_1_code 4 = .ok (.aload_n 0, 1) := by decide +kernel
theorem d_prog_3_1_5 : decode prog_3_method_1_code 5 = .ok (.lload_n 1, 1) := by decide +kernel
theorem d_prog_3_1_6 : decode prog_3_method_1_code 6 = .ok (.putfield 7, 3) := by decide +kernel
theorem d_prog_3_1_9 : decode prog_3_method_1_code 9 = .ok (.return_, 1) := by decide +kernel
theorem pn_com_example_craterworks_craterworks_SeededRandom : plainName "com/example/craterworks/craterworks/SeededRandom" = true := by first | (simp [plainName, overriddenIn]; done) | decide +kernel
theorem ef1 (m : MethodId) (x0 : Addr) (x1 : Int64) : entryFrame m #[(.ref x0), (.long x1)] 3 = mkF m 0 #[.val (.ref x0), .val (.long x1), .second] [] := by first | (simp [entryFrame, mkF, argsToLocals, Value.category]; done) | rfl
set_option maxRecDepth 65536 in
set_option maxHeartbeats 40000000 in
theorem c1 (l : Launch) (Z : State) (a0 : Array Value) (hw : ∀ d ∈ tables_1, d.before a0 Z = true) (a1 : Addr) (q1 : Int64) (q0 : Int64) (h0 : Heap) (n0 : Nat) (Z0 : n0 ≤ h0.size) (E_a1 : Exa Z h0 a1 "com/example/craterworks/craterworks/SeededRandom") (F_state_a1 : Fld Z h0 a1 "com/example/craterworks/craterworks/SeededRandom" "state" "J" (.long q0)) (g_a1 : n0 ≤ a1) :
    Con l Z (⟨"com/example/craterworks/craterworks/SeededRandom", "<init>", "(J)V"⟩ : MethodName) prog_3_method_1_code 3 none ({ frames := 1, cells := 0, slots := 0, locals := 12 } : Room) [] #[(.ref a1), (.long q1)] h0 (fun v h L => v = none ∧ Fr n0 L ∧ Keep h0 h [a1] ∧ Fld Z h a1 "com/example/craterworks/craterworks/SeededRandom" "state" "J" (.long q1)) := by
  refine Con.of (plainFor_of_name pn_com_example_craterworks_craterworks_SeededRandom) #[.val (.ref a1), .val (.long q1), .second] (fun m => ef1 m a1 q1) ?_
  intro p e s m below meth c s₁ K hx hby hml hown hnm hret hlk hZ X0 e0
  have N0 := Fr.nil n0
  refine m_aloadN K X0.here hx hby d_prog_3_1_0 rfl rfl rfl ?_
  refine k_initO K X0 hx hby hZ hown (hw _ (List.mem_of_getElem? (i := 6) rfl)) (hw _ (List.mem_of_getElem? (i := 7) rfl)) (hw _ (List.mem_of_getElem? (i := 8) rfl)) e0 d_prog_3_1_1 (by rw [hml]; rfl) rfl (by decide) (Nat.le_of_ble_eq_true rfl) fun T1 X1 e1 => ?_
  refine m_aloadN K X1.here hx hby d_prog_3_1_4 rfl rfl rfl ?_
  refine m_lloadN K X1.here hx hby d_prog_3_1_5 rfl rfl ?_
  refine k_putF K X1 hx hby hZ hown (host := "") (Or.inl (hw _ (List.mem_of_getElem? (i := 9) rfl))) Via.refl e1 F_state_a1 E_a1 (Or.inl (hw _ (List.mem_of_getElem? (i := 10) rfl))) (hw _ (List.mem_of_getElem? (i := 1) rfl)) (ty := .long) (by decide) rfl rfl d_prog_3_1_6 rfl fun T2 h2 X2 e2 W2 => ?_
  have Fw2 := F_state_a1.same W2
  have N2 := Fr.snoc X2 N0 g_a1
  exact Go.retV X2 hx hby hlk hret d_prog_3_1_9 (by decide) (by decide) (by rw [e2]; exact ⟨rfl, N2, ((Keep.refl h0 [a1]).wr W2 (Or.inl (by simp))), Fw2⟩)
def w3_1 (q0 : Int64) : Int64 := (q0 + (-7046029254386353131 : Int64))
def w3_2 (q0 : Int64) : Int64 := (((w3_1 q0).toUInt64 >>> ((30 : Int32) &&& 0x3f).toInt64.toUInt64).toInt64)
def w3_3 (q0 : Int64) : Int64 := (((w3_1 q0) ^^^ (w3_2 q0)) * (-4658895280553007687 : Int64))
def w3_4 (q0 : Int64) : Int64 := (((w3_3 q0).toUInt64 >>> ((27 : Int32) &&& 0x3f).toInt64.toUInt64).toInt64)
def w3_5 (q0 : Int64) : Int64 := (((w3_3 q0) ^^^ (w3_4 q0)) * (-7723592293110705685 : Int64))
def w3_6 (q0 : Int64) : Int64 := (((w3_5 q0).toUInt64 >>> ((31 : Int32) &&& 0x3f).toInt64.toUInt64).toInt64)
def NL (q0 : Int64) : Int64 := ((w3_5 q0) ^^^ (w3_6 q0))
theorem d_prog_3_3_0 : decode prog_3_method_3_code 0 = .ok (.aload_n 0, 1) := by decide +kernel
theorem d_prog_3_3_1 : decode prog_3_method_3_code 1 = .ok (.dup, 1) := by decide +kernel
theorem d_prog_3_3_2 : decode prog_3_method_3_code 2 = .ok (.getfield 7, 3) := by decide +kernel
theorem d_prog_3_3_5 : decode prog_3_method_3_code 5 = .ok (.ldc2_w 32, 3) := by decide +kernel
theorem d_prog_3_3_8 : decode prog_3_method_3_code 8 = .ok (.ladd, 1) := by decide +kernel
theorem d_prog_3_3_9 : decode prog_3_method_3_code 9 = .ok (.putfield 7, 3) := by decide +kernel
theorem d_prog_3_3_12 : decode prog_3_method_3_code 12 = .ok (.aload_n 0, 1) := by decide +kernel
theorem d_prog_3_3_13 : decode prog_3_method_3_code 13 = .ok (.getfield 7, 3) := by decide +kernel
theorem d_prog_3_3_16 : decode prog_3_method_3_code 16 = .ok (.lstore_n 1, 1) := by decide +kernel
theorem d_prog_3_3_17 : decode prog_3_method_3_code 17 = .ok (.lload_n 1, 1) := by decide +kernel
theorem d_prog_3_3_18 : decode prog_3_method_3_code 18 = .ok (.lload_n 1, 1) := by decide +kernel
theorem d_prog_3_3_19 : decode prog_3_method_3_code 19 = .ok (.bipush 30, 2) := by decide +kernel
theorem d_prog_3_3_21 : decode prog_3_method_3_code 21 = .ok (.lushr, 1) := by decide +kernel
theorem d_prog_3_3_22 : decode prog_3_method_3_code 22 = .ok (.lxor, 1) := by decide +kernel
theorem d_prog_3_3_23 : decode prog_3_method_3_code 23 = .ok (.ldc2_w 34, 3) := by decide +kernel
theorem d_prog_3_3_26 : decode prog_3_method_3_code 26 = .ok (.lmul, 1) := by decide +kernel
theorem d_prog_3_3_27 : decode prog_3_method_3_code 27 = .ok (.lstore_n 1, 1) := by decide +kernel
theorem d_prog_3_3_28 : decode prog_3_method_3_code 28 = .ok (.lload_n 1, 1) := by decide +kernel
theorem d_prog_3_3_29 : decode prog_3_method_3_code 29 = .ok (.lload_n 1, 1) := by decide +kernel
theorem d_prog_3_3_30 : decode prog_3_method_3_code 30 = .ok (.bipush 27, 2) := by decide +kernel
theorem d_prog_3_3_32 : decode prog_3_method_3_code 32 = .ok (.lushr, 1) := by decide +kernel
theorem d_prog_3_3_33 : decode prog_3_method_3_code 33 = .ok (.lxor, 1) := by decide +kernel
theorem d_prog_3_3_34 : decode prog_3_method_3_code 34 = .ok (.ldc2_w 36, 3) := by decide +kernel
theorem d_prog_3_3_37 : decode prog_3_method_3_code 37 = .ok (.lmul, 1) := by decide +kernel
theorem d_prog_3_3_38 : decode prog_3_method_3_code 38 = .ok (.lstore_n 1, 1) := by decide +kernel
theorem d_prog_3_3_39 : decode prog_3_method_3_code 39 = .ok (.lload_n 1, 1) := by decide +kernel
theorem d_prog_3_3_40 : decode prog_3_method_3_code 40 = .ok (.lload_n 1, 1) := by decide +kernel
theorem d_prog_3_3_41 : decode prog_3_method_3_code 41 = .ok (.bipush 31, 2) := by decide +kernel
theorem d_prog_3_3_43 : decode prog_3_method_3_code 43 = .ok (.lushr, 1) := by decide +kernel
theorem d_prog_3_3_44 : decode prog_3_method_3_code 44 = .ok (.lxor, 1) := by decide +kernel
theorem d_prog_3_3_45 : decode prog_3_method_3_code 45 = .ok (.lreturn, 1) := by decide +kernel
theorem ef3 (m : MethodId) (x0 : Addr) : entryFrame m #[(.ref x0)] 3 = mkF m 0 #[.val (.ref x0), .unset, .unset] [] := by first | (simp [entryFrame, mkF, argsToLocals, Value.category]; done) | rfl
set_option maxRecDepth 65536 in
set_option maxHeartbeats 40000000 in
theorem c3 (l : Launch) (Z : State) (a0 : Array Value) (hw : ∀ d ∈ tables_1, d.before a0 Z = true) (a1 : Addr) (q0 : Int64) (h0 : Heap) (n0 : Nat) (Z0 : n0 ≤ h0.size) (E_a1 : Exa Z h0 a1 "com/example/craterworks/craterworks/SeededRandom") (F_state_a1 : Fld Z h0 a1 "com/example/craterworks/craterworks/SeededRandom" "state" "J" (.long q0)) (g_a1 : n0 ≤ a1) :
    Con l Z (⟨"com/example/craterworks/craterworks/SeededRandom", "nextLong", "()J"⟩ : MethodName) prog_3_method_3_code 3 (some .long) ({ frames := 0, cells := 0, slots := 0, locals := 0 } : Room) [] #[(.ref a1)] h0 (fun v h L => v = some (.long (NL q0)) ∧ Fr n0 L ∧ Keep h0 h [a1] ∧ Fld Z h a1 "com/example/craterworks/craterworks/SeededRandom" "state" "J" (.long (q0 + (-7046029254386353131 : Int64)))) := by
  refine Con.of (plainFor_of_name pn_com_example_craterworks_craterworks_SeededRandom) #[.val (.ref a1), .unset, .unset] (fun m => ef3 m a1) ?_
  intro p e s m below meth c s₁ K hx hby hml hown hnm hret hlk hZ X0 e0
  have N0 := Fr.nil n0
  refine m_aloadN K X0.here hx hby d_prog_3_3_0 rfl rfl rfl ?_
  refine m_dup K X0.here hx hby d_prog_3_3_1 rfl rfl ?_
  refine k_getF K X0 hx hby hZ hown (host := "") (Or.inl (hw _ (List.mem_of_getElem? (i := 9) rfl))) Via.refl e0 F_state_a1 d_prog_3_3_2 rfl fun T1 X1 e1 => ?_
  refine m_ldc2 K X1 hx hby hZ hown (hw _ (List.mem_of_getElem? (i := 16) rfl)) d_prog_3_3_5 rfl ?_
  refine m_ladd K X1.here hx hby (w3_1 q0) d_prog_3_3_8 rfl rfl ?_
  refine k_putF K X1 hx hby hZ hown (host := "") (Or.inl (hw _ (List.mem_of_getElem? (i := 9) rfl))) Via.refl e1 F_state_a1 E_a1 (Or.inl (hw _ (List.mem_of_getElem? (i := 10) rfl))) (hw _ (List.mem_of_getElem? (i := 1) rfl)) (ty := .long) (by decide) rfl rfl d_prog_3_3_9 rfl fun T2 h2 X2 e2 W2 => ?_
  have Fw2 := F_state_a1.same W2
  have N2 := Fr.snoc X2 N0 g_a1
  refine m_aloadN K X2.here hx hby d_prog_3_3_12 rfl rfl rfl ?_
  refine k_getF K X2 hx hby hZ hown (host := "") (Or.inl (hw _ (List.mem_of_getElem? (i := 9) rfl))) Via.refl e2 Fw2 d_prog_3_3_13 rfl fun T3 X3 e3 => ?_
  refine m_lstoreN K X3.here hx hby #[.val (.ref a1), .val (.long (w3_1 q0)), .second] d_prog_3_3_16 rfl rfl ?_
  refine m_lloadN K X3.here hx hby d_prog_3_3_17 rfl rfl ?_
  refine m_lloadN K X3.here hx hby d_prog_3_3_18 rfl rfl ?_
  refine m_bipush K X3.here hx hby (30 : Int32) d_prog_3_3_19 rfl rfl ?_
  refine m_lushr K X3.here hx hby (w3_2 q0) d_prog_3_3_21 rfl rfl ?_
  refine m_lxor K X3.here hx hby ((w3_1 q0) ^^^ (w3_2 q0)) d_prog_3_3_22 rfl rfl ?_
  refine m_ldc2 K X3 hx hby hZ hown (hw _ (List.mem_of_getElem? (i := 17) rfl)) d_prog_3_3_23 rfl ?_
  refine m_lmul K X3.here hx hby (w3_3 q0) d_prog_3_3_26 rfl rfl ?_
  refine m_lstoreN K X3.here hx hby #[.val (.ref a1), .val (.long (w3_3 q0)), .second] d_prog_3_3_27 rfl rfl ?_
  refine m_lloadN K X3.here hx hby d_prog_3_3_28 rfl rfl ?_
  refine m_lloadN K X3.here hx hby d_prog_3_3_29 rfl rfl ?_
  refine m_bipush K X3.here hx hby (27 : Int32) d_prog_3_3_30 rfl rfl ?_
  refine m_lushr K X3.here hx hby (w3_4 q0) d_prog_3_3_32 rfl rfl ?_
  refine m_lxor K X3.here hx hby ((w3_3 q0) ^^^ (w3_4 q0)) d_prog_3_3_33 rfl rfl ?_
  refine m_ldc2 K X3 hx hby hZ hown (hw _ (List.mem_of_getElem? (i := 18) rfl)) d_prog_3_3_34 rfl ?_
  refine m_lmul K X3.here hx hby (w3_5 q0) d_prog_3_3_37 rfl rfl ?_
  refine m_lstoreN K X3.here hx hby #[.val (.ref a1), .val (.long (w3_5 q0)), .second] d_prog_3_3_38 rfl rfl ?_
  refine m_lloadN K X3.here hx hby d_prog_3_3_39 rfl rfl ?_
  refine m_lloadN K X3.here hx hby d_prog_3_3_40 rfl rfl ?_
  refine m_bipush K X3.here hx hby (31 : Int32) d_prog_3_3_41 rfl rfl ?_
  refine m_lushr K X3.here hx hby (w3_6 q0) d_prog_3_3_43 rfl rfl ?_
  refine m_lxor K X3.here hx hby ((w3_5 q0) ^^^ (w3_6 q0)) d_prog_3_3_44 rfl rfl ?_
  exact Go.retO X3 hx hby hlk hret rfl (Or.inr (Or.inl ⟨rfl, rfl, _, rfl⟩)) d_prog_3_3_45 (by decide) (by decide) (by rw [e3]; exact ⟨rfl, N2, ((Keep.refl h0 [a1]).wr W2 (Or.inl (by simp))), Fw2⟩)
def w0_1 (q1 : Int64) : Int64 := (NL (q1 + (-7046029254386353131 : Int64)))
def w0_2 (q1 : Int64) : Int64 := (q1 + (-7046029254386353131 : Int64))
def w0_3 (q1 : Int64) : Int32 := (if (w0_1 q1) = (NL (w0_2 q1)) then (1 : Int32) else (0 : Int32))
theorem w0_3_01 (q1 : Int64) : (w0_3 q1) = 0 ∨ (w0_3 q1) = 1 := by
  unfold w0_3
  split
  · exact (Or.inr rfl)
  · exact (Or.inl rfl)
def w0_4 (q1 : Int64) (q2 : Int64) : Int32 := (if (NL q1) = (NL q2) then (1 : Int32) else (0 : Int32))
theorem w0_4_01 (q1 : Int64) (q2 : Int64) : (w0_4 q1 q2) = 0 ∨ (w0_4 q1 q2) = 1 := by
  unfold w0_4
  split
  · exact (Or.inr rfl)
  · exact (Or.inl rfl)
def w0_5 (q1 : Int64) (q2 : Int64) : Int32 := (if q1 = q2 then (1 : Int32) else (0 : Int32))
theorem w0_5_01 (q1 : Int64) (q2 : Int64) : (w0_5 q1 q2) = 0 ∨ (w0_5 q1 q2) = 1 := by
  unfold w0_5
  split
  · exact (Or.inr rfl)
  · exact (Or.inl rfl)
def w0_6 (q1 : Int64) (q2 : Int64) : Int32 := (if (w0_4 q1 q2) = (w0_5 q1 q2) then (1 : Int32) else (0 : Int32))
theorem w0_6_01 (q1 : Int64) (q2 : Int64) : (w0_6 q1 q2) = 0 ∨ (w0_6 q1 q2) = 1 := by
  unfold w0_6
  split
  · exact (Or.inr rfl)
  · exact (Or.inl rfl)
def w0_7  : Int32 := (if (NL (0 : Int64)) = (-2152535657050944081 : Int64) then (1 : Int32) else (0 : Int32))
theorem w0_7_01  : (w0_7 ) = 0 ∨ (w0_7 ) = 1 := by
  unfold w0_7
  split
  · exact (Or.inr rfl)
  · exact (Or.inl rfl)
def w0_8  : Int32 := (if (w0_7 ) = (0 : Int32) then (0 : Int32) else (1 : Int32))
theorem w0_8_01  : (w0_8 ) = 0 ∨ (w0_8 ) = 1 := by
  unfold w0_8
  split
  · exact (Or.inl rfl)
  · exact (Or.inr rfl)
def w0_9 (q1 : Int64) (q2 : Int64) : Int32 := (if (w0_6 q1 q2) = (0 : Int32) then (0 : Int32) else (w0_8 ))
theorem w0_9_01 (q1 : Int64) (q2 : Int64) : (w0_9 q1 q2) = 0 ∨ (w0_9 q1 q2) = 1 := by
  unfold w0_9
  split
  · exact (Or.inl rfl)
  · exact (w0_8_01 )
def w0_10 (q1 : Int64) (q2 : Int64) : Int32 := (if (w0_3 q1) = (0 : Int32) then (0 : Int32) else (w0_9 q1 q2))
theorem w0_10_01 (q1 : Int64) (q2 : Int64) : (w0_10 q1 q2) = 0 ∨ (w0_10 q1 q2) = 1 := by
  unfold w0_10
  split
  · exact (Or.inl rfl)
  · exact (w0_9_01 q1 q2)
theorem own_bv (x y : BitVec 64) (s : Nat) (hs : 0 < s) (h : x ^^^ (x >>> s) = y ^^^ (y >>> s)) : x = y := by
  have e : x ^^^ y = (x ^^^ y) >>> s := by
    rw [BitVec.ushiftRight_xor_distrib]
    have h2 : (x ^^^ (x >>> s)) ^^^ (y ^^^ (x >>> s)) = (y ^^^ (y >>> s)) ^^^ (y ^^^ (x >>> s)) := by rw [h]
    have l : (x ^^^ (x >>> s)) ^^^ (y ^^^ (x >>> s)) = x ^^^ y := by
      rw [BitVec.xor_comm y, BitVec.xor_assoc, ← BitVec.xor_assoc (x >>> s), BitVec.xor_self, BitVec.zero_xor]
    have r : (y ^^^ (y >>> s)) ^^^ (y ^^^ (x >>> s)) = (x >>> s) ^^^ (y >>> s) := by
      rw [BitVec.xor_comm y (y >>> s), BitVec.xor_assoc, ← BitVec.xor_assoc y, BitVec.xor_self, BitVec.zero_xor, BitVec.xor_comm]
    rw [l, r] at h2
    exact h2
  have n : (x ^^^ y).toNat = (x ^^^ y).toNat / 2 ^ s := by
    have q := congrArg BitVec.toNat e
    rw [BitVec.toNat_ushiftRight, Nat.shiftRight_eq_div_pow] at q
    exact q
  have z : (x ^^^ y).toNat = 0 := by
    rcases Nat.eq_zero_or_pos (x ^^^ y).toNat with h0 | h0
    · exact h0
    · have := Nat.div_lt_self h0 (Nat.one_lt_two_pow (n := s) (by omega))
      omega
  have z' : x ^^^ y = 0#64 := BitVec.eq_of_toNat_eq (by rw [z]; rfl)
  have q : (x ^^^ y) ^^^ y = 0#64 ^^^ y := by rw [z']
  rw [BitVec.xor_assoc, BitVec.xor_self, BitVec.xor_zero, BitVec.zero_xor] at q
  exact q
theorem own_xs30 (x y : Int64) (h : x ^^^ ((x.toUInt64 >>> ((30 : Int32) &&& 0x3f).toInt64.toUInt64).toInt64) = y ^^^ ((y.toUInt64 >>> ((30 : Int32) &&& 0x3f).toInt64.toUInt64).toInt64)) : x = y :=
  Int64.toBitVec_inj.mp (own_bv _ _ 30 (by decide) (congrArg Int64.toBitVec h))
theorem own_xs27 (x y : Int64) (h : x ^^^ ((x.toUInt64 >>> ((27 : Int32) &&& 0x3f).toInt64.toUInt64).toInt64) = y ^^^ ((y.toUInt64 >>> ((27 : Int32) &&& 0x3f).toInt64.toUInt64).toInt64)) : x = y :=
  Int64.toBitVec_inj.mp (own_bv _ _ 27 (by decide) (congrArg Int64.toBitVec h))
theorem own_xs31 (x y : Int64) (h : x ^^^ ((x.toUInt64 >>> ((31 : Int32) &&& 0x3f).toInt64.toUInt64).toInt64) = y ^^^ ((y.toUInt64 >>> ((31 : Int32) &&& 0x3f).toInt64.toUInt64).toInt64)) : x = y :=
  Int64.toBitVec_inj.mp (own_bv _ _ 31 (by decide) (congrArg Int64.toBitVec h))
theorem own_mul (c i : Int64) (hc : c * i = 1) (x y : Int64) (h : x * c = y * c) : x = y := by
  have e : x * c * i = y * c * i := by rw [h]
  rw [Int64.mul_assoc, Int64.mul_assoc, hc, Int64.mul_one, Int64.mul_one] at e
  exact e
theorem own_inj (x y : Int64) (h : NL x = NL y) : x = y := by
  have h1 : w3_5 x = w3_5 y := own_xs31 _ _ h
  have h2 : (w3_3 x) ^^^ (w3_4 x) = (w3_3 y) ^^^ (w3_4 y) := own_mul (-7723592293110705685) (3573116690164977347) (by decide +kernel) _ _ h1
  have h3 : w3_3 x = w3_3 y := own_xs27 _ _ h2
  have h4 : (w3_1 x) ^^^ (w3_2 x) = (w3_1 y) ^^^ (w3_2 y) := own_mul (-4658895280553007687) (-7575587736534282103) (by decide +kernel) _ _ h3
  have h5 : w3_1 x = w3_1 y := own_xs30 _ _ h4
  have h6 : x + (-7046029254386353131 : Int64) - (-7046029254386353131 : Int64) = y + (-7046029254386353131 : Int64) - (-7046029254386353131 : Int64) := by
    show w3_1 x - _ = w3_1 y - _
    rw [h5]
  rw [Int64.add_sub_cancel, Int64.add_sub_cancel] at h6
  exact h6
theorem plain (q1 q2 : Int64) : w0_10 q1 q2 = (1 : Int32) := by
  have g3 : w0_3 q1 = 1 := if_pos rfl
  have g6 : w0_6 q1 q2 = 1 := by
    refine if_pos ?_
    by_cases h : q1 = q2
    · subst h; simp only [w0_4, w0_5, if_true]
    · have h' : ¬ NL q1 = NL q2 := fun q => h (own_inj _ _ q)
      simp only [w0_4, w0_5, if_neg h, if_neg h']
  have g7 : w0_7 = 1 := by decide +kernel
  simp only [w0_10, w0_9, w0_8, g3, g6, g7]
  rfl
theorem pn_com_example_craterworks_craterworks_SeededRandomNextLongPinLaw : plainName "com/example/craterworks/craterworks/SeededRandomNextLongPinLaw" = true := by first | (simp [plainName, overriddenIn]; done) | decide +kernel
theorem pd_0 : parseMethodDescriptor "(J)V" = some ⟨[.long], none⟩ := by decide +kernel
theorem pd_1 : parseMethodDescriptor "()J" = some ⟨[], some .long⟩ := by decide +kernel
theorem ef0 (m : MethodId) (x0 : Int64) (x1 : Int64) : entryFrame m #[(.long x0), (.long x1)] maxLocals = mkF m 0 #[.val (.long x0), .second, .val (.long x1), .second, .unset, .unset, .unset, .unset, .unset, .unset, .unset, .unset, .unset, .unset, .unset, .unset, .unset, .unset, .unset, .unset, .unset] [] := by first | (simp [entryFrame, mkF, argsToLocals, Value.category, maxLocals]; done) | rfl
set_option maxRecDepth 65536 in
set_option maxHeartbeats 40000000 in
theorem law0 (l : Launch) (Z : State) (a0 : Array Value) (hw : ∀ d ∈ tables_1, d.before a0 Z = true) (ws : List Jvm.Cond) (q1 : Int64) (q2 : Int64) (h0 : Heap) (n0 : Nat) (Z0 : n0 ≤ h0.size) :
    Con l Z x code maxLocals ret room_1 ws #[(.long q1), (.long q2)] h0 (fun v h L => v = some (.int 1) ∧ Fr n0 L) := by
  refine Con.of (plainFor_of_name pn_com_example_craterworks_craterworks_SeededRandomNextLongPinLaw) #[.val (.long q1), .second, .val (.long q2), .second, .unset, .unset, .unset, .unset, .unset, .unset, .unset, .unset, .unset, .unset, .unset, .unset, .unset, .unset, .unset, .unset, .unset] (fun m => ef0 m q1 q2) ?_
  intro p e s m below meth c s₁ K hx hby hml hown hnm hret hlk hZ X0 e0
  have N0 := Fr.nil n0
  refine k_newO K X0 hx hby hZ hown (hw _ (List.mem_of_getElem? (i := 0) rfl)) (hw _ (List.mem_of_getElem? (i := 1) rfl)) (hw _ (List.mem_of_getElem? (i := 2) rfl)) e0 at_0 rfl (by decide) (by decide) fun T1 h1 b1 X1 e1 E1 g1 A1 D1 => ?_
  have sz_b1 : h0.size ≤ b1 := Nat.le_trans (Nat.le_refl _) (Nat.le_of_eq g1.symm)
  have g_b1 : n0 ≤ b1 := Nat.le_trans Z0 sz_b1
  have F_state_b1 : Fld Z h1 b1 "com/example/craterworks/craterworks/SeededRandom" "state" "J" (.long (0 : Int64)) := D1 (Or.inl (hw _ (List.mem_of_getElem? (i := 10) rfl))) (ty := .long) (by decide)
  refine m_dup K X1.here hx hby at_3 rfl rfl ?_
  refine m_lloadN K X1.here hx hby at_4 rfl rfl ?_
  refine k_callP K X1 hx hby hZ b1 [(.long q1)] [(.ref b1)] hown (hw _ (List.mem_of_getElem? (i := 3) rfl)) (hw _ (List.mem_of_getElem? (i := 4) rfl)) (hw _ (List.mem_of_getElem? (i := 2) rfl)) (hw _ (List.mem_of_getElem? (i := 5) rfl)) rfl (c1 l Z a0 hw b1 q1 (0 : Int64) h1 n0 (Nat.le_trans Z0 (Nat.le_trans (Nat.le_refl _) E1.1)) A1 F_state_b1 g_b1) e1 rfl rfl pd_0 rfl at_5 (by rw [hml]; rfl) rfl (by decide) (by decide) (Nat.le_of_ble_eq_true rfl) (by decide) (by decide) fun v2 T2 L2 X2 q2 => ?_
  obtain ⟨rfl, Nq2, K2, Fp2_0⟩ := q2
  have N2 := Fr.app N0 Nq2
  refine k_none K ?_
  refine m_astore K X2.here hx hby #[.val (.long q1), .second, .val (.long q2), .second, .val (.ref b1), .unset, .unset, .unset, .unset, .unset, .unset, .unset, .unset, .unset, .unset, .unset, .unset, .unset, .unset, .unset, .unset] at_8 rfl rfl rfl ?_
  refine m_aload K X2.here hx hby at_10 rfl rfl rfl ?_
  refine k_callV K X2 hx hby hZ b1 [] [] hown (hw _ (List.mem_of_getElem? (i := 11) rfl)) (hw _ (List.mem_of_getElem? (i := 12) rfl)) (notFace_of_selects (args := #[]) (mvT hZ (hw _ (List.mem_of_getElem? (i := 14) rfl)))) (hw _ (List.mem_of_getElem? (i := 14) rfl)) (hw _ (List.mem_of_getElem? (i := 13) rfl)) (hw _ (List.mem_of_getElem? (i := 2) rfl)) (hw _ (List.mem_of_getElem? (i := 15) rfl)) (c3 l Z a0 hw b1 q1 T2.heap n0 (Nat.le_trans Z0 (Nat.le_trans (Nat.le_trans (Nat.le_refl _) E1.1) K2.1)) (A1.keep K2) Fp2_0 g_b1) rfl (A1.keep K2) rfl rfl pd_1 rfl at_12 (by rw [hml]; rfl) rfl (by decide) (by decide) (Nat.le_of_ble_eq_true rfl) (by decide) (by decide) fun v3 T3 L3 X3 q3 => ?_
  obtain ⟨rfl, Nq3, K3, Fp3_0⟩ := q3
  have N3 := Fr.app N2 Nq3
  refine k_some K (w := (.long (NL q1))) ?_
  refine m_lstore K X3.here hx hby #[.val (.long q1), .second, .val (.long q2), .second, .val (.ref b1), .val (.long (NL q1)), .second, .unset, .unset, .unset, .unset, .unset, .unset, .unset, .unset, .unset, .unset, .unset, .unset, .unset, .unset] at_15 rfl rfl ?_
  refine m_aload K X3.here hx hby at_17 rfl rfl rfl ?_
  refine k_callV K X3 hx hby hZ b1 [] [] hown (hw _ (List.mem_of_getElem? (i := 11) rfl)) (hw _ (List.mem_of_getElem? (i := 12) rfl)) (notFace_of_selects (args := #[]) (mvT hZ (hw _ (List.mem_of_getElem? (i := 14) rfl)))) (hw _ (List.mem_of_getElem? (i := 14) rfl)) (hw _ (List.mem_of_getElem? (i := 13) rfl)) (hw _ (List.mem_of_getElem? (i := 2) rfl)) (hw _ (List.mem_of_getElem? (i := 15) rfl)) (c3 l Z a0 hw b1 (q1 + (-7046029254386353131 : Int64)) T3.heap n0 (Nat.le_trans Z0 (Nat.le_trans (Nat.le_trans (Nat.le_trans (Nat.le_refl _) E1.1) K2.1) K3.1)) ((A1.keep K2).keep K3) Fp3_0 g_b1) rfl ((A1.keep K2).keep K3) rfl rfl pd_1 rfl at_19 (by rw [hml]; rfl) rfl (by decide) (by decide) (Nat.le_of_ble_eq_true rfl) (by decide) (by decide) fun v4 T4 L4 X4 q4 => ?_
  obtain ⟨rfl, Nq4, K4, Fp4_0⟩ := q4
  have N4 := Fr.app N3 Nq4
  refine k_some K (w := (.long (w0_1 q1))) ?_
  refine m_lstore K X4.here hx hby #[.val (.long q1), .second, .val (.long q2), .second, .val (.ref b1), .val (.long (NL q1)), .second, .val (.long (w0_1 q1)), .second, .unset, .unset, .unset, .unset, .unset, .unset, .unset, .unset, .unset, .unset, .unset, .unset] at_22 rfl rfl ?_
  refine k_newO K X4 hx hby hZ hown (hw _ (List.mem_of_getElem? (i := 0) rfl)) (hw _ (List.mem_of_getElem? (i := 1) rfl)) (hw _ (List.mem_of_getElem? (i := 2) rfl)) rfl at_24 rfl (by decide) (by decide) fun T5 h5 b5 X5 e5 E5 g5 A5 D5 => ?_
  have sz_b5 : h0.size ≤ b5 := Nat.le_trans (Nat.le_trans (Nat.le_trans (Nat.le_trans (Nat.le_trans (Nat.le_refl _) E1.1) K2.1) K3.1) K4.1) (Nat.le_of_eq g5.symm)
  have g_b5 : n0 ≤ b5 := Nat.le_trans Z0 sz_b5
  have F_state_b5 : Fld Z h5 b5 "com/example/craterworks/craterworks/SeededRandom" "state" "J" (.long (0 : Int64)) := D5 (Or.inl (hw _ (List.mem_of_getElem? (i := 10) rfl))) (ty := .long) (by decide)
  refine m_dup K X5.here hx hby at_27 rfl rfl ?_
  refine m_lloadN K X5.here hx hby at_28 rfl rfl ?_
  refine m_ldc2 K X5 hx hby hZ hown (hw _ (List.mem_of_getElem? (i := 19) rfl)) at_29 rfl ?_
  refine m_ladd K X5.here hx hby (w0_2 q1) at_32 rfl rfl ?_
  refine k_callP K X5 hx hby hZ b5 [(.long (w0_2 q1))] [(.ref b5)] hown (hw _ (List.mem_of_getElem? (i := 3) rfl)) (hw _ (List.mem_of_getElem? (i := 4) rfl)) (hw _ (List.mem_of_getElem? (i := 2) rfl)) (hw _ (List.mem_of_getElem? (i := 5) rfl)) rfl (c1 l Z a0 hw b5 (w0_2 q1) (0 : Int64) h5 n0 (Nat.le_trans Z0 (Nat.le_trans (Nat.le_trans (Nat.le_trans (Nat.le_trans (Nat.le_trans (Nat.le_refl _) E1.1) K2.1) K3.1) K4.1) E5.1)) A5 F_state_b5 g_b5) e5 rfl rfl pd_0 rfl at_33 (by rw [hml]; rfl) rfl (by decide) (by decide) (Nat.le_of_ble_eq_true rfl) (by decide) (by decide) fun v6 T6 L6 X6 q6 => ?_
  obtain ⟨rfl, Nq6, K6, Fp6_0⟩ := q6
  have N6 := Fr.app N4 Nq6
  refine k_none K ?_
  refine m_astore K X6.here hx hby #[.val (.long q1), .second, .val (.long q2), .second, .val (.ref b1), .val (.long (NL q1)), .second, .val (.long (w0_1 q1)), .second, .val (.ref b5), .unset, .unset, .unset, .unset, .unset, .unset, .unset, .unset, .unset, .unset, .unset] at_36 rfl rfl rfl ?_
  refine m_aload K X6.here hx hby at_38 rfl rfl rfl ?_
  refine k_callV K X6 hx hby hZ b5 [] [] hown (hw _ (List.mem_of_getElem? (i := 11) rfl)) (hw _ (List.mem_of_getElem? (i := 12) rfl)) (notFace_of_selects (args := #[]) (mvT hZ (hw _ (List.mem_of_getElem? (i := 14) rfl)))) (hw _ (List.mem_of_getElem? (i := 14) rfl)) (hw _ (List.mem_of_getElem? (i := 13) rfl)) (hw _ (List.mem_of_getElem? (i := 2) rfl)) (hw _ (List.mem_of_getElem? (i := 15) rfl)) (c3 l Z a0 hw b5 (w0_2 q1) T6.heap n0 (Nat.le_trans Z0 (Nat.le_trans (Nat.le_trans (Nat.le_trans (Nat.le_trans (Nat.le_trans (Nat.le_trans (Nat.le_refl _) E1.1) K2.1) K3.1) K4.1) E5.1) K6.1)) (A5.keep K6) Fp6_0 g_b5) rfl (A5.keep K6) rfl rfl pd_1 rfl at_40 (by rw [hml]; rfl) rfl (by decide) (by decide) (Nat.le_of_ble_eq_true rfl) (by decide) (by decide) fun v7 T7 L7 X7 q7 => ?_
  obtain ⟨rfl, Nq7, K7, Fp7_0⟩ := q7
  have N7 := Fr.app N6 Nq7
  refine k_some K (w := (.long (NL (w0_2 q1)))) ?_
  refine m_lstore K X7.here hx hby #[.val (.long q1), .second, .val (.long q2), .second, .val (.ref b1), .val (.long (NL q1)), .second, .val (.long (w0_1 q1)), .second, .val (.ref b5), .val (.long (NL (w0_2 q1))), .second, .unset, .unset, .unset, .unset, .unset, .unset, .unset, .unset, .unset] at_43 rfl rfl ?_
  refine k_newO K X7 hx hby hZ hown (hw _ (List.mem_of_getElem? (i := 0) rfl)) (hw _ (List.mem_of_getElem? (i := 1) rfl)) (hw _ (List.mem_of_getElem? (i := 2) rfl)) rfl at_45 rfl (by decide) (by decide) fun T8 h8 b8 X8 e8 E8 g8 A8 D8 => ?_
  have sz_b8 : h0.size ≤ b8 := Nat.le_trans (Nat.le_trans (Nat.le_trans (Nat.le_trans (Nat.le_trans (Nat.le_trans (Nat.le_trans (Nat.le_trans (Nat.le_refl _) E1.1) K2.1) K3.1) K4.1) E5.1) K6.1) K7.1) (Nat.le_of_eq g8.symm)
  have g_b8 : n0 ≤ b8 := Nat.le_trans Z0 sz_b8
  have F_state_b8 : Fld Z h8 b8 "com/example/craterworks/craterworks/SeededRandom" "state" "J" (.long (0 : Int64)) := D8 (Or.inl (hw _ (List.mem_of_getElem? (i := 10) rfl))) (ty := .long) (by decide)
  refine m_dup K X8.here hx hby at_48 rfl rfl ?_
  refine m_lloadN K X8.here hx hby at_49 rfl rfl ?_
  refine k_callP K X8 hx hby hZ b8 [(.long q2)] [(.ref b8)] hown (hw _ (List.mem_of_getElem? (i := 3) rfl)) (hw _ (List.mem_of_getElem? (i := 4) rfl)) (hw _ (List.mem_of_getElem? (i := 2) rfl)) (hw _ (List.mem_of_getElem? (i := 5) rfl)) rfl (c1 l Z a0 hw b8 q2 (0 : Int64) h8 n0 (Nat.le_trans Z0 (Nat.le_trans (Nat.le_trans (Nat.le_trans (Nat.le_trans (Nat.le_trans (Nat.le_trans (Nat.le_trans (Nat.le_trans (Nat.le_refl _) E1.1) K2.1) K3.1) K4.1) E5.1) K6.1) K7.1) E8.1)) A8 F_state_b8 g_b8) e8 rfl rfl pd_0 rfl at_50 (by rw [hml]; rfl) rfl (by decide) (by decide) (Nat.le_of_ble_eq_true rfl) (by decide) (by decide) fun v9 T9 L9 X9 q9 => ?_
  obtain ⟨rfl, Nq9, K9, Fp9_0⟩ := q9
  have N9 := Fr.app N7 Nq9
  refine k_none K ?_
  refine m_astore K X9.here hx hby #[.val (.long q1), .second, .val (.long q2), .second, .val (.ref b1), .val (.long (NL q1)), .second, .val (.long (w0_1 q1)), .second, .val (.ref b5), .val (.long (NL (w0_2 q1))), .second, .val (.ref b8), .unset, .unset, .unset, .unset, .unset, .unset, .unset, .unset] at_53 rfl rfl rfl ?_
  refine m_aload K X9.here hx hby at_55 rfl rfl rfl ?_
  refine k_callV K X9 hx hby hZ b8 [] [] hown (hw _ (List.mem_of_getElem? (i := 11) rfl)) (hw _ (List.mem_of_getElem? (i := 12) rfl)) (notFace_of_selects (args := #[]) (mvT hZ (hw _ (List.mem_of_getElem? (i := 14) rfl)))) (hw _ (List.mem_of_getElem? (i := 14) rfl)) (hw _ (List.mem_of_getElem? (i := 13) rfl)) (hw _ (List.mem_of_getElem? (i := 2) rfl)) (hw _ (List.mem_of_getElem? (i := 15) rfl)) (c3 l Z a0 hw b8 q2 T9.heap n0 (Nat.le_trans Z0 (Nat.le_trans (Nat.le_trans (Nat.le_trans (Nat.le_trans (Nat.le_trans (Nat.le_trans (Nat.le_trans (Nat.le_trans (Nat.le_trans (Nat.le_refl _) E1.1) K2.1) K3.1) K4.1) E5.1) K6.1) K7.1) E8.1) K9.1)) (A8.keep K9) Fp9_0 g_b8) rfl (A8.keep K9) rfl rfl pd_1 rfl at_57 (by rw [hml]; rfl) rfl (by decide) (by decide) (Nat.le_of_ble_eq_true rfl) (by decide) (by decide) fun v10 T10 L10 X10 q10 => ?_
  obtain ⟨rfl, Nq10, K10, Fp10_0⟩ := q10
  have N10 := Fr.app N9 Nq10
  refine k_some K (w := (.long (NL q2))) ?_
  refine m_lstore K X10.here hx hby #[.val (.long q1), .second, .val (.long q2), .second, .val (.ref b1), .val (.long (NL q1)), .second, .val (.long (w0_1 q1)), .second, .val (.ref b5), .val (.long (NL (w0_2 q1))), .second, .val (.ref b8), .val (.long (NL q2)), .second, .unset, .unset, .unset, .unset, .unset, .unset] at_60 rfl rfl ?_
  refine k_newO K X10 hx hby hZ hown (hw _ (List.mem_of_getElem? (i := 0) rfl)) (hw _ (List.mem_of_getElem? (i := 1) rfl)) (hw _ (List.mem_of_getElem? (i := 2) rfl)) rfl at_62 rfl (by decide) (by decide) fun T11 h11 b11 X11 e11 E11 g11 A11 D11 => ?_
  have sz_b11 : h0.size ≤ b11 := Nat.le_trans (Nat.le_trans (Nat.le_trans (Nat.le_trans (Nat.le_trans (Nat.le_trans (Nat.le_trans (Nat.le_trans (Nat.le_trans (Nat.le_trans (Nat.le_trans (Nat.le_refl _) E1.1) K2.1) K3.1) K4.1) E5.1) K6.1) K7.1) E8.1) K9.1) K10.1) (Nat.le_of_eq g11.symm)
  have g_b11 : n0 ≤ b11 := Nat.le_trans Z0 sz_b11
  have F_state_b11 : Fld Z h11 b11 "com/example/craterworks/craterworks/SeededRandom" "state" "J" (.long (0 : Int64)) := D11 (Or.inl (hw _ (List.mem_of_getElem? (i := 10) rfl))) (ty := .long) (by decide)
  refine m_dup K X11.here hx hby at_65 rfl rfl ?_
  refine m_lconst K X11.here hx hby (0 : Int64) at_66 rfl rfl ?_
  refine k_callP K X11 hx hby hZ b11 [(.long (0 : Int64))] [(.ref b11)] hown (hw _ (List.mem_of_getElem? (i := 3) rfl)) (hw _ (List.mem_of_getElem? (i := 4) rfl)) (hw _ (List.mem_of_getElem? (i := 2) rfl)) (hw _ (List.mem_of_getElem? (i := 5) rfl)) rfl (c1 l Z a0 hw b11 (0 : Int64) (0 : Int64) h11 n0 (Nat.le_trans Z0 (Nat.le_trans (Nat.le_trans (Nat.le_trans (Nat.le_trans (Nat.le_trans (Nat.le_trans (Nat.le_trans (Nat.le_trans (Nat.le_trans (Nat.le_trans (Nat.le_trans (Nat.le_refl _) E1.1) K2.1) K3.1) K4.1) E5.1) K6.1) K7.1) E8.1) K9.1) K10.1) E11.1)) A11 F_state_b11 g_b11) e11 rfl rfl pd_0 rfl at_67 (by rw [hml]; rfl) rfl (by decide) (by decide) (Nat.le_of_ble_eq_true rfl) (by decide) (by decide) fun v12 T12 L12 X12 q12 => ?_
  obtain ⟨rfl, Nq12, K12, Fp12_0⟩ := q12
  have N12 := Fr.app N10 Nq12
  refine k_none K ?_
  refine m_astore K X12.here hx hby #[.val (.long q1), .second, .val (.long q2), .second, .val (.ref b1), .val (.long (NL q1)), .second, .val (.long (w0_1 q1)), .second, .val (.ref b5), .val (.long (NL (w0_2 q1))), .second, .val (.ref b8), .val (.long (NL q2)), .second, .val (.ref b11), .unset, .unset, .unset, .unset, .unset] at_70 rfl rfl rfl ?_
  refine m_aload K X12.here hx hby at_72 rfl rfl rfl ?_
  refine k_callV K X12 hx hby hZ b11 [] [] hown (hw _ (List.mem_of_getElem? (i := 11) rfl)) (hw _ (List.mem_of_getElem? (i := 12) rfl)) (notFace_of_selects (args := #[]) (mvT hZ (hw _ (List.mem_of_getElem? (i := 14) rfl)))) (hw _ (List.mem_of_getElem? (i := 14) rfl)) (hw _ (List.mem_of_getElem? (i := 13) rfl)) (hw _ (List.mem_of_getElem? (i := 2) rfl)) (hw _ (List.mem_of_getElem? (i := 15) rfl)) (c3 l Z a0 hw b11 (0 : Int64) T12.heap n0 (Nat.le_trans Z0 (Nat.le_trans (Nat.le_trans (Nat.le_trans (Nat.le_trans (Nat.le_trans (Nat.le_trans (Nat.le_trans (Nat.le_trans (Nat.le_trans (Nat.le_trans (Nat.le_trans (Nat.le_trans (Nat.le_refl _) E1.1) K2.1) K3.1) K4.1) E5.1) K6.1) K7.1) E8.1) K9.1) K10.1) E11.1) K12.1)) (A11.keep K12) Fp12_0 g_b11) rfl (A11.keep K12) rfl rfl pd_1 rfl at_74 (by rw [hml]; rfl) rfl (by decide) (by decide) (Nat.le_of_ble_eq_true rfl) (by decide) (by decide) fun v13 T13 L13 X13 q13 => ?_
  obtain ⟨rfl, Nq13, K13, Fp13_0⟩ := q13
  have N13 := Fr.app N12 Nq13
  refine k_some K (w := (.long (NL (0 : Int64)))) ?_
  refine m_lstore K X13.here hx hby #[.val (.long q1), .second, .val (.long q2), .second, .val (.ref b1), .val (.long (NL q1)), .second, .val (.long (w0_1 q1)), .second, .val (.ref b5), .val (.long (NL (w0_2 q1))), .second, .val (.ref b8), .val (.long (NL q2)), .second, .val (.ref b11), .val (.long (NL (0 : Int64))), .second, .unset, .unset, .unset] at_77 rfl rfl ?_
  refine m_lload K X13.here hx hby at_79 rfl rfl ?_
  refine m_lload K X13.here hx hby at_81 rfl rfl ?_
  refine m_lcmp K X13.here hx hby (lcmpW (w0_1 q1) (NL (w0_2 q1))) at_83 rfl rfl ?_
  obtain ⟨T15, X15, e15, st15⟩ : Mx X13 T13.heap (mkF m 92 #[.val (.long q1), .second, .val (.long q2), .second, .val (.ref b1), .val (.long (NL q1)), .second, .val (.long (w0_1 q1)), .second, .val (.ref b5), .val (.long (NL (w0_2 q1))), .second, .val (.ref b8), .val (.long (NL q2)), .second, .val (.ref b11), .val (.long (NL (0 : Int64))), .second, .unset, .unset, .unset] [(.int (w0_3 q1))]) (T13.setTop (mkF m 84 #[.val (.long q1), .second, .val (.long q2), .second, .val (.ref b1), .val (.long (NL q1)), .second, .val (.long (w0_1 q1)), .second, .val (.ref b5), .val (.long (NL (w0_2 q1))), .second, .val (.ref b8), .val (.long (NL q2)), .second, .val (.ref b11), .val (.long (NL (0 : Int64))), .second, .unset, .unset, .unset] [(.int (lcmpW (w0_1 q1) (NL (w0_2 q1))))])) := by
    refine Mx.with fun K => ?_
    by_cases hc84_14 : (w0_1 q1) = (NL (w0_2 q1))
    · refine m_ifN K X13.here hx hby (q := 87) at_84 ((if0 _ _).trans (teq ((lw_eq (w0_1 q1) (NL (w0_2 q1))).mpr hc84_14)).2) rfl ?_
      refine m_iconst K X13.here hx hby (1 : Int32) at_87 rfl rfl ?_
      refine m_goto K X13.here hx hby (q := 92) at_88 (by decide) rfl ?_
      rw [show ((w0_3 q1) : Int32) = (1 : Int32) from if_pos hc84_14]
      exact Mx.here X13 rfl
    · refine m_ifY K X13.here hx hby (q := 91) at_84 ((if0 _ _).trans (feq (fun q => hc84_14 ((lw_eq (w0_1 q1) (NL (w0_2 q1))).mp q))).2) (by decide) rfl ?_
      refine m_iconst K X13.here hx hby (0 : Int32) at_91 rfl rfl ?_
      rw [show ((w0_3 q1) : Int32) = (0 : Int32) from if_neg hc84_14]
      exact Mx.here X13 rfl
  refine k_go K st15 ?_
  refine m_istore K X15.here hx hby #[.val (.long q1), .second, .val (.long q2), .second, .val (.ref b1), .val (.long (NL q1)), .second, .val (.long (w0_1 q1)), .second, .val (.ref b5), .val (.long (NL (w0_2 q1))), .second, .val (.ref b8), .val (.long (NL q2)), .second, .val (.ref b11), .val (.long (NL (0 : Int64))), .second, .val (.int (w0_3 q1)), .unset, .unset] at_92 rfl rfl ?_
  refine m_lload K X15.here hx hby at_94 rfl rfl ?_
  refine m_lload K X15.here hx hby at_96 rfl rfl ?_
  refine m_lcmp K X15.here hx hby (lcmpW (NL q1) (NL q2)) at_98 rfl rfl ?_
  obtain ⟨T17, X17, e17, st17⟩ : Mx X15 T13.heap (mkF m 107 #[.val (.long q1), .second, .val (.long q2), .second, .val (.ref b1), .val (.long (NL q1)), .second, .val (.long (w0_1 q1)), .second, .val (.ref b5), .val (.long (NL (w0_2 q1))), .second, .val (.ref b8), .val (.long (NL q2)), .second, .val (.ref b11), .val (.long (NL (0 : Int64))), .second, .val (.int (w0_3 q1)), .unset, .unset] [(.int (w0_4 q1 q2))]) (T15.setTop (mkF m 99 #[.val (.long q1), .second, .val (.long q2), .second, .val (.ref b1), .val (.long (NL q1)), .second, .val (.long (w0_1 q1)), .second, .val (.ref b5), .val (.long (NL (w0_2 q1))), .second, .val (.ref b8), .val (.long (NL q2)), .second, .val (.ref b11), .val (.long (NL (0 : Int64))), .second, .val (.int (w0_3 q1)), .unset, .unset] [(.int (lcmpW (NL q1) (NL q2)))])) := by
    refine Mx.with fun K => ?_
    by_cases hc99_16 : (NL q1) = (NL q2)
    · refine m_ifN K X15.here hx hby (q := 102) at_99 ((if0 _ _).trans (teq ((lw_eq (NL q1) (NL q2)).mpr hc99_16)).2) rfl ?_
      refine m_iconst K X15.here hx hby (1 : Int32) at_102 rfl rfl ?_
      refine m_goto K X15.here hx hby (q := 107) at_103 (by decide) rfl ?_
      rw [show ((w0_4 q1 q2) : Int32) = (1 : Int32) from if_pos hc99_16]
      exact Mx.here X15 e15
    · refine m_ifY K X15.here hx hby (q := 106) at_99 ((if0 _ _).trans (feq (fun q => hc99_16 ((lw_eq (NL q1) (NL q2)).mp q))).2) (by decide) rfl ?_
      refine m_iconst K X15.here hx hby (0 : Int32) at_106 rfl rfl ?_
      rw [show ((w0_4 q1 q2) : Int32) = (0 : Int32) from if_neg hc99_16]
      exact Mx.here X15 e15
  refine k_go K st17 ?_
  refine m_lloadN K X17.here hx hby at_107 rfl rfl ?_
  refine m_lloadN K X17.here hx hby at_108 rfl rfl ?_
  refine m_lcmp K X17.here hx hby (lcmpW q1 q2) at_109 rfl rfl ?_
  obtain ⟨T19, X19, e19, st19⟩ : Mx X17 T13.heap (mkF m 118 #[.val (.long q1), .second, .val (.long q2), .second, .val (.ref b1), .val (.long (NL q1)), .second, .val (.long (w0_1 q1)), .second, .val (.ref b5), .val (.long (NL (w0_2 q1))), .second, .val (.ref b8), .val (.long (NL q2)), .second, .val (.ref b11), .val (.long (NL (0 : Int64))), .second, .val (.int (w0_3 q1)), .unset, .unset] [(.int (w0_5 q1 q2)), (.int (w0_4 q1 q2))]) (T17.setTop (mkF m 110 #[.val (.long q1), .second, .val (.long q2), .second, .val (.ref b1), .val (.long (NL q1)), .second, .val (.long (w0_1 q1)), .second, .val (.ref b5), .val (.long (NL (w0_2 q1))), .second, .val (.ref b8), .val (.long (NL q2)), .second, .val (.ref b11), .val (.long (NL (0 : Int64))), .second, .val (.int (w0_3 q1)), .unset, .unset] [(.int (lcmpW q1 q2)), (.int (w0_4 q1 q2))])) := by
    refine Mx.with fun K => ?_
    by_cases hc110_18 : q1 = q2
    · refine m_ifN K X17.here hx hby (q := 113) at_110 ((if0 _ _).trans (teq ((lw_eq q1 q2).mpr hc110_18)).2) rfl ?_
      refine m_iconst K X17.here hx hby (1 : Int32) at_113 rfl rfl ?_
      refine m_goto K X17.here hx hby (q := 118) at_114 (by decide) rfl ?_
      rw [show ((w0_5 q1 q2) : Int32) = (1 : Int32) from if_pos hc110_18]
      exact Mx.here X17 e17
    · refine m_ifY K X17.here hx hby (q := 117) at_110 ((if0 _ _).trans (feq (fun q => hc110_18 ((lw_eq q1 q2).mp q))).2) (by decide) rfl ?_
      refine m_iconst K X17.here hx hby (0 : Int32) at_117 rfl rfl ?_
      rw [show ((w0_5 q1 q2) : Int32) = (0 : Int32) from if_neg hc110_18]
      exact Mx.here X17 e17
  refine k_go K st19 ?_
  obtain ⟨T21, X21, e21, st21⟩ : Mx X19 T13.heap (mkF m 126 #[.val (.long q1), .second, .val (.long q2), .second, .val (.ref b1), .val (.long (NL q1)), .second, .val (.long (w0_1 q1)), .second, .val (.ref b5), .val (.long (NL (w0_2 q1))), .second, .val (.ref b8), .val (.long (NL q2)), .second, .val (.ref b11), .val (.long (NL (0 : Int64))), .second, .val (.int (w0_3 q1)), .unset, .unset] [(.int (w0_6 q1 q2))]) (T19.setTop (mkF m 118 #[.val (.long q1), .second, .val (.long q2), .second, .val (.ref b1), .val (.long (NL q1)), .second, .val (.long (w0_1 q1)), .second, .val (.ref b5), .val (.long (NL (w0_2 q1))), .second, .val (.ref b8), .val (.long (NL q2)), .second, .val (.ref b11), .val (.long (NL (0 : Int64))), .second, .val (.int (w0_3 q1)), .unset, .unset] [(.int (w0_5 q1 q2)), (.int (w0_4 q1 q2))])) := by
    refine Mx.with fun K => ?_
    by_cases hc118_20 : (w0_4 q1 q2) = (w0_5 q1 q2)
    · refine m_icmpN K X19.here hx hby (q := 121) at_118 (teq hc118_20).2 rfl ?_
      refine m_iconst K X19.here hx hby (1 : Int32) at_121 rfl rfl ?_
      refine m_goto K X19.here hx hby (q := 126) at_122 (by decide) rfl ?_
      rw [show ((w0_6 q1 q2) : Int32) = (1 : Int32) from if_pos hc118_20]
      exact Mx.here X19 e19
    · refine m_icmpY K X19.here hx hby (q := 125) at_118 (feq hc118_20).2 (by decide) rfl ?_
      refine m_iconst K X19.here hx hby (0 : Int32) at_125 rfl rfl ?_
      rw [show ((w0_6 q1 q2) : Int32) = (0 : Int32) from if_neg hc118_20]
      exact Mx.here X19 e19
  refine k_go K st21 ?_
  refine m_istore K X21.here hx hby #[.val (.long q1), .second, .val (.long q2), .second, .val (.ref b1), .val (.long (NL q1)), .second, .val (.long (w0_1 q1)), .second, .val (.ref b5), .val (.long (NL (w0_2 q1))), .second, .val (.ref b8), .val (.long (NL q2)), .second, .val (.ref b11), .val (.long (NL (0 : Int64))), .second, .val (.int (w0_3 q1)), .val (.int (w0_6 q1 q2)), .unset] at_126 rfl rfl ?_
  refine m_lload K X21.here hx hby at_128 rfl rfl ?_
  refine m_ldc2 K X21 hx hby hZ hown (hw _ (List.mem_of_getElem? (i := 20) rfl)) at_130 rfl ?_
  refine m_lcmp K X21.here hx hby (lcmpW (NL (0 : Int64)) (-2152535657050944081 : Int64)) at_133 rfl rfl ?_
  obtain ⟨T23, X23, e23, st23⟩ : Mx X21 T13.heap (mkF m 142 #[.val (.long q1), .second, .val (.long q2), .second, .val (.ref b1), .val (.long (NL q1)), .second, .val (.long (w0_1 q1)), .second, .val (.ref b5), .val (.long (NL (w0_2 q1))), .second, .val (.ref b8), .val (.long (NL q2)), .second, .val (.ref b11), .val (.long (NL (0 : Int64))), .second, .val (.int (w0_3 q1)), .val (.int (w0_6 q1 q2)), .unset] [(.int (w0_7 ))]) (T21.setTop (mkF m 134 #[.val (.long q1), .second, .val (.long q2), .second, .val (.ref b1), .val (.long (NL q1)), .second, .val (.long (w0_1 q1)), .second, .val (.ref b5), .val (.long (NL (w0_2 q1))), .second, .val (.ref b8), .val (.long (NL q2)), .second, .val (.ref b11), .val (.long (NL (0 : Int64))), .second, .val (.int (w0_3 q1)), .val (.int (w0_6 q1 q2)), .unset] [(.int (lcmpW (NL (0 : Int64)) (-2152535657050944081 : Int64)))])) := by
    refine Mx.with fun K => ?_
    by_cases hc134_22 : (NL (0 : Int64)) = (-2152535657050944081 : Int64)
    · refine m_ifN K X21.here hx hby (q := 137) at_134 ((if0 _ _).trans (teq ((lw_eq (NL (0 : Int64)) (-2152535657050944081 : Int64)).mpr hc134_22)).2) rfl ?_
      refine m_iconst K X21.here hx hby (1 : Int32) at_137 rfl rfl ?_
      refine m_goto K X21.here hx hby (q := 142) at_138 (by decide) rfl ?_
      rw [show ((w0_7 ) : Int32) = (1 : Int32) from if_pos hc134_22]
      exact Mx.here X21 e21
    · refine m_ifY K X21.here hx hby (q := 141) at_134 ((if0 _ _).trans (feq (fun q => hc134_22 ((lw_eq (NL (0 : Int64)) (-2152535657050944081 : Int64)).mp q))).2) (by decide) rfl ?_
      refine m_iconst K X21.here hx hby (0 : Int32) at_141 rfl rfl ?_
      rw [show ((w0_7 ) : Int32) = (0 : Int32) from if_neg hc134_22]
      exact Mx.here X21 e21
  refine k_go K st23 ?_
  refine m_istore K X23.here hx hby #[.val (.long q1), .second, .val (.long q2), .second, .val (.ref b1), .val (.long (NL q1)), .second, .val (.long (w0_1 q1)), .second, .val (.ref b5), .val (.long (NL (w0_2 q1))), .second, .val (.ref b8), .val (.long (NL q2)), .second, .val (.ref b11), .val (.long (NL (0 : Int64))), .second, .val (.int (w0_3 q1)), .val (.int (w0_6 q1 q2)), .val (.int (w0_7 ))] at_142 rfl rfl ?_
  refine m_iload K X23.here hx hby at_144 rfl rfl ?_
  obtain ⟨T29, X29, e29, st29⟩ : Mx X23 T13.heap (mkF m 164 #[.val (.long q1), .second, .val (.long q2), .second, .val (.ref b1), .val (.long (NL q1)), .second, .val (.long (w0_1 q1)), .second, .val (.ref b5), .val (.long (NL (w0_2 q1))), .second, .val (.ref b8), .val (.long (NL q2)), .second, .val (.ref b11), .val (.long (NL (0 : Int64))), .second, .val (.int (w0_3 q1)), .val (.int (w0_6 q1 q2)), .val (.int (w0_7 ))] [(.int (w0_10 q1 q2))]) (T23.setTop (mkF m 146 #[.val (.long q1), .second, .val (.long q2), .second, .val (.ref b1), .val (.long (NL q1)), .second, .val (.long (w0_1 q1)), .second, .val (.ref b5), .val (.long (NL (w0_2 q1))), .second, .val (.ref b8), .val (.long (NL q2)), .second, .val (.ref b11), .val (.long (NL (0 : Int64))), .second, .val (.int (w0_3 q1)), .val (.int (w0_6 q1 q2)), .val (.int (w0_7 ))] [(.int (w0_3 q1))])) := by
    refine Mx.with fun K => ?_
    by_cases hc146_24 : (w0_3 q1) = (0 : Int32)
    · refine m_ifY K X23.here hx hby (q := 163) at_146 ((if0 _ _).trans (teq hc146_24).1) (by decide) rfl ?_
      refine m_iconst K X23.here hx hby (0 : Int32) at_163 rfl rfl ?_
      rw [show ((w0_10 q1 q2) : Int32) = (0 : Int32) from if_pos hc146_24]
      exact Mx.here X23 e23
    · refine m_ifN K X23.here hx hby (q := 149) at_146 ((if0 _ _).trans (feq hc146_24).1) rfl ?_
      refine m_iload K X23.here hx hby at_149 rfl rfl ?_
      obtain ⟨T28, X28, e28, st28⟩ : Mx X23 T13.heap (mkF m 164 #[.val (.long q1), .second, .val (.long q2), .second, .val (.ref b1), .val (.long (NL q1)), .second, .val (.long (w0_1 q1)), .second, .val (.ref b5), .val (.long (NL (w0_2 q1))), .second, .val (.ref b8), .val (.long (NL q2)), .second, .val (.ref b11), .val (.long (NL (0 : Int64))), .second, .val (.int (w0_3 q1)), .val (.int (w0_6 q1 q2)), .val (.int (w0_7 ))] [(.int (w0_9 q1 q2))]) (T23.setTop (mkF m 151 #[.val (.long q1), .second, .val (.long q2), .second, .val (.ref b1), .val (.long (NL q1)), .second, .val (.long (w0_1 q1)), .second, .val (.ref b5), .val (.long (NL (w0_2 q1))), .second, .val (.ref b8), .val (.long (NL q2)), .second, .val (.ref b11), .val (.long (NL (0 : Int64))), .second, .val (.int (w0_3 q1)), .val (.int (w0_6 q1 q2)), .val (.int (w0_7 ))] [(.int (w0_6 q1 q2))])) := by
        refine Mx.with fun K => ?_
        by_cases hc151_25 : (w0_6 q1 q2) = (0 : Int32)
        · refine m_ifY K X23.here hx hby (q := 163) at_151 ((if0 _ _).trans (teq hc151_25).1) (by decide) rfl ?_
          refine m_iconst K X23.here hx hby (0 : Int32) at_163 rfl rfl ?_
          rw [show ((w0_9 q1 q2) : Int32) = (0 : Int32) from if_pos hc151_25]
          exact Mx.here X23 e23
        · refine m_ifN K X23.here hx hby (q := 154) at_151 ((if0 _ _).trans (feq hc151_25).1) rfl ?_
          refine m_iload K X23.here hx hby at_154 rfl rfl ?_
          obtain ⟨T27, X27, e27, st27⟩ : Mx X23 T13.heap (mkF m 164 #[.val (.long q1), .second, .val (.long q2), .second, .val (.ref b1), .val (.long (NL q1)), .second, .val (.long (w0_1 q1)), .second, .val (.ref b5), .val (.long (NL (w0_2 q1))), .second, .val (.ref b8), .val (.long (NL q2)), .second, .val (.ref b11), .val (.long (NL (0 : Int64))), .second, .val (.int (w0_3 q1)), .val (.int (w0_6 q1 q2)), .val (.int (w0_7 ))] [(.int (w0_8 ))]) (T23.setTop (mkF m 156 #[.val (.long q1), .second, .val (.long q2), .second, .val (.ref b1), .val (.long (NL q1)), .second, .val (.long (w0_1 q1)), .second, .val (.ref b5), .val (.long (NL (w0_2 q1))), .second, .val (.ref b8), .val (.long (NL q2)), .second, .val (.ref b11), .val (.long (NL (0 : Int64))), .second, .val (.int (w0_3 q1)), .val (.int (w0_6 q1 q2)), .val (.int (w0_7 ))] [(.int (w0_7 ))])) := by
            refine Mx.with fun K => ?_
            by_cases hc156_26 : (w0_7 ) = (0 : Int32)
            · refine m_ifY K X23.here hx hby (q := 163) at_156 ((if0 _ _).trans (teq hc156_26).1) (by decide) rfl ?_
              refine m_iconst K X23.here hx hby (0 : Int32) at_163 rfl rfl ?_
              rw [show ((w0_8 ) : Int32) = (0 : Int32) from if_pos hc156_26]
              exact Mx.here X23 e23
            · refine m_ifN K X23.here hx hby (q := 159) at_156 ((if0 _ _).trans (feq hc156_26).1) rfl ?_
              refine m_iconst K X23.here hx hby (1 : Int32) at_159 rfl rfl ?_
              refine m_goto K X23.here hx hby (q := 164) at_160 (by decide) rfl ?_
              rw [show ((w0_8 ) : Int32) = (1 : Int32) from if_neg hc156_26]
              exact Mx.here X23 e23
          refine k_go K st27 ?_
          rw [show ((w0_9 q1 q2) : Int32) = (w0_8 ) from if_neg hc151_25]
          exact Mx.here X27 e27
      refine k_go K st28 ?_
      rw [show ((w0_10 q1 q2) : Int32) = (w0_9 q1 q2) from if_neg hc146_24]
      exact Mx.here X28 e28
  refine k_go K st29 ?_
  rw [plain q1 q2]
  exact Go.retN X29 hx hby hlk hret (by simp) at_164 (by decide) (by decide) (by decide) (⟨rfl, N13⟩)
set_option maxRecDepth 65536 in
set_option maxHeartbeats 40000000 in
theorem comes_1 {Post : Tables → Env → Array Value → State → Outcome → State → Prop} (hpost : ∀ tb e args s v u, (limb_1_1.after args s (.returned v) u = true ∧ limb_1_2.after args s (.returned v) u = true ∧ True) → FrameEnd s (.returned v) u (Jvm.fieldLocs frame_1_writes args s ++ Jvm.arrayLocs frame_1_arrays args s ++ Jvm.staticLocs frame_1_statics s) 16 128 → Post tb e args s (.returned v) u) :
    ArmFor flags0 classFile x code maxLocals ret World_1 tables_1 room_1 Calls_1 rest_1 Pre_1 Post := by
  intro l hfl _ _ p e ha hc hk s m args below hf hA hF happ hP
  obtain ⟨hcalls, hrest, hpre⟩ := hP
  obtain ⟨-, -, -, hnamed, -, -, -, hat⟩ := (Spec.applies_iff hf).mp happ
  obtain ⟨hg, hn⟩ := and_e (Cond.before_iff.mp (show (Jvm.Cond.and given_1 narrow_1).before args s = true from hpre))
  obtain ⟨g1, g2⟩ := and_e hg
  obtain ⟨w0, w1, rfl⟩ : ∃ w0 w1 : Value, args = #[w0, w1] := by
    have hs : args.size = 2 := by simpa [Cond.value, given_1] using g1
    obtain ⟨L⟩ := args
    match L, hs with
    | [w0, w1], _ => exact ⟨w0, w1, rfl⟩
  obtain ⟨k0, r0⟩ := and_e g2
  obtain ⟨i0, z0⟩ := isL_v k0
  obtain rfl : w0 = (.long i0) := Option.some.inj z0
  obtain ⟨i1, z1⟩ := isL_v r0
  obtain rfl : w1 = (.long i1) := Option.some.inj z1
  have hw := fun d (hd : d ∈ tables_1) => atoms_spec (ws := Jvm.Cond.code x code maxLocals ret :: tables_1) hat d (List.mem_cons_of_mem _ hd)
  have hfit : Fit s := fun {y c} hc i hi => by
    obtain ⟨ha, rfl⟩ := Array.getElem?_eq_some_iff.mp hc
    have q := List.all_eq_true.mp ((Array.all_eq_true_iff_forall_mem.mp hF) _ (Array.getElem_mem ha)) i (List.mem_range.mpr hi)
    simpa [Array.getElem?_eq_getElem hi] using q
  obtain ⟨n, o, h1, h2, h3, _, L, rfl, ⟨rfl, N⟩, hq⟩ := law0 l s _ hw tables_1 i0 i1 s.heap s.heap.size (Nat.le_refl _)  p e ha hc hk s m _ below hf ((Spec.applies_iff_loose hf).mp happ).1 ⟨rfl, State.Warmed39.refl s, rfl⟩ trivial
  refine ⟨n, _, h1, h2, h3, hpost _ _ _ _ _ _ ⟨Cond.after_iff.mpr rfl, Cond.after_iff.mpr (eq_i res_at (Term.int_eval (1)) rfl), trivial⟩ ⟨hq.1, hq.2.1, (hq.2.2.sift fun y hy => Or.inr (N y hy)).mono (by decide) (by decide)⟩⟩
theorem main_1_1 : Claimed_1_1 := comes_1 fun _ _ _ _ _ _ h hF => ⟨h.1, hF⟩
theorem main_1_2 : Claimed_1_2 := comes_1 fun _ _ _ _ _ _ h hF => ⟨h.2.1, hF⟩
end Jvm.Pilot.@@N@@
namespace Jvm.Pilot.@@N@@
open Jvm Jvm.ClassFile Sem Op Lib Jvm.Free Jvm.Stand Jvm.Pilot.@@N@@.Jvm.D
/-! MADE BY PROGRAM (witnessworld.py) out of the Statement's table words and the real class files: 9 classes; the members and pool entries that the words name. The judged class is class 1, her method 1. -/
namespace start1
open Jvm.ClassFile
def u (s : String) : CpInfo := .utf8 (stringToUtf16 s)
/-- a pool by its gaps: so many unusable entries, then the entry; so many at the end -/
def gap : Nat → List CpInfo → List CpInfo
  | 0, r => r
  | n + 1, r => .unusable :: gap n r
def poolList (es : List (Nat × CpInfo)) (last : Nat) : List CpInfo := es.foldr (fun e r => gap e.1 (e.2 :: r)) (gap last [])
def pool (es : List (Nat × CpInfo)) (last : Nat) : Array CpInfo := ⟨poolList es last⟩
def fileOf (pool : Array CpInfo) (this : Nat) (attrs : Array Attribute := #[]) (ms : Array MethodInfo := #[]) (fl : Nat := 33) (sup : Nat := 0) (ifs : Array Nat := #[]) (fds : Array FieldInfo := #[]) : ClassFile where
  minorVersion := 0
  majorVersion := 65
  constantPool := pool
  accessFlags := fl
  thisClass := this
  superClass := sup
  interfaces := ifs
  fields := fds
  methods := ms
  attributes := attrs
def plain (name : String) (sup : Option ClassId) : Class where
  name := name
  kind := .ordinary
  loader := none
  accessFlags := 33
  super := sup
  interfaces := #[]
  cf := none
  fields := #[]
  methods := #[]
  instanceTypes := #[]
  staticTypes := #[]
  resolved := #[]
  callSites := []
  init := .initialized
  statics := none
  mirror := none

def pool0 : Array CpInfo := pool [(5, u "<init>"), (0, u "()V"), (1, .class_ 10), (1, u "java/lang/Object")] 113

def k0c0 : Code := { maxStack := 0, maxLocals := 1, code := object_method_1_code, exceptionTable := #[], attributes := #[] }
def k0m0 : Method := { name := "<init>", desc := "()V", sig := { parameters := [], returnType := none }, accessFlags := 1, code := some k0c0 }
/-- java/lang/Object -/
def k0 : Class := { plain "java/lang/Object" none with
  accessFlags := 33
  interfaces := #[]
  cf := some (fileOf pool0 8 #[] #[{ accessFlags := 1, nameIndex := 5, descriptorIndex := 6, attributes := #[] }] 33 0 #[] #[])
  fields := #[]
  methods := #[k0m0]
  instanceTypes := #[]
  staticTypes := #[]
  resolved := Array.replicate 124 none
  statics := none }

def pool1 : Array CpInfo := pool [(2, .class_ 4), (1, u "java/lang/Object"), (0, u "<init>"), (0, u "()V"), (0, .class_ 8), (0, u "com/example/craterworks/craterworks/SeededRandom"), (0, .methodref 7 10), (0, .nameAndType 5 11), (0, u "(J)V"), (0, .methodref 7 13), (0, .nameAndType 14 15), (0, u "nextLong"), (0, u "()J"), (0, .long 11400714819323198485), (1, .long 16294208416658607535), (1, .class_ 21), (0, u "com/example/craterworks/craterworks/SeededRandomNextLongPinLaw"), (2, u "law"), (0, u "(JJ)Z")] 3

def k1m0 : Method := { name := "<init>", desc := "()V", sig := { parameters := [], returnType := none }, accessFlags := 2, code := none }
def k1c1 : Code := { maxStack := 6, maxLocals := 21, code := code, exceptionTable := #[], attributes := #[] }
def k1m1 : Method := { name := "law", desc := "(JJ)Z", sig := { parameters := [.long, .long], returnType := some .boolean }, accessFlags := 9, code := some k1c1 }
/-- com/example/craterworks/craterworks/SeededRandomNextLongPinLaw -/
def k1 : Class := { plain "com/example/craterworks/craterworks/SeededRandomNextLongPinLaw" (some 0) with
  accessFlags := 49
  interfaces := #[]
  cf := some (fileOf pool1 20 #[] #[{ accessFlags := 2, nameIndex := 5, descriptorIndex := 6, attributes := #[] }, { accessFlags := 9, nameIndex := 24, descriptorIndex := 25, attributes := #[] }] 49 2 #[] #[])
  fields := #[]
  methods := #[k1m0, k1m1]
  instanceTypes := #[]
  staticTypes := #[]
  resolved := Array.replicate 29 none
  statics := none }

def pool2 : Array CpInfo := pool [(1, .methodref 2 3), (0, .class_ 4), (0, .nameAndType 5 6), (0, u "java/lang/Object"), (0, u "<init>"), (0, u "()V"), (0, .fieldref 8 9), (0, .class_ 10), (0, .nameAndType 11 12), (0, u "com/example/craterworks/craterworks/SeededRandom"), (0, u "state"), (0, u "J"), (18, u "(J)V"), (0, .long 11400714819323198485), (1, .long 13787848793156543929), (1, .long 10723151780598845931), (5, u "nextLong"), (0, u "()J"), (18, u "GAMMA"), (1, u "FNV_OFFSET_BASIS"), (0, u "FNV_PRIME"), (0, u "LOW_32_BITS")] 13

def k2c0 : Code := { maxStack := 3, maxLocals := 3, code := prog_3_method_1_code, exceptionTable := #[], attributes := #[] }
def k2m0 : Method := { name := "<init>", desc := "(J)V", sig := { parameters := [.long], returnType := none }, accessFlags := 0, code := some k2c0 }
def k2c1 : Code := { maxStack := 5, maxLocals := 3, code := prog_3_method_3_code, exceptionTable := #[], attributes := #[] }
def k2m1 : Method := { name := "nextLong", desc := "()J", sig := { parameters := [], returnType := some .long }, accessFlags := 0, code := some k2c1 }
/-- com/example/craterworks/craterworks/SeededRandom -/
def k2 : Class := { plain "com/example/craterworks/craterworks/SeededRandom" (some 0) with
  accessFlags := 48
  interfaces := #[]
  cf := some (fileOf pool2 8 #[] #[{ accessFlags := 0, nameIndex := 5, descriptorIndex := 31, attributes := #[] }, { accessFlags := 0, nameIndex := 42, descriptorIndex := 43, attributes := #[] }] 48 2 #[] #[{ accessFlags := 26, nameIndex := 62, descriptorIndex := 12, attributes := #[] }, { accessFlags := 26, nameIndex := 64, descriptorIndex := 12, attributes := #[] }, { accessFlags := 26, nameIndex := 65, descriptorIndex := 12, attributes := #[] }, { accessFlags := 26, nameIndex := 66, descriptorIndex := 12, attributes := #[] }, { accessFlags := 2, nameIndex := 11, descriptorIndex := 12, attributes := #[] }])
  fields := #[{ name := "GAMMA", type := .long, accessFlags := 26, slot := 0, constantValue := 0 }, { name := "FNV_OFFSET_BASIS", type := .long, accessFlags := 26, slot := 1, constantValue := 0 }, { name := "FNV_PRIME", type := .long, accessFlags := 26, slot := 2, constantValue := 0 }, { name := "LOW_32_BITS", type := .long, accessFlags := 26, slot := 3, constantValue := 0 }, { name := "state", type := .long, accessFlags := 2, slot := 0, constantValue := 0 }]
  methods := #[k2m0, k2m1]
  instanceTypes := #[.long]
  staticTypes := #[.long, .long, .long, .long]
  resolved := Array.replicate 80 none
  statics := none }

def pool3 : Array CpInfo := pool [(1, u "java/lang/Cloneable"), (0, .class_ 1), (0, u "java/lang/Object"), (0, .class_ 3)] 3

/-- java/lang/Cloneable -/
def k3 : Class := { plain "java/lang/Cloneable" (some 0) with
  accessFlags := 1537
  interfaces := #[]
  cf := some (fileOf pool3 2 #[] #[] 1537 4 #[] #[])
  fields := #[]
  methods := #[]
  instanceTypes := #[]
  staticTypes := #[]
  resolved := Array.replicate 8 none
  statics := none }

def pool4 : Array CpInfo := pool [(1, u "java/io/Serializable"), (0, .class_ 1), (0, u "java/lang/Object"), (0, .class_ 3)] 3

/-- java/io/Serializable -/
def k4 : Class := { plain "java/io/Serializable" (some 0) with
  accessFlags := 1537
  interfaces := #[]
  cf := some (fileOf pool4 2 #[] #[] 1537 4 #[] #[])
  fields := #[]
  methods := #[]
  instanceTypes := #[]
  staticTypes := #[]
  resolved := Array.replicate 8 none
  statics := none }

/-- the primitive byte -/
def k5 : Class := { plain "byte" none with kind := .primitive 'B', accessFlags := 0x411 }
/-- [B -/
def k6 : Class := { plain "[B" (some 0) with kind := .array 5 .byte, interfaces := #[3, 4], accessFlags := 1041 }

/-- the primitive int -/
def k7 : Class := { plain "int" none with kind := .primitive 'I', accessFlags := 0x411 }
/-- [I -/
def k8 : Class := { plain "[I" (some 0) with kind := .array 7 .int, interfaces := #[3, 4], accessFlags := 1041 }

def heap : Heap := #[]
def classes : Array Class := #[k0, k1, k2, k3, k4, k5, k6, k7, k8]
def interned : List (Array UInt16 × Addr) := []
def slotsUsed : Nat := 0
def theMethod : MethodId := ⟨1, 1⟩
def args0 : Array Value := #[.long 5, .long 3]
def aboutOver (below : List Frame) : State where
  vm := { classes := classes, interned := interned.toArray }
  heap := heap
  slotsUsed := slotsUsed
  threads := #[{ frames := .invoking theMethod args0 :: below }]
def below0 : List Frame := [.native { method := ⟨0, 0⟩, args := #[] }]
def about1 : State := aboutOver below0
def p0 : Program := .bare "" "" ""
def e0 : Env := launch0.env 0 0 0
theorem w_frames : about1.frames = Frame.invoking theMethod args0 :: below0 := rfl
set_option maxRecDepth 65536 in
theorem w_args : argsFit about1.vm theMethod args0 = true := by decide +kernel
set_option maxRecDepth 65536 in
theorem w_heap : heapFits about1 = true := by decide +kernel
set_option maxRecDepth 65536 in
theorem w_runnable : about1.curStatus? = some .runnable := by decide +kernel
set_option maxRecDepth 65536 in
theorem w_alone : about1.alone = true := by decide +kernel
set_option maxRecDepth 65536 in
theorem w_named : about1.methodNamed? x = some theMethod := by decide +kernel
set_option maxRecDepth 65536 in
theorem w_hears : about1.hears theMethod below0 = true := by decide +kernel
set_option maxRecDepth 65536 in
theorem w_ripe : about1.ripe theMethod args0 below0 = true := by decide +kernel
theorem w_running : about1.status = .running := rfl
set_option maxRecDepth 65536 in
theorem w_room : about1.hasRoom e0.platform room_1 = true :=
  launch0.hasRoom_least _ room_1 (by decide +kernel) (by decide +kernel) (by decide +kernel) (by decide +kernel) (by decide +kernel) (by decide +kernel)
theorem allAtoms_all (ts : List Jvm.Cond) (a : Array Jvm.Value) (st : Jvm.State) : (allAtoms ts).before a st = ts.all (fun c => c.before a st) := by
  induction ts with
  | nil => rfl
  | cons c t ih =>
    show (Jvm.Cond.and c (allAtoms t)).before a st = _
    rw [Jvm.Cond.before_and, ih, List.all_cons]
def words1 : List Jvm.Cond := Jvm.Cond.code x code maxLocals ret :: tables_1
/-- a 'code' word, met by the world's own term for the bytes: nothing is compared byte by byte -/
theorem code_word {y : MethodName} {bytes : ByteArray} {mx : Nat} {rt : Option FieldType} {a : Array Value} {s : State} {m : MethodId} {meth : Method} {c : Code} (h1 : s.methodNamed? y = some m) (h2 : s.vm.method? m = some meth) (h3 : meth.code = some c) (h4 : c.code = bytes)
    (h5 : (c.maxLocals == mx && c.exceptionTable.isEmpty && decide (c.maxStack ≤ mostOperands) && decide (meth.sig.returnType = rt) && !meth.locks && decide (parseMethodDescriptor y.desc = some meth.sig)) = true) : (Jvm.Cond.code y bytes mx rt).before a s = true := by
  simp only [Bool.and_eq_true, beq_iff_eq, Bool.not_eq_true', decide_eq_true_eq] at h5
  obtain ⟨⟨⟨⟨⟨g1, g2⟩, g3⟩, g4⟩, g5⟩, g6⟩ := h5
  simp [Cond.before, Cond.holds, Cond.value, h1, h2, h3, h4, g1, g2, g3, g4, g5, g6]
def isCode : Jvm.Cond → Bool
  | .code _ _ _ _ => true
  | _ => false
theorem all_split {L : List Jvm.Cond} {P : Jvm.Cond → Bool} (h1 : L.all (fun c => isCode c || P c) = true) (h2 : ∀ c ∈ L.filter isCode, P c = true) : L.all P = true := by
  refine List.all_eq_true.mpr fun c hc => ?_
  have h := List.all_eq_true.mp h1 c hc
  rcases Bool.eq_false_or_eq_true (isCode c) with hi | hi
  · exact h2 c (List.mem_filter.mpr ⟨hc, hi⟩)
  · simpa [hi] using h
set_option maxRecDepth 65536 in
theorem w_c0 : (Jvm.Cond.code x code maxLocals ret).before args0 about1 = true := code_word (m := ⟨1, 1⟩) (meth := k1m1) (c := k1c1) (by decide +kernel) rfl rfl rfl (by decide +kernel)
set_option maxRecDepth 65536 in
theorem w_c1 : (Jvm.Cond.code ({ cls := "com/example/craterworks/craterworks/SeededRandom", name := "<init>", desc := "(J)V" } : Jvm.MethodName) prog_3_method_1_code (3 : Nat) (Option.none : Option Jvm.ClassFile.FieldType)).before args0 about1 = true := code_word (m := ⟨2, 0⟩) (meth := k2m0) (c := k2c0) (by decide +kernel) rfl rfl rfl (by decide +kernel)
set_option maxRecDepth 65536 in
theorem w_c2 : (Jvm.Cond.code ({ cls := "java/lang/Object", name := "<init>", desc := "()V" } : Jvm.MethodName) object_method_1_code (1 : Nat) (Option.none : Option Jvm.ClassFile.FieldType)).before args0 about1 = true := code_word (m := ⟨0, 0⟩) (meth := k0m0) (c := k0c0) (by decide +kernel) rfl rfl rfl (by decide +kernel)
set_option maxRecDepth 65536 in
theorem w_c3 : (Jvm.Cond.code ({ cls := "com/example/craterworks/craterworks/SeededRandom", name := "nextLong", desc := "()J" } : Jvm.MethodName) prog_3_method_3_code (3 : Nat) (Option.some Jvm.ClassFile.FieldType.long)).before args0 about1 = true := code_word (m := ⟨2, 1⟩) (meth := k2m1) (c := k2c1) (by decide +kernel) rfl rfl rfl (by decide +kernel)
def codes1 : List Jvm.Cond := [Jvm.Cond.code x code maxLocals ret, Jvm.Cond.code ({ cls := "com/example/craterworks/craterworks/SeededRandom", name := "<init>", desc := "(J)V" } : Jvm.MethodName) prog_3_method_1_code (3 : Nat) (Option.none : Option Jvm.ClassFile.FieldType), Jvm.Cond.code ({ cls := "java/lang/Object", name := "<init>", desc := "()V" } : Jvm.MethodName) object_method_1_code (1 : Nat) (Option.none : Option Jvm.ClassFile.FieldType), Jvm.Cond.code ({ cls := "com/example/craterworks/craterworks/SeededRandom", name := "nextLong", desc := "()J" } : Jvm.MethodName) prog_3_method_3_code (3 : Nat) (Option.some Jvm.ClassFile.FieldType.long)]
set_option maxRecDepth 65536 in
theorem codes_eq : words1.filter isCode = codes1 := rfl
theorem w_codes : ∀ c ∈ words1.filter isCode, c.before args0 about1 = true := by
  rw [codes_eq]
  intro c hc
  simp only [codes1, List.mem_cons, List.not_mem_nil, or_false] at hc
  rcases hc with rfl | rfl | rfl | rfl
  · exact w_c0
  · exact w_c1
  · exact w_c2
  · exact w_c3
set_option maxRecDepth 65536 in
theorem w_t1 : words1.all (fun c => isCode c || c.before args0 about1) = true := by decide +kernel
theorem w_tables : (allAtoms (Jvm.Cond.code x code maxLocals ret :: tables_1)).before args0 about1 = true := by
  rw [allAtoms_all]
  show words1.all (fun c => c.before args0 about1) = true
  refine all_split ?_ w_codes
  rw [w_t1]
set_option maxRecDepth 65536 in
theorem w_case : (Jvm.Cond.and given_1 narrow_1).before args0 about1 = true := by decide +kernel
theorem w_applies : (headSpec (Jvm.Cond.code x code maxLocals ret :: tables_1) room_1).applies x e0.platform about1 = true :=
  (Spec.applies_iff w_frames).mpr ⟨w_running, w_runnable, w_alone, w_named, w_hears, w_ripe, w_room, w_tables⟩
theorem atStart : AtStart classFile x code maxLocals ret World_1 tables_1 room_1 Calls_1 rest_1 Pre_1 launch0 p0 e0 about1 theMethod args0 below0 :=
  ⟨lists_1, trivial, launch0.admits_env _ _ _, launch0.least_env, fairChoices_fair.cas, fairChoices_fair.clock, w_frames, w_args, w_heap, w_applies, trivial, trivial, w_case⟩
end start1
theorem witness_1 : WitnessClaimed_1 := ⟨start1.p0, start1.e0, start1.about1, start1.theMethod, start1.args0, start1.below0, start1.atStart⟩
end Jvm.Pilot.@@N@@

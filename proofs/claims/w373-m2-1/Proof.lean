import JvmDerived
import JvmDerived.Pilot.@@N@@Statement
import JvmDerived.Pilot.@@N@@Code
set_option linter.unusedVariables false
set_option linter.unusedSimpArgs false
namespace Jvm.RoadKit
open Sem ClassFile Op Lib Jvm.Stand Jvm.Free Jvm.LawKit
section OwnKit
variable {p : Program} {l : Launch} {e : Env} {R : Room} {s : State} {m : MethodId} {args : Array Value} {below : List Frame} {meth : Method} {c : Code} {T : State} {locs : List Loc} {cells slots : Nat} {Z : State} {a0 : Array Value} {h : Heap}
abbrev OwnP : Type := Option Value → Heap → List Loc → Prop
/-- from the state A the run comes back with what P says -/
def OwnG (tb : Tables) (e : Env) (below : List Frame) (s : State) (P : OwnP) (rc rs : Nat) (A : State) : Prop :=
  ∃ s₂ o, Steps tb e below A s₂ ∧ s₂.status = .running ∧ Ended s₂ below o ∧ ∃ v L, o = .returned v ∧ P v s₂.heap L ∧ FrameEnd s o s₂ L rc rs
theorem own_go {tb : Tables} {P : OwnP} {rc rs : Nat} {A : State} (T' : State) (m' : MethodId) (pc : Nat) (Ls : Array Slot) (st : List Value) (f : ∀ t, Steps tb e below (T'.setTop (mkF m' pc Ls st)) t → Steps tb e below A t) (k : OwnG tb e below s P rc rs (T'.setTop (mkF m' pc Ls st))) : OwnG tb e below s P rc rs A := by
  obtain ⟨s₂, o, h1, h2⟩ := k
  exact ⟨s₂, o, f _ h1, h2⟩
theorem own_mono {tb : Tables} {P P' : OwnP} {rc rs : Nat} {A : State} (f : ∀ v h L, P v h L → P' v h L) (k : OwnG tb e below s P rc rs A) : OwnG tb e below s P' rc rs A := by
  obtain ⟨s₂, o, h1, h2, h3, v, L, h4, h5, h6⟩ := k
  exact ⟨s₂, o, h1, h2, h3, v, L, h4, f _ _ _ h5, h6⟩
/-- what a walk knows of the body -/
def OwnX (Z : State) (p : Program) (s : State) (m : MethodId) (meth : Method) (c : Code) (bytes : ByteArray) (maxL : Nat) (ret : Option FieldType) (own nm : String) : Prop :=
  p.tables.exec = Jvm.exec ∧ c.code = bytes ∧ c.maxLocals = maxL ∧ s.vm.findClass own = some m.cls ∧ meth.name = nm ∧ meth.sig.returnType = ret ∧ meth.locks = false ∧ Z.Warmed39 s.vm
/-- a body's contract -/
abbrev OwnC (l : Launch) (Z : State) (y : MethodName) (bytes : ByteArray) (maxL : Nat) (ret : Option FieldType) (ws : List Cond) (rm : Room) (as' : Array Value) (h0 : Heap) (P : OwnP) : Prop :=
  MetFree l y (head1 (Cond.code y bytes maxL ret :: ws) rm) (fun a U => a = as' ∧ Z.Warmed39 U.vm ∧ U.heap = h0) (fun _ _ _ _ _ => True) (fun _ U o U' => ∃ v L, o = .returned v ∧ P v U'.heap L ∧ FrameEnd U o U' L rm.cells rm.slots)
theorem own_entry {y : MethodName} {bytes : ByteArray} {maxL : Nat} {ret : Option FieldType} {ws : List Cond} {rm : Room} {as' : Array Value} {h0 : Heap} {P : OwnP} {Ls : Array Slot} (hpl : plainFor y = true) (ef : ∀ m, entryFrame m as' maxL = mkF m 0 Ls [])
    (body : ∀ (p : Program) (e : Env) (s : State) (m : MethodId) (below : List Frame) (meth : Method) (c : Code) (T : State), Stand p l e rm s m as' below meth c T [] 0 0 → OwnX Z p s m meth c bytes maxL ret y.cls y.name → T.heap = h0 → OwnG p.tables e below s P rm.cells rm.slots (T.setTop (mkF m 0 Ls []))) :
    OwnC l Z y bytes maxL ret ws rm as' h0 P := by
  refine MetFree.of_bodySF hpl hisR ?_
  intro p e s m args below meth c s₁ Bd hml0 hP hK
  obtain ⟨rfl, hZ, hh⟩ := hP
  have e0 : s₁.heap = h0 := by rw [← hh, Bd.state]; rfl
  obtain ⟨s₂, o, h1, h2⟩ := body p e s m below meth c s₁ (Stand.of_body Bd) ⟨Bd.exec, Bd.bytes, hml0, findClass_of_methodNamed Bd.named, (name_of_methodNamed Bd.named Bd.method).1, Bd.returns, Bd.notSynchronized, hZ⟩ e0
  exact ⟨s₂, o, castTop (ef m) h1, h2⟩
theorem own_ret {P : OwnP} {rc rs : Nat} (X : Stand p l e R s m args below meth c T locs cells slots) (hx : p.tables.exec = Jvm.exec) (hlk : meth.locks = false) {pc : Nat} {Ls : Array Slot} {w : Value} {t : FieldType} {i : Instr} {rest : List Value} (hret : meth.sig.returnType = some t) (hn : narrow t w = w)
    (hi : (i = .ireturn ∧ (t = .int ∨ t = .boolean ∨ t = .byte ∨ t = .char ∨ t = .short) ∧ ∃ z, w = .int z) ∨ (i = .lreturn ∧ t = .long ∧ ∃ z, w = .long z) ∨ (i = .dreturn ∧ t = .double ∧ ∃ z, w = .double z) ∨ (i = .freturn ∧ t = .float ∧ ∃ z, w = .float z) ∨ (i = .areturn ∧ t.isReference = true ∧ w.isRef = true))
    (hd : decode c.code pc = .ok (i, 1)) (hc : cells ≤ rc) (hs : slots ≤ rs) (hP : P (some w) T.heap locs) : OwnG p.tables e below s P rc rs (T.setTop (mkF m pc Ls (w :: rest))) := by
  obtain ⟨fs, hr, hrun, hended, hW, hsame⟩ := X.leave (v := some w) (fun h => by rw [hret] at h; cases h) hlk
  exact ⟨_, _, retOut X hx hret hn hi hd hr, hrun, hended, _, _, rfl, hP, ⟨_, rfl⟩, hW, hsame.mono hc hs⟩
theorem own_retI {P : OwnP} {rc rs : Nat} (X : Stand p l e R s m args below meth c T locs cells slots) (hx : p.tables.exec = Jvm.exec) (hlk : meth.locks = false) {pc : Nat} {Ls : Array Slot} {z : Int32} {rest : List Value} (hret : meth.sig.returnType = some .int)
    (hd : decode c.code pc = .ok (.ireturn, 1)) (hc : cells ≤ rc) (hs : slots ≤ rs) (hP : P (some (.int z)) T.heap locs) : OwnG p.tables e below s P rc rs (T.setTop (mkF m pc Ls (.int z :: rest))) :=
  own_ret X hx hlk hret rfl (Or.inl ⟨rfl, Or.inl rfl, z, rfl⟩) hd hc hs hP
theorem own_retZ {P : OwnP} {rc rs : Nat} (X : Stand p l e R s m args below meth c T locs cells slots) (hx : p.tables.exec = Jvm.exec) (hlk : meth.locks = false) {pc : Nat} {Ls : Array Slot} {z : Int32} {rest : List Value} (hret : meth.sig.returnType = some .boolean) (hz : z = 0 ∨ z = 1)
    (hd : decode c.code pc = .ok (.ireturn, 1)) (hc : cells ≤ rc) (hs : slots ≤ rs) (hP : P (some (.int z)) T.heap locs) : OwnG p.tables e below s P rc rs (T.setTop (mkF m pc Ls (.int z :: rest))) :=
  own_ret X hx hlk hret (by rcases hz with rfl | rfl <;> rfl) (Or.inl ⟨rfl, Or.inr (Or.inl rfl), z, rfl⟩) hd hc hs hP
theorem own_retB {P : OwnP} {rc rs : Nat} (X : Stand p l e R s m args below meth c T locs cells slots) (hx : p.tables.exec = Jvm.exec) (hlk : meth.locks = false) {pc : Nat} {Ls : Array Slot} {z : Int32} {rest : List Value} (hret : meth.sig.returnType = some .byte) (hz : narrow .byte (.int z) = .int z)
    (hd : decode c.code pc = .ok (.ireturn, 1)) (hc : cells ≤ rc) (hs : slots ≤ rs) (hP : P (some (.int z)) T.heap locs) : OwnG p.tables e below s P rc rs (T.setTop (mkF m pc Ls (.int z :: rest))) :=
  own_ret X hx hlk hret hz (Or.inl ⟨rfl, Or.inr (Or.inr (Or.inl rfl)), z, rfl⟩) hd hc hs hP
theorem own_retJ {P : OwnP} {rc rs : Nat} (X : Stand p l e R s m args below meth c T locs cells slots) (hx : p.tables.exec = Jvm.exec) (hlk : meth.locks = false) {pc : Nat} {Ls : Array Slot} {z : Int64} {rest : List Value} (hret : meth.sig.returnType = some .long)
    (hd : decode c.code pc = .ok (.lreturn, 1)) (hc : cells ≤ rc) (hs : slots ≤ rs) (hP : P (some (.long z)) T.heap locs) : OwnG p.tables e below s P rc rs (T.setTop (mkF m pc Ls (.long z :: rest))) :=
  own_ret X hx hlk hret rfl (Or.inr (Or.inl ⟨rfl, rfl, z, rfl⟩)) hd hc hs hP
theorem own_retA {P : OwnP} {rc rs : Nat} (X : Stand p l e R s m args below meth c T locs cells slots) (hx : p.tables.exec = Jvm.exec) (hlk : meth.locks = false) {pc : Nat} {Ls : Array Slot} {w : Value} {t : FieldType} {rest : List Value} (hret : meth.sig.returnType = some t) (hn : narrow t w = w) (ht : t.isReference = true) (hw : w.isRef = true)
    (hd : decode c.code pc = .ok (.areturn, 1)) (hc : cells ≤ rc) (hs : slots ≤ rs) (hP : P (some w) T.heap locs) : OwnG p.tables e below s P rc rs (T.setTop (mkF m pc Ls (w :: rest))) :=
  own_ret X hx hlk hret hn (Or.inr (Or.inr (Or.inr (Or.inr ⟨rfl, ht, hw⟩)))) hd hc hs hP
theorem own_retV {P : OwnP} {rc rs : Nat} (X : Stand p l e R s m args below meth c T locs cells slots) (hx : p.tables.exec = Jvm.exec) (hlk : meth.locks = false) {pc : Nat} {Ls : Array Slot} (hret : meth.sig.returnType = none)
    (hd : decode c.code pc = .ok (.return_, 1)) (hc : cells ≤ rc) (hs : slots ≤ rs) (hP : P none T.heap locs) : OwnG p.tables e below s P rc rs (T.setTop (mkF m pc Ls [])) := by
  obtain ⟨fs, hr, hrun, hended, hW, hsame⟩ := X.leave (v := none) (fun _ => rfl) hlk
  exact ⟨_, _, X.returnOut hx hret hd hr, hrun, hended, _, _, rfl, hP, ⟨_, rfl⟩, hW, hsame.mono hc hs⟩
theorem own_static (X : Stand p l e R s m args below meth c T locs cells slots) (hx : p.tables.exec = Jvm.exec) (hZ : Z.Warmed39 s.vm) {own : String} {index : Nat} {y : MethodName} {bytes : ByteArray} {maxL : Nat} {ret : Option FieldType} {rm : Room} {as' : Array Value} {P : OwnP}
    (hown : s.vm.findClass own = some m.cls) (w1 : (Cond.methodLink own index y).before a0 Z = true) (w2 : (Cond.static y).before a0 Z = true) (w3 : (Cond.initialized y.cls).before a0 Z = true) (w4 : (Cond.code y bytes maxL ret).before a0 Z = true) (hy : y.cls ≠ "java/lang/invoke/MethodHandle" ∧ y.cls ≠ "java/lang/invoke/VarHandle")
    (hM : OwnC l Z y bytes maxL ret [] rm as' h P) (eT : T.heap = h) {pc : Nat} {Ls : Array Slot} {argsL rest : List Value} (W : Nat) {st : List Value} (hsz : Ls.size = c.maxLocals) (hlen : ∀ sig, parseMethodDescriptor y.desc = some sig → argsL.length = sig.parameters.length) (has : argsL.toArray = as') (hst : st = argsL.reverse ++ rest) (hW : (rest.map fun v => v.category).sum ≤ W)
    (hd : decode c.code pc = .ok (.invokestatic index, 3)) (hf : rm.frames + 1 ≤ R.frames) (hl : W + (maxL + 11) + rm.locals ≤ R.locals) (hc : cells + rm.cells ≤ R.cells) (hs : slots + rm.slots ≤ R.slots) :
    ∃ v T' L, Stand p l e R s m args below meth c T' (locs ++ L) (cells + rm.cells) (slots + rm.slots) ∧ P v T'.heap L ∧ ∀ t, Steps p.tables e below (T'.setTop (mkF m (pc + 3) Ls (v.toList ++ rest))) t → Steps p.tables e below (T.setTop (mkF m pc Ls st)) t := by
  obtain ⟨v, vm₁, ⟨T', L', k', n'⟩, -, X', ⟨L, hQ, l1, l2, l3⟩, stp⟩ := Jvm.LawKit.callS X hx hown (mvT hZ w1) (mvT hZ w2) (mvT hZ w3) (mvT hZ w4) hy (backOf (W := W) hM hZ w4 w3 hf hl) (g := mkF m pc Ls st) rfl hsz (argsL := argsL) (rest := rest) hlen hst (by show 2 * 0 + _ ≤ _; omega) hd (fun _ _ => ⟨has, eT, hc, hs⟩)
  dsimp only [Pt.U, Pt.locs, Pt.cells, Pt.slots] at X' l1 l2 l3 stp hQ
  subst l1 l2 l3
  exact ⟨v, T', L, X', hQ, stp⟩
theorem own_init (X : Stand p l e R s m args below meth c T locs cells slots) (hx : p.tables.exec = Jvm.exec) (hZ : Z.Warmed39 s.vm) {own : String} {index : Nat} {y : MethodName} {bytes : ByteArray} {maxL : Nat} {rm : Room} {as' : Array Value} {P : OwnP} (hy1 : y.name = "<init>")
    (hown : s.vm.findClass own = some m.cls) (w1 : (Cond.methodLink own index y).before a0 Z = true) (w2 : (Cond.instanceMethod y).before a0 Z = true) (w3 : (Cond.initialized y.cls).before a0 Z = true) (w4 : (Cond.code y bytes maxL none).before a0 Z = true) (hy : y.cls ≠ "java/lang/invoke/MethodHandle" ∧ y.cls ≠ "java/lang/invoke/VarHandle")
    (hM : OwnC l Z y bytes maxL none [] rm as' h P) (eT : T.heap = h) {pc : Nat} {Ls : Array Slot} {a : Addr} {argsL rest : List Value} (W : Nat) {st : List Value} (hsz : Ls.size = c.maxLocals) (hlen : ∀ sig, parseMethodDescriptor y.desc = some sig → argsL.length = sig.parameters.length) (has : (.ref a :: argsL).toArray = as') (hst : st = argsL.reverse ++ .ref a :: rest) (hW : (rest.map fun v => v.category).sum ≤ W)
    (hd : decode c.code pc = .ok (.invokespecial index, 3)) (hf : rm.frames + 1 ≤ R.frames) (hl : W + (maxL + 11) + rm.locals ≤ R.locals) (hc : cells + rm.cells ≤ R.cells) (hs : slots + rm.slots ≤ R.slots) :
    ∃ v T' L, Stand p l e R s m args below meth c T' (locs ++ L) (cells + rm.cells) (slots + rm.slots) ∧ P v T'.heap L ∧ ∀ t, Steps p.tables e below (T'.setTop (mkF m (pc + 3) Ls (v.toList ++ rest))) t → Steps p.tables e below (T.setTop (mkF m pc Ls st)) t := by
  obtain ⟨v, vm₁, ⟨T', L', k', n'⟩, -, X', ⟨L, hQ, l1, l2, l3⟩, stp⟩ := X.specialBack hx hy1 hown (mvT hZ w1) (mvT hZ w2) (mvT hZ w4) hy (backOf (W := W) hM hZ w4 w3 hf hl) (g := mkF m pc Ls st) rfl hsz (Steps.refl _) (a := a) (argsL := argsL) (rest := rest) hlen hst (by show 2 * 0 + _ ≤ _; omega) hd (fun _ _ => ⟨has, eT, hc, hs⟩)
  dsimp only [Pt.U, Pt.locs, Pt.cells, Pt.slots] at X' l1 l2 l3 stp hQ
  subst l1 l2 l3
  exact ⟨v, T', L, X', hQ, fun t k => stp.trans k⟩
theorem own_virtual (X : Stand p l e R s m args below meth c T locs cells slots) (hx : p.tables.exec = Jvm.exec) (hZ : Z.Warmed39 s.vm) {own C : String} {index : Nat} {y z : MethodName} {bytes : ByteArray} {maxL : Nat} {ret : Option FieldType} {rm : Room} {as' : Array Value} {P : OwnP}
    (hown : s.vm.findClass own = some m.cls) (w1 : (Cond.methodLink own index y).before a0 Z = true) (w2 : (Cond.declares y).before a0 Z = true) (hnf : NotFace s y) (w5 : (Cond.selects C y z).before a0 Z = true) (w6 : (Cond.instanceMethod z).before a0 Z = true) (w3 : (Cond.initialized z.cls).before a0 Z = true) (w4 : (Cond.code z bytes maxL ret).before a0 Z = true) (hy : y.cls ≠ "java/lang/invoke/MethodHandle" ∧ y.cls ≠ "java/lang/invoke/VarHandle")
    (hM : OwnC l Z z bytes maxL ret [] rm as' h P) (eT : T.heap = h) {a : Addr} (E : Exa Z h a C) {pc : Nat} {Ls : Array Slot} {argsL rest : List Value} (W : Nat) {st : List Value} (hsz : Ls.size = c.maxLocals) (hlen : ∀ sig, parseMethodDescriptor y.desc = some sig → argsL.length = sig.parameters.length) (has : (.ref a :: argsL).toArray = as') (hst : st = argsL.reverse ++ .ref a :: rest) (hW : (rest.map fun v => v.category).sum ≤ W)
    (hd : decode c.code pc = .ok (.invokevirtual index, 3)) (hf : rm.frames + 1 ≤ R.frames) (hl : W + (maxL + 11) + rm.locals ≤ R.locals) (hc : cells + rm.cells ≤ R.cells) (hs : slots + rm.slots ≤ R.slots) :
    ∃ v T' L, Stand p l e R s m args below meth c T' (locs ++ L) (cells + rm.cells) (slots + rm.slots) ∧ P v T'.heap L ∧ ∀ t, Steps p.tables e below (T'.setTop (mkF m (pc + 3) Ls (v.toList ++ rest))) t → Steps p.tables e below (T.setTop (mkF m pc Ls st)) t := by
  obtain ⟨cq, kq, qa, qb, qc⟩ := isOf hZ eT E
  obtain ⟨v, vm₁, ⟨T', L', k', n'⟩, -, X', ⟨L, hQ, l1, l2, l3⟩, stp⟩ := X.virtualBack hx (y := y) (z := z) hown (mvT hZ w1) (mvT hZ w2) hnf (mvT hZ w5) (mvT hZ w6) hy (backOf (W := W) hM hZ w4 w3 hf hl) qa qc (g := mkF m pc Ls st) rfl hsz (Steps.refl _) (argsL := argsL) (rest := rest) hlen hst (by show 2 * 0 + _ ≤ _; omega) hd (fun _ _ => ⟨has, eT, hc, hs⟩)
  dsimp only [Pt.U, Pt.locs, Pt.cells, Pt.slots] at X' l1 l2 l3 stp hQ
  subst l1 l2 l3
  exact ⟨v, T', L, X', hQ, fun t k => stp.trans k⟩
/-- a body that writes nothing and makes nothing -/
def OwnPure (w : Value) (h0 : Heap) : OwnP := fun v h L => v = some w ∧ h = h0 ∧ L = []
theorem own_nil (X : Stand p l e R s m args below meth c T (locs ++ []) cells slots) : Stand p l e R s m args below meth c T locs cells slots := by rwa [List.append_nil] at X
theorem own_iaload (X : Stand p l e R s m args below meth c T locs cells slots) (hx : p.tables.exec = Jvm.exec) (hZ : Z.Warmed39 s.vm) (eT : T.heap = h) {a : Addr} {k : ClassId} {n : Int32} {vs : List Value} {dv : Value} (V : Arv Z h a k .int n vs dv) {j x : Int32} (hj : ¬ j < 0 ∧ j < n) (hv : vs.getD j.toNatClampNeg dv = .int x)
    {pc : Nat} {Ls : Array Slot} {rest : List Value} (hd : decode c.code pc = .ok (.iaload, 1)) : ∀ t, Steps p.tables e below (T.setTop (mkF m (pc + 1) Ls (.int x :: rest))) t → Steps p.tables e below (T.setTop (mkF m pc Ls (.int j :: .ref a :: rest))) t := by
  obtain ⟨cl, A, -, S, -, H, -⟩ := V
  exact fun t k => X.iaload hx (by rw [eT]; exact A.1) (State.isArrayOf_alike hZ.alike A.2.1) A.2.2 (inb_of S hj) (H.at (inb_of S hj) hv) (g := mkF m pc Ls (.int j :: .ref a :: rest)) rfl rfl hd t k
theorem own_baload (X : Stand p l e R s m args below meth c T locs cells slots) (hx : p.tables.exec = Jvm.exec) (hZ : Z.Warmed39 s.vm) (eT : T.heap = h) {a : Addr} {k : ClassId} {n : Int32} {vs : List Value} {dv : Value} (V : Arv Z h a k .byte n vs dv) {j x : Int32} (hj : ¬ j < 0 ∧ j < n) (hv : vs.getD j.toNatClampNeg dv = .int x)
    {pc : Nat} {Ls : Array Slot} {rest : List Value} (hd : decode c.code pc = .ok (.baload, 1)) : ∀ t, Steps p.tables e below (T.setTop (mkF m (pc + 1) Ls (.int x :: rest))) t → Steps p.tables e below (T.setTop (mkF m pc Ls (.int j :: .ref a :: rest))) t := by
  obtain ⟨cl, A, -, S, -, H, -⟩ := V
  exact fun t k => X.baloadBytes hx (by rw [eT]; exact A.1) (State.isArrayOf_alike hZ.alike A.2.1) A.2.2 (inb_of S hj) (H.at (inb_of S hj) hv) (g := mkF m pc Ls (.int j :: .ref a :: rest)) rfl rfl hd t k
theorem own_aaload (X : Stand p l e R s m args below meth c T locs cells slots) (hx : p.tables.exec = Jvm.exec) (hZ : Z.Warmed39 s.vm) (eT : T.heap = h) {a : Addr} {k : ClassId} {ty : FieldType} {n : Int32} {vs : List Value} {dv : Value} (V : Arv Z h a k ty n vs dv) (hty : ty.isReference = true) {j : Int32} {w : Value} (hj : ¬ j < 0 ∧ j < n) (hv : vs.getD j.toNatClampNeg dv = w)
    {pc : Nat} {Ls : Array Slot} {rest : List Value} (hd : decode c.code pc = .ok (.aaload, 1)) : ∀ t, Steps p.tables e below (T.setTop (mkF m (pc + 1) Ls (w :: rest))) t → Steps p.tables e below (T.setTop (mkF m pc Ls (.int j :: .ref a :: rest))) t := by
  obtain ⟨cl, A, -, S, -, H, -⟩ := V
  exact fun t k => X.aaload hx (by rw [eT]; exact A.1) (State.isArrayOf_alike hZ.alike A.2.1) hty A.2.2 (inb_of S hj) (H.at (inb_of S hj) hv) (g := mkF m pc Ls (.int j :: .ref a :: rest)) rfl rfl hd t k
theorem own_alen (X : Stand p l e R s m args below meth c T locs cells slots) (hx : p.tables.exec = Jvm.exec) (hZ : Z.Warmed39 s.vm) (eT : T.heap = h) {a : Addr} {k : ClassId} {ty : FieldType} {n : Int32} {vs : List Value} {dv : Value} (V : Arv Z h a k ty n vs dv)
    {pc : Nat} {Ls : Array Slot} {rest : List Value} (hd : decode c.code pc = .ok (.arraylength, 1)) : ∀ t, Steps p.tables e below (T.setTop (mkF m (pc + 1) Ls (.int n :: rest))) t → Steps p.tables e below (T.setTop (mkF m pc Ls (.ref a :: rest))) t := by
  obtain ⟨cl, A, -, S, N, H, -⟩ := V
  intro t q
  refine X.arraylength hx (by rw [eT]; exact A.1) (State.isArrayOf_alike hZ.alike A.2.1) (g := mkF m pc Ls (.ref a :: rest)) rfl rfl hd t ?_
  rw [len_of S N]
  exact q
theorem own_iastore (X : Stand p l e R s m args below meth c T locs cells slots) (hx : p.tables.exec = Jvm.exec) (hZ : Z.Warmed39 s.vm) (eT : T.heap = h) {a : Addr} {k : ClassId} {n : Int32} {vs : List Value} {dv : Value} (V : Arv Z h a k .int n vs dv) {j x : Int32} (hj : ¬ j < 0 ∧ j < n) (i : Nat) (hi : j.toNatClampNeg = i) (hl : i < vs.length)
    {pc : Nat} {Ls : Array Slot} {rest : List Value} (hd : decode c.code pc = .ok (.iastore, 1)) : ∃ T' h', Stand p l e R s m args below meth c T' (locs ++ [⟨a, i⟩]) cells slots ∧ T'.heap = h' ∧ Wr h h' a i (.int x) ∧ Arv Z h' a k .int n (vs.set i (.int x)) dv ∧ ∀ t, Steps p.tables e below (T'.setTop (mkF m (pc + 1) Ls rest)) t → Steps p.tables e below (T.setTop (mkF m pc Ls (.int x :: .int j :: .ref a :: rest))) t := by
  obtain ⟨cl, A, q1, S, N, H, G⟩ := V
  obtain ⟨T', h', X', e', W', st⟩ := stI X hx hZ eT A (j := j) (x := x) (inb_of S hj) (g := mkF m pc Ls (.int x :: .int j :: .ref a :: rest)) rfl rfl hd
  have V' := Arv.set A q1 S N H G (v := .int x) rfl W' i hi hl
  rw [hi] at X' W'
  exact ⟨T', h', X', e', W', V', st⟩
theorem own_bastore (X : Stand p l e R s m args below meth c T locs cells slots) (hx : p.tables.exec = Jvm.exec) (hZ : Z.Warmed39 s.vm) (eT : T.heap = h) {a : Addr} {k : ClassId} {n : Int32} {vs : List Value} {dv : Value} (V : Arv Z h a k .byte n vs dv) {j x : Int32} (hj : ¬ j < 0 ∧ j < n) (i : Nat) (hi : j.toNatClampNeg = i) (hl : i < vs.length)
    {pc : Nat} {Ls : Array Slot} {rest : List Value} (hd : decode c.code pc = .ok (.bastore, 1)) : ∃ T' h', Stand p l e R s m args below meth c T' (locs ++ [⟨a, i⟩]) cells slots ∧ T'.heap = h' ∧ Wr h h' a i (.int x.toInt8.toInt32) ∧ Arv Z h' a k .byte n (vs.set i (.int x.toInt8.toInt32)) dv ∧ ∀ t, Steps p.tables e below (T'.setTop (mkF m (pc + 1) Ls rest)) t → Steps p.tables e below (T.setTop (mkF m pc Ls (.int x :: .int j :: .ref a :: rest))) t := by
  obtain ⟨cl, A, q1, S, N, H, G⟩ := V
  obtain ⟨T', h', X', e', W', st⟩ := stB X hx hZ eT A (j := j) (x := x) (inb_of S hj) (g := mkF m pc Ls (.int x :: .int j :: .ref a :: rest)) rfl rfl hd
  have V' := Arv.set A q1 S N H G (v := .int x.toInt8.toInt32) (fits_nar_byte x) W' i hi hl
  rw [hi] at X' W'
  exact ⟨T', h', X', e', W', V', st⟩
theorem own_aastore (X : Stand p l e R s m args below meth c T locs cells slots) (hx : p.tables.exec = Jvm.exec) (hZ : Z.Warmed39 s.vm) (eT : T.heap = h) {a : Addr} {k : ClassId} {ty : FieldType} {n : Int32} {vs : List Value} {dv : Value} (V : Arv Z h a k ty n vs dv) (hty : ty.isReference = true) {C : String} (O : Ovr Z k C) {y : Addr} (I : Ins Z h y C true) {j : Int32} (hj : ¬ j < 0 ∧ j < n) (i : Nat) (hi : j.toNatClampNeg = i) (hl : i < vs.length)
    {pc : Nat} {Ls : Array Slot} {rest : List Value} (hd : decode c.code pc = .ok (.aastore, 1)) : ∃ T' h', Stand p l e R s m args below meth c T' (locs ++ [⟨a, i⟩]) cells slots ∧ T'.heap = h' ∧ Wr h h' a i (.ref y) ∧ Arv Z h' a k ty n (vs.set i (.ref y)) dv ∧ ∀ t, Steps p.tables e below (T'.setTop (mkF m (pc + 1) Ls rest)) t → Steps p.tables e below (T.setTop (mkF m pc Ls (.ref y :: .int j :: .ref a :: rest))) t := by
  obtain ⟨cl, A, q1, S, N, H, G⟩ := V
  obtain ⟨T', h', X', e', W', st⟩ := stR X hx hZ eT A (j := j) (v := .ref y) (inb_of S hj) hty (Sto.ofV A q1 O I) (g := mkF m pc Ls (.ref y :: .int j :: .ref a :: rest)) rfl rfl hd
  have V' := Arv.set A q1 S N H G (v := .ref y) (by cases ty <;> first | rfl | (simp [FieldType.isReference] at hty)) W' i hi hl
  rw [hi] at X' W'
  exact ⟨T', h', X', e', W', V', st⟩
theorem own_lt_eq {x y : Int64} (h : x = y) : lcmpW x y = 0 := (lw_eq x y).mpr h
theorem own_rem_ne {x y : Int32} {target : State} {g : JFrame} (X : Stand p l e R s m args below meth c T locs cells slots) (hx : p.tables.exec = Jvm.exec) (hg : g.method = m) {rest : List Value} (hd : decode c.code g.pc = .ok (.irem, 1)) (hs : g.stack = .int y :: .int x :: rest) (hy : y ≠ 0)
    (hr : Steps p.tables e below (T.setTop { g with pc := g.pc + 1, stack := .int (x % y) :: rest }) target) : Steps p.tables e below (T.setTop g) target := iremM X hx hg hd hs hy hr
theorem own_lrem {x y : Int64} {target : State} {g : JFrame} (X : Stand p l e R s m args below meth c T locs cells slots) (hx : p.tables.exec = Jvm.exec) (hg : g.method = m) {rest : List Value} (hd : decode c.code g.pc = .ok (.lrem, 1)) (hs : g.stack = .long y :: .long x :: rest) (hy : y ≠ 0)
    (hr : Steps p.tables e below (T.setTop { g with pc := g.pc + 1, stack := .long (x % y) :: rest }) target) : Steps p.tables e below (T.setTop g) target := by
  refine XS.lrem X.here hx hg hd hs hy ?_
  rw [lrem_mod]
  exact hr
theorem own_fld_int {args : Array Value} {t : Term} {C n d : String} {k : Int32} {a : Addr} (ev : t.eval args Z none [] Z = some (.ref a)) (h : (Cond.eq (Term.field t C n d) (Term.int k)).value args Z none Z [] = some true) : Fld Z Z.heap a C n d (.int k) := by
  obtain ⟨x, y, h1, h2, h3, h4⟩ := cmp_v (Or.inl h)
  have hy : y = .int k := by rw [Term.int_eval] at h2; exact (Option.some.inj h2).symm
  subst hy
  obtain ⟨z, rfl⟩ : ∃ z, x = .int z := h4
  have hz : z = k := by simpa [Cond.value, h1, h2] using h
  subst hz
  rw [fld_at ev] at h1
  exact Fld.start h1
theorem own_sta_keep {C n d : String} {v : Value} {h' : Heap} (F : Sta Z h C n d v) (K : Keep h h' []) : Sta Z h' C n d v := by
  obtain ⟨cf, i, k, f, st, cell, h1, h2, h3, h4, h5, h6⟩ := F
  exact ⟨cf, i, k, f, st, cell, h1, h2, h3, h4, K.2.1 _ _ h5 nin0, h6⟩
/-- the objects of C are no K: C's superclasses are named, K is a class that has objects -/
theorem own_nsroot {O K : String} {n : Nat} (w : (Cond.noSuperclass O).before a0 Z = true) (wk : (Cond.instantiable K n).before a0 Z = true) (hn : O ≠ K) : NS Z O K := by
  obtain ⟨c, k, h1, h2, h3, -, -⟩ := Cond.noSuperclass_spec w
  obtain ⟨t, kt, g1, -⟩ := Cond.instantiable_spec wk
  have ne := ids_ne h1 g1 hn
  refine ⟨c, t, h1, g1, fun fuel => ?_⟩
  cases fuel with
  | zero => rfl
  | succ f => simp [Vm.isSubclassAux, ne, h2, h3]
theorem own_nsno {C S K : String} {n : Nat} (w : (Cond.superclass C S).before a0 Z = true) (wk : (Cond.instantiable K n).before a0 Z = true) (q : NS Z C K) (hn : C ≠ K) : ∃ c t, Z.vm.findClass C = some c ∧ Z.vm.findClass K = some t ∧ Z.vm.assignable c t = false := by
  obtain ⟨c, t, h0, g0, n3⟩ := q
  obtain ⟨p, k, kp, h1, h2, h3, h4, h5, -, h7⟩ := Cond.superclass_spec h0 w
  obtain ⟨t', kt, g1, g2, g3, g4, -⟩ := Cond.instantiable_spec wk
  cases g0.symm.trans g1
  have g5 : kt.isInterface = false := by
    cases hq : kt.isInterface with
    | false => rfl
    | true => rw [hq] at g4; simp at g4
  have ne := ids_ne h0 g0 hn
  refine ⟨c, t, h0, g0, ?_⟩
  show Z.vm.assignableAux (255 + 1) c t = false
  simp [Vm.assignableAux, ne, h2, g2, h5, g3, g5, Vm.isSubclass, n3]
theorem own_s16 (x : Int32) : x.toInt16.toInt32.toInt16.toInt32 = x.toInt16.toInt32 := by simp
theorem own_virtualUp (X : Stand p l e R s m args below meth c T locs cells slots) (hx : p.tables.exec = Jvm.exec) (hZ : Z.Warmed39 s.vm) {own C owner : String} {index : Nat} {x y : MethodName} {bytes : ByteArray} {maxL : Nat} {ret : Option FieldType} {rm : Room} {as' : Array Value} {P : OwnP}
    (hown : s.vm.findClass own = some m.cls) (w1 : (Cond.methodLink own index x).before a0 Z = true) (w2 : (Cond.sameMethod x.cls owner x.name x.desc).before a0 Z = true) (w7 : (Cond.declares ⟨owner, x.name, x.desc⟩).before a0 Z = true) (hy : owner ≠ "java/lang/invoke/MethodHandle" ∧ owner ≠ "java/lang/invoke/VarHandle") (w5 : (Cond.selects C x y).before a0 Z = true) (w6 : (Cond.instanceMethod y).before a0 Z = true) (w3 : (Cond.initialized y.cls).before a0 Z = true) (w4 : (Cond.code y bytes maxL ret).before a0 Z = true)
    (hM : OwnC l Z y bytes maxL ret [] rm as' h P) (eT : T.heap = h) {a : Addr} (E : Exa Z h a C) {pc : Nat} {Ls : Array Slot} {argsL rest : List Value} (W : Nat) {st : List Value} (hsz : Ls.size = c.maxLocals) (hlen : ∀ sig, parseMethodDescriptor x.desc = some sig → argsL.length = sig.parameters.length) (has : (.ref a :: argsL).toArray = as') (hst : st = argsL.reverse ++ .ref a :: rest) (hW : (rest.map fun v => v.category).sum ≤ W)
    (hd : decode c.code pc = .ok (.invokevirtual index, 3)) (hf : rm.frames + 1 ≤ R.frames) (hl : W + (maxL + 11) + rm.locals ≤ R.locals) (hc : cells + rm.cells ≤ R.cells) (hs : slots + rm.slots ≤ R.slots) :
    ∃ v T' L, Stand p l e R s m args below meth c T' (locs ++ L) (cells + rm.cells) (slots + rm.slots) ∧ P v T'.heap L ∧ ∀ t, Steps p.tables e below (T'.setTop (mkF m (pc + 3) Ls (v.toList ++ rest))) t → Steps p.tables e below (T.setTop (mkF m pc Ls st)) t := by
  obtain ⟨cq, kq, qa, qb, qc⟩ := isOf hZ eT E
  obtain ⟨v, vm₁, ⟨T', L', k', n'⟩, -, X', ⟨L, hQ, l1, l2, l3⟩, stp⟩ := X.virtualBackUp hx (x := x) (y := y) hown (mvT hZ w1) (mvT hZ w2) (mvT hZ w7) hy (mvT hZ w5) (mvT hZ w6) (backOf (W := W) hM hZ w4 w3 hf hl) qa qc (g := mkF m pc Ls st) rfl hsz (Steps.refl _) (argsL := argsL) (rest := rest) hlen hst (by show 2 * 0 + _ ≤ _; omega) hd (fun _ _ => ⟨has, eT, hc, hs⟩)
  dsimp only [Pt.U, Pt.locs, Pt.cells, Pt.slots] at X' l1 l2 l3 stp hQ
  subst l1 l2 l3
  exact ⟨v, T', L, X', hQ, fun t k => stp.trans k⟩
theorem own_castore (X : Stand p l e R s m args below meth c T locs cells slots) (hx : p.tables.exec = Jvm.exec) (hZ : Z.Warmed39 s.vm) (eT : T.heap = h) {a : Addr} {k : ClassId} {n : Int32} {vs : List Value} {dv : Value} (V : Arv Z h a k .char n vs dv) {j x : Int32} (hj : ¬ j < 0 ∧ j < n) (i : Nat) (hi : j.toNatClampNeg = i) (hl : i < vs.length)
    {pc : Nat} {Ls : Array Slot} {rest : List Value} (hd : decode c.code pc = .ok (.castore, 1)) : ∃ T' h', Stand p l e R s m args below meth c T' (locs ++ [⟨a, i⟩]) cells slots ∧ T'.heap = h' ∧ Wr h h' a i (.int x.toUInt32.toUInt16.toUInt32.toInt32) ∧ Arv Z h' a k .char n (vs.set i (.int x.toUInt32.toUInt16.toUInt32.toInt32)) dv ∧ ∀ t, Steps p.tables e below (T'.setTop (mkF m (pc + 1) Ls rest)) t → Steps p.tables e below (T.setTop (mkF m pc Ls (.int x :: .int j :: .ref a :: rest))) t := by
  obtain ⟨cl, A, q1, S, N, H, G⟩ := V
  obtain ⟨T', h', X', e', W', st⟩ := stC X hx hZ eT A (j := j) (x := x) (inb_of S hj) (g := mkF m pc Ls (.int x :: .int j :: .ref a :: rest)) rfl rfl hd
  have V' := Arv.set A q1 S N H G (v := .int x.toUInt32.toUInt16.toUInt32.toInt32) (fits_nar_char x) W' i hi hl
  rw [hi] at X' W'
  exact ⟨T', h', X', e', W', V', st⟩
theorem own_sta_keep1 {C n d C' : String} {v : Value} {h' : Heap} {a : Addr} (F : Sta Z h C n d v) (K : Keep h h' [a]) (E : Exa Z h a C') : Sta Z h' C n d v := by
  obtain ⟨cf, i, k, f, st, cell, h1, h2, h3, h4, h5, h6, h7⟩ := F
  obtain ⟨cell', k', e1, -, -, e4, -⟩ := E
  have hne : st ≠ a := fun q => by
    subst q
    cases h5.symm.trans e1
    rw [h6] at e4
    cases e4
  exact ⟨cf, i, k, f, st, cell, h1, h2, h3, h4, K.2.1 _ _ h5 (ninS hne nin0), h6, h7⟩
theorem own_private (X : Stand p l e R s m args below meth c T locs cells slots) (hx : p.tables.exec = Jvm.exec) (hZ : Z.Warmed39 s.vm) {own C : String} {index n : Nat} {y : MethodName} {bytes : ByteArray} {maxL : Nat} {ret : Option FieldType} {rm : Room} {as' : Array Value} {P : OwnP}
    (hown : s.vm.findClass own = some m.cls) (w1 : (Cond.methodLink own index y).before a0 Z = true) (w2 : (Cond.instanceMethod y).before a0 Z = true) (wp : (Cond.privateMethod y).before a0 Z = true) (wi : (Cond.instantiable y.cls n).before a0 Z = true) (w3 : (Cond.initialized y.cls).before a0 Z = true) (w4 : (Cond.code y bytes maxL ret).before a0 Z = true) (hy : y.cls ≠ "java/lang/invoke/MethodHandle" ∧ y.cls ≠ "java/lang/invoke/VarHandle")
    (hM : OwnC l Z y bytes maxL ret [] rm as' h P) (eT : T.heap = h) {a : Addr} (E : Exa Z h a C) {pc : Nat} {Ls : Array Slot} {argsL rest : List Value} (W : Nat) {st : List Value} (hsz : Ls.size = c.maxLocals) (hlen : ∀ sig, parseMethodDescriptor y.desc = some sig → argsL.length = sig.parameters.length) (has : (.ref a :: argsL).toArray = as') (hst : st = argsL.reverse ++ .ref a :: rest) (hW : (rest.map fun v => v.category).sum ≤ W)
    (hd : decode c.code pc = .ok (.invokevirtual index, 3)) (hf : rm.frames + 1 ≤ R.frames) (hl : W + (maxL + 11) + rm.locals ≤ R.locals) (hc : cells + rm.cells ≤ R.cells) (hs : slots + rm.slots ≤ R.slots) :
    ∃ v T' L, Stand p l e R s m args below meth c T' (locs ++ L) (cells + rm.cells) (slots + rm.slots) ∧ P v T'.heap L ∧ ∀ t, Steps p.tables e below (T'.setTop (mkF m (pc + 3) Ls (v.toList ++ rest))) t → Steps p.tables e below (T.setTop (mkF m pc Ls st)) t := by
  obtain ⟨cell, hcell, hobj⟩ := E.cell
  have hpriv := Cond.privateMethod_at (mvP hZ wp (args := args))
  obtain ⟨ci, ki, i1, i2, i3, i4, -⟩ := Cond.instantiable_spec (show (Cond.instantiable y.cls n).before args s = true from mvT hZ wi)
  have hni : ki.isInterface = false := by
    cases hq : ki.isInterface with
    | false => rfl
    | true => rw [hq] at i4; simp at i4
  have hsel := selects_self_of_private (args := args) i1 i2 hni hpriv (mvT hZ w2) hy
  obtain ⟨v, vm₁, ⟨T', L', k', n'⟩, -, X', ⟨L, hQ, l1, l2, l3⟩, stp⟩ := X.privateBack hx (y := y) hown (mvT hZ w1) (mvT hZ w2) hsel hpriv (mvT hZ w4) hy (backOf (W := W) hM hZ w4 w3 hf hl) (g := mkF m pc Ls st) rfl hsz (Steps.refl _) (a := a) (by rw [eT]; exact hcell) hobj (argsL := argsL) (rest := rest) hlen hst (by show 2 * 0 + _ ≤ _; omega) hd (fun _ _ => ⟨has, eT, hc, hs⟩)
  dsimp only [Pt.U, Pt.locs, Pt.cells, Pt.slots] at X' l1 l2 l3 stp hQ
  subst l1 l2 l3
  exact ⟨v, T', L, X', hQ, fun t k => stp.trans k⟩
theorem own_interface (X : Stand p l e R s m args below meth c T locs cells slots) (hx : p.tables.exec = Jvm.exec) (hZ : Z.Warmed39 s.vm) {own C : String} {index count : Nat} {xi y : MethodName} {bytes : ByteArray} {maxL : Nat} {ret : Option FieldType} {rm : Room} {as' : Array Value} {P : OwnP}
    (hown : s.vm.findClass own = some m.cls) (w1 : (Cond.methodLink own index xi).before a0 Z = true) (w2 : (Cond.declares xi).before a0 Z = true) (w7 : (Cond.interfaceMethod xi.cls xi.cls xi.name xi.desc).before args s = true) (w5 : (Cond.selects C xi y).before a0 Z = true) (w6 : (Cond.instanceMethod y).before a0 Z = true) (w8 : (Cond.publicMethod y).before a0 Z = true) (w9 : (Cond.unhidden C xi.name xi.desc).before a0 Z = true) (w10 : (Cond.castable C xi.cls).before a0 Z = true) (w3 : (Cond.initialized y.cls).before a0 Z = true) (w4 : (Cond.code y bytes maxL ret).before a0 Z = true) (hy : xi.cls ≠ "java/lang/invoke/MethodHandle" ∧ xi.cls ≠ "java/lang/invoke/VarHandle")
    (hM : OwnC l Z y bytes maxL ret [] rm as' h P) (eT : T.heap = h) {a : Addr} (E : Exa Z h a C) {pc : Nat} {Ls : Array Slot} {argsL rest : List Value} (W : Nat) {st : List Value} (hsz : Ls.size = c.maxLocals) (hlen : ∀ sig, parseMethodDescriptor xi.desc = some sig → argsL.length = sig.parameters.length) (has : (.ref a :: argsL).toArray = as') (hst : st = argsL.reverse ++ .ref a :: rest) (hW : (rest.map fun v => v.category).sum ≤ W)
    (hd : decode c.code pc = .ok (.invokeinterface index count, 5)) (hf : rm.frames + 1 ≤ R.frames) (hl : W + (maxL + 11) + rm.locals ≤ R.locals) (hc : cells + rm.cells ≤ R.cells) (hs : slots + rm.slots ≤ R.slots) :
    ∃ v T' L, Stand p l e R s m args below meth c T' (locs ++ L) (cells + rm.cells) (slots + rm.slots) ∧ P v T'.heap L ∧ ∀ t, Steps p.tables e below (T'.setTop (mkF m (pc + 5) Ls (v.toList ++ rest))) t → Steps p.tables e below (T.setTop (mkF m pc Ls st)) t := by
  obtain ⟨cq, kq, qa, qb, qc⟩ := isOf hZ eT E
  obtain ⟨v, vm₁, ⟨T', L', k', n'⟩, -, X', ⟨L, hQ, l1, l2, l3⟩, stp⟩ := X.interfaceBack hx (xi := xi) (y := y) hown (mvT hZ w1) (mvT hZ w2) w7 (mvT hZ w5) (mvT hZ w6) (mvT hZ w8) (mvT hZ w9) (mvT hZ w10) hy (backOf (W := W) hM hZ w4 w3 hf hl) qa qb qc (g := mkF m pc Ls st) rfl hsz (Steps.refl _) (argsL := argsL) (rest := rest) hlen hst (by show 2 * 0 + _ ≤ _; omega) hd (fun _ _ => ⟨has, eT, hc, hs⟩)
  dsimp only [Pt.U, Pt.locs, Pt.cells, Pt.slots] at X' l1 l2 l3 stp hQ
  subst l1 l2 l3
  exact ⟨v, T', L, X', hQ, fun t k => stp.trans k⟩
theorem own_staticUp (X : Stand p l e R s m args below meth c T locs cells slots) (hx : p.tables.exec = Jvm.exec) (hZ : Z.Warmed39 s.vm) {own owner : String} {index : Nat} {x : MethodName} {bytes : ByteArray} {maxL : Nat} {ret : Option FieldType} {rm : Room} {as' : Array Value} {P : OwnP}
    (hown : s.vm.findClass own = some m.cls) (w1 : (Cond.methodLink own index x).before a0 Z = true) (w2 : (Cond.sameMethod x.cls owner x.name x.desc).before a0 Z = true) (hy : owner ≠ "java/lang/invoke/MethodHandle" ∧ owner ≠ "java/lang/invoke/VarHandle") (w5 : (Cond.static ⟨owner, x.name, x.desc⟩).before a0 Z = true) (w3 : (Cond.initialized owner).before a0 Z = true) (w4 : (Cond.code ⟨owner, x.name, x.desc⟩ bytes maxL ret).before a0 Z = true)
    (hM : OwnC l Z ⟨owner, x.name, x.desc⟩ bytes maxL ret [] rm as' h P) (eT : T.heap = h) {pc : Nat} {Ls : Array Slot} {argsL rest : List Value} (W : Nat) {st : List Value} (hsz : Ls.size = c.maxLocals) (hlen : ∀ sig, parseMethodDescriptor x.desc = some sig → argsL.length = sig.parameters.length) (has : argsL.toArray = as') (hst : st = argsL.reverse ++ rest) (hW : (rest.map fun v => v.category).sum ≤ W)
    (hd : decode c.code pc = .ok (.invokestatic index, 3)) (hf : rm.frames + 1 ≤ R.frames) (hl : W + (maxL + 11) + rm.locals ≤ R.locals) (hc : cells + rm.cells ≤ R.cells) (hs : slots + rm.slots ≤ R.slots) :
    ∃ v T' L, Stand p l e R s m args below meth c T' (locs ++ L) (cells + rm.cells) (slots + rm.slots) ∧ P v T'.heap L ∧ ∀ t, Steps p.tables e below (T'.setTop (mkF m (pc + 3) Ls (v.toList ++ rest))) t → Steps p.tables e below (T.setTop (mkF m pc Ls st)) t := by
  have c4 : (Cond.code ⟨owner, x.name, x.desc⟩ bytes maxL ret).before args s = true := mvT hZ w4
  obtain ⟨mk, hnamed⟩ := Cond.code_named c4
  obtain ⟨methM, cM, hmethM, -, -, -, -, -, -, hsigM⟩ := Cond.code_spec hnamed c4
  have hstatic : methM.isStatic = true := Cond.static_spec hnamed hmethM (mvT (args := args) hZ w5)
  obtain ⟨kP, hkP, -⟩ := className_of_methodNamed hnamed
  have hinitP : kP.init = .initialized := Cond.initialized_spec (findClass_of_methodNamed hnamed) hkP (mvT (args := args) hZ w3)
  obtain ⟨vm₁, X₁, hstep₁⟩ := X.invokestaticUp hx hown (mvT hZ w1) (mvT hZ w2) hy hnamed hmethM hstatic hkP hinitP (g := mkF m pc Ls st) rfl (argsL := argsL) (rest := rest) (hlen _ hsigM) hst hd
  obtain ⟨v, ⟨T', L', k', n'⟩, X', ⟨L, hQ, l1, l2, l3⟩, hsteps⟩ := (backOf (len := 3) (W := W) hM hZ w4 w3 hf hl) m meth c ⟨T.setVm vm₁, locs, cells, slots⟩ { mkF m pc Ls st with stack := rest } (.invokestatic index) mk argsL.toArray X₁ rfl hsz hd (by show 2 * 0 + (rest.map fun v => v.category).sum ≤ W; rw [Nat.mul_zero, Nat.zero_add]; exact hW) (X₁.named hnamed) ⟨has, eT, hc, hs⟩
  dsimp only [Pt.U, Pt.locs, Pt.cells, Pt.slots] at X' l1 l2 l3 hsteps hQ
  subst l1 l2 l3
  exact ⟨v, T', L, X', hQ, fun t k => ((hstep₁ _ fun acts => by rw [doInvoke_state]; exact Steps.refl _).trans hsteps).trans k⟩
theorem own_getfRef (X : Stand p l e R s m args below meth c T locs cells slots) (hx : p.tables.exec = Jvm.exec) (hZ : Z.Warmed39 s.vm) {own O n d : String} {index : Nat} (hown : s.vm.findClass own = some m.cls) (w : (Cond.fieldRef own index O n d).before a0 Z = true) (eT : T.heap = h) {a : Addr} {v : Value} (F : Fld Z h a O n d v)
    {pc : Nat} {Ls : Array Slot} {rest : List Value} (hd : decode c.code pc = .ok (.getfield index, 3)) : ∀ t, Steps p.tables e below (T.setTop (mkF m (pc + 3) Ls (v :: rest))) t → Steps p.tables e below (T.setTop (mkF m pc Ls (.ref a :: rest))) t := by
  obtain ⟨cell, cf, k, i, f, h1, h2, h3, h4, -, -, h7⟩ := F
  have hW : Z.Warmed39 T.vm := wtrans hZ X.warmed
  have hw := Cond.fieldRef_warmed39 hW w
  have hcur : (Z.setVm T.vm).vm.findClass own = some m.cls := by
    show T.vm.findClass own = _
    rw [X.warmed.alike.findClass]
    exact hown
  obtain ⟨c', k', i', f', q1, q2⟩ := Cond.fieldRef_spec hcur hw
  obtain ⟨k2, hi, -⟩ := State.fieldFound?_setVm (s := Z) hW.alike h2
  rw [hi] at q1
  cases q1
  exact fun t kk => (X.getfieldR hx (g := mkF m pc Ls (.ref a :: rest)) rfl q2 h3 rfl (by rw [eT]; exact h1) h4 h7 hd (Steps.refl _)).trans kk
theorem own_sneE {a b : Addr} {cell : Cell} {C : String} (h1 : h[a]? = some cell) (h2 : cell.vm.isStatics = true) (E : Exa Z h b C) : a ≠ b := fun q => by
  obtain ⟨cell', k', e1, -, -, e4, -⟩ := E
  subst q
  cases h1.symm.trans e1
  rw [h2] at e4
  cases e4
theorem own_sneA {a b : Addr} {cell : Cell} {k : ClassId} {ty : FieldType} {n : Int32} {vs : List Value} {dv : Value} (h1 : h[a]? = some cell) (h2 : cell.vm.isStatics = true) (V : Arv Z h b k ty n vs dv) : a ≠ b := fun q => by
  obtain ⟨cl, A, -⟩ := V
  subst q
  cases h1.symm.trans A.1
  have := A.plain
  rw [h2] at this
  cases this
theorem own_sta_keepL {C n d : String} {v : Value} {h' : Heap} {ws : List Addr} (F : Sta Z h C n d v) (K : Keep h h' ws) (q : ∀ (a : Addr) (cell : Cell), h[a]? = some cell → cell.vm.isStatics = true → a ∉ ws) : Sta Z h' C n d v := by
  obtain ⟨cf, i, k, f, st, cell, h1, h2, h3, h4, h5, h6, h7⟩ := F
  exact ⟨cf, i, k, f, st, cell, h1, h2, h3, h4, K.2.1 _ _ h5 (q _ _ h5 h6), h6, h7⟩
theorem own_nf {args : Array Value} {s : State} {C : String} {x y z : MethodName} (hsel : (Cond.selects C x z).before args s = true) (hc : y.cls = z.cls) : NotFace s y := fun r0 h0 => by
  obtain ⟨c2, r2, m2, q1, q2, q3, q4, kP, hkP, hkPi⟩ := Cond.selects_spec hsel
  have e1 := findClass_of_methodNamed h0
  have e2 := findClass_of_methodNamed q3
  rw [hc] at e1
  have e3 : r0.cls = m2.cls := Option.some.inj (e1.symm.trans e2)
  exact ⟨kP, by rw [e3]; exact hkP, hkPi⟩
end OwnKit
end Jvm.RoadKit
namespace Jvm.Pilot.@@N@@
open Jvm Jvm.ClassFile Sem Op Lib Jvm.Free Jvm.Stand Jvm.LawKit Jvm.RoadKit Bundle Jvm.Pilot.@@N@@.Jvm.D
theorem own_w {Z : State} {a0 : Array Value} (hw : ∀ d ∈ tables_1, d.before a0 Z = true) (i : Nat) {d : Jvm.Cond} (h : tables_1[i]? = some d) : d.before a0 Z = true := hw _ (List.mem_of_getElem? h)
theorem own_i {a : Addr} {L : List Addr} {Q : Prop} (i : Nat) (h : L[i]? = some a) : a ∈ L ∨ Q := Or.inl (List.mem_of_getElem? h)
theorem pd__JSJ_V : parseMethodDescriptor "(JSJ)V" = some ⟨[.long, .short, .long], none⟩ := by decide +kernel
theorem pd___V : parseMethodDescriptor "()V" = some ⟨[], none⟩ := by decide +kernel
theorem pd__Ljava_lang_Object__Z : parseMethodDescriptor "(Ljava/lang/Object;)Z" = some ⟨[(.object "java/lang/Object")], some .boolean⟩ := by decide +kernel
theorem pd__JS_V : parseMethodDescriptor "(JS)V" = some ⟨[.long, .short], none⟩ := by decide +kernel
theorem d1_0 : decode prog_33_method_1_code 0 = .ok (.aload_n 0, 1) := by decide +kernel
theorem d1_1 : decode prog_33_method_1_code 1 = .ok (.invokespecial 1, 3) := by decide +kernel
theorem d1_4 : decode prog_33_method_1_code 4 = .ok (.aload_n 0, 1) := by decide +kernel
theorem d1_5 : decode prog_33_method_1_code 5 = .ok (.lload_n 1, 1) := by decide +kernel
theorem d1_6 : decode prog_33_method_1_code 6 = .ok (.putfield 7, 3) := by decide +kernel
theorem d1_9 : decode prog_33_method_1_code 9 = .ok (.aload_n 0, 1) := by decide +kernel
theorem d1_10 : decode prog_33_method_1_code 10 = .ok (.iload_n 3, 1) := by decide +kernel
theorem d1_11 : decode prog_33_method_1_code 11 = .ok (.putfield 13, 3) := by decide +kernel
theorem d1_14 : decode prog_33_method_1_code 14 = .ok (.aload_n 0, 1) := by decide +kernel
theorem d1_15 : decode prog_33_method_1_code 15 = .ok (.lload 4, 2) := by decide +kernel
theorem d1_17 : decode prog_33_method_1_code 17 = .ok (.putfield 17, 3) := by decide +kernel
theorem d1_20 : decode prog_33_method_1_code 20 = .ok (.return_, 1) := by decide +kernel
theorem pf_com_example_semel_semel_log_OpenTransaction__init___JSJ_V : plainFor (⟨"com/example/semel/semel/log/OpenTransaction", "<init>", "(JSJ)V"⟩ : MethodName) = true := by first | exact plainFor_of_name (by first | (simp [plainName, overriddenIn]; done) | decide +kernel) | exact Jvm.Free.JP.mathPlain rfl (by decide +kernel) | decide +kernel
theorem ef_rm1 (m : MethodId) (q0 : Addr) (q1 : Int64) (q2 : Int32) (q3 : Int64) : entryFrame m #[(.ref q0), (.long q1), (.int q2), (.long q3)] 6 = mkF m 0 #[rv q0, .val (.long q1), .second, iv q2, .val (.long q3), .second] [] := by first | (simp [entryFrame, mkF, argsToLocals, Value.category]; done) | rfl
set_option maxRecDepth 65536 in
set_option maxHeartbeats 40000000 in
theorem rm1 (l : Launch) (Z : State) (a0 : Array Value) (hw : ∀ d ∈ tables_1, d.before a0 Z = true) (ws : List Jvm.Cond) (x0 : Addr) (x1 : Int64) (x2 : Int32) (x3 : Int64) (h0 : Heap) (n0 : Nat) (Z0 : n0 ≤ h0.size) (E_x0 : Exa Z h0 x0 "com/example/semel/semel/log/OpenTransaction") (g_x0 : n0 ≤ x0) (F_producerId : Fld Z h0 x0 "com/example/semel/semel/log/OpenTransaction" "producerId" "J" (.long 0)) (F_producerEpoch : Fld Z h0 x0 "com/example/semel/semel/log/OpenTransaction" "producerEpoch" "S" (.int 0)) (F_firstOffset : Fld Z h0 x0 "com/example/semel/semel/log/OpenTransaction" "firstOffset" "J" (.long 0)) :
    OwnC l Z (⟨"com/example/semel/semel/log/OpenTransaction", "<init>", "(JSJ)V"⟩ : MethodName) prog_33_method_1_code 6 none ws ({ frames := 1, cells := 0, slots := 0, locals := 12 } : Room) #[(.ref x0), (.long x1), (.int x2), (.long x3)] h0 (fun v h L => v = none ∧ Fr n0 L ∧ Keep h0 h [x0] ∧ Exa Z h x0 "com/example/semel/semel/log/OpenTransaction" ∧ Fld Z h x0 "com/example/semel/semel/log/OpenTransaction" "producerId" "J" (.long x1) ∧ Fld Z h x0 "com/example/semel/semel/log/OpenTransaction" "producerEpoch" "S" (.int x2.toInt16.toInt32) ∧ Fld Z h x0 "com/example/semel/semel/log/OpenTransaction" "firstOffset" "J" (.long x3)) := by
  refine own_entry pf_com_example_semel_semel_log_OpenTransaction__init___JSJ_V (fun m => ef_rm1 m x0 x1 x2 x3) ?_
  intro p e s m below meth c T0 X0 hC e0
  obtain ⟨hx, hby, hml, hown, hnm, hret, hlk, hZ⟩ := hC
  have N0 := Fr.nil n0
  have K0 := Keep.refl h0 [x0]
  refine own_go T0 m 1 #[rv x0, .val (.long x1), .second, iv x2, .val (.long x3), .second] [(.ref x0)] (fun t k => XS.aloadN X0.here hx rfl (hb hby d1_0) rfl rfl k) ?_
  obtain ⟨T1, X1, e1, st1⟩ := initO X0 hx hZ hown (own_w hw 6 rfl) (own_w hw 7 rfl) (own_w hw 8 rfl) e0 (g := (mkF m 1 #[rv x0, .val (.long x1), .second, iv x2, .val (.long x3), .second] [(.ref x0)])) rfl (by rw [hml]; rfl) rfl (hb hby d1_1) (by decide) (W := 0) (by show 2 * 0 + _ ≤ _; exact Nat.le_of_eq rfl) (by decide)
  refine own_go T1 m 4 #[rv x0, .val (.long x1), .second, iv x2, .val (.long x3), .second] [] (st1) ?_
  refine own_go T1 m 5 #[rv x0, .val (.long x1), .second, iv x2, .val (.long x3), .second] [(.ref x0)] (fun t k => XS.aloadN X1.here hx rfl (hb hby d1_4) rfl rfl k) ?_
  refine own_go T1 m 6 #[rv x0, .val (.long x1), .second, iv x2, .val (.long x3), .second] [(.long x1), (.ref x0)] (fun t k => XS.lloadN X1.here hx rfl (hb hby d1_5) rfl k) ?_
  obtain ⟨T2, h2, X2, e2, W2, st2⟩ := putF X1 hx hZ hown (host := "") (Or.inl (own_w hw 9 rfl)) Via.refl e1 F_producerId E_x0 (Or.inr ⟨(own_w hw 10 rfl), rfl, hnm⟩) (own_w hw 1 rfl) (ty := .long) (by decide) rfl rfl (g := (mkF m 6 #[rv x0, .val (.long x1), .second, iv x2, .val (.long x3), .second] [(.long x1), (.ref x0)])) rfl rfl (hb hby d1_6)
  have F2 := F_producerId.same W2
  have cf3 := E_x0.wr W2
  have cf4 := F_producerEpoch.other W2 (Or.inr (slot_ne (Or.inr (own_w hw 12 rfl)) (Or.inr (own_w hw 10 rfl)) (by decide) (t := .short) (t' := .long) (by decide) (by decide)))
  have cf5 := F_firstOffset.other W2 (Or.inr (slot_ne (Or.inr (own_w hw 14 rfl)) (Or.inr (own_w hw 10 rfl)) (by decide) (t := .long) (t' := .long) (by decide) (by decide)))
  have Z_2 : n0 ≤ h2.size := Nat.le_trans Z0 (Keep.of_wr W2).1
  have K_2 : Keep h0 h2 [x0] := K0.wr W2 (own_i 0 rfl)
  have N2 := Fr.snoc X2 N0 g_x0
  refine own_go T2 m 9 #[rv x0, .val (.long x1), .second, iv x2, .val (.long x3), .second] [] (st2) ?_
  refine own_go T2 m 10 #[rv x0, .val (.long x1), .second, iv x2, .val (.long x3), .second] [(.ref x0)] (fun t k => XS.aloadN X2.here hx rfl (hb hby d1_9) rfl rfl k) ?_
  refine own_go T2 m 11 #[rv x0, .val (.long x1), .second, iv x2, .val (.long x3), .second] [(.int x2), (.ref x0)] (fun t k => XS.iloadN X2.here hx rfl (hb hby d1_10) rfl k) ?_
  obtain ⟨T6, h6, X6, e6, W6, st6⟩ := putFN X2 hx hZ hown (own_w hw 11 rfl) Via.refl e2 cf4 cf3 (Or.inr ⟨(own_w hw 12 rfl), rfl, hnm⟩) (own_w hw 1 rfl) (ty := .short) (v' := (.int x2.toInt16.toInt32)) (by decide) rfl (fits_nar_short _) (g := (mkF m 11 #[rv x0, .val (.long x1), .second, iv x2, .val (.long x3), .second] [(.int x2), (.ref x0)])) rfl rfl (hb hby d1_11)
  have F6 := cf4.same W6
  have cf7 := cf3.wr W6
  have cf8 := cf5.other W6 (Or.inr (slot_ne (Or.inr (own_w hw 14 rfl)) (Or.inr (own_w hw 12 rfl)) (by decide) (t := .long) (t' := .short) (by decide) (by decide)))
  have cf9 := F2.other W6 (Or.inr (slot_ne (Or.inr (own_w hw 10 rfl)) (Or.inr (own_w hw 12 rfl)) (by decide) (t := .long) (t' := .short) (by decide) (by decide)))
  have Z_6 : n0 ≤ h6.size := Nat.le_trans Z_2 (Keep.of_wr W6).1
  have K_6 : Keep h0 h6 [x0] := K_2.wr W6 (own_i 0 rfl)
  have N6 := Fr.snoc X6 N2 g_x0
  refine own_go T6 m 14 #[rv x0, .val (.long x1), .second, iv x2, .val (.long x3), .second] [] (st6) ?_
  refine own_go T6 m 15 #[rv x0, .val (.long x1), .second, iv x2, .val (.long x3), .second] [(.ref x0)] (fun t k => XS.aloadN X6.here hx rfl (hb hby d1_14) rfl rfl k) ?_
  refine own_go T6 m 17 #[rv x0, .val (.long x1), .second, iv x2, .val (.long x3), .second] [(.long x3), (.ref x0)] (fun t k => XS.lload X6.here hx rfl (hb hby d1_15) rfl k) ?_
  obtain ⟨T10, h10, X10, e10, W10, st10⟩ := putF X6 hx hZ hown (host := "") (Or.inl (own_w hw 13 rfl)) Via.refl e6 cf8 cf7 (Or.inr ⟨(own_w hw 14 rfl), rfl, hnm⟩) (own_w hw 1 rfl) (ty := .long) (by decide) rfl rfl (g := (mkF m 17 #[rv x0, .val (.long x1), .second, iv x2, .val (.long x3), .second] [(.long x3), (.ref x0)])) rfl rfl (hb hby d1_17)
  have F10 := cf8.same W10
  have cf11 := cf7.wr W10
  have cf12 := cf9.other W10 (Or.inr (slot_ne (Or.inr (own_w hw 10 rfl)) (Or.inr (own_w hw 14 rfl)) (by decide) (t := .long) (t' := .long) (by decide) (by decide)))
  have cf13 := F6.other W10 (Or.inr (slot_ne (Or.inr (own_w hw 12 rfl)) (Or.inr (own_w hw 14 rfl)) (by decide) (t := .short) (t' := .long) (by decide) (by decide)))
  have Z_10 : n0 ≤ h10.size := Nat.le_trans Z_6 (Keep.of_wr W10).1
  have K_10 : Keep h0 h10 [x0] := K_6.wr W10 (own_i 0 rfl)
  have N10 := Fr.snoc X10 N6 g_x0
  refine own_go T10 m 20 #[rv x0, .val (.long x1), .second, iv x2, .val (.long x3), .second] [] (st10) ?_
  refine own_retV X10 hx hlk hret (hb hby d1_20) (by decide) (by decide) ?_
  rw [e10]
  exact ⟨rfl, N10, K_10, cf11, cf12, cf13, F10⟩
def own_eq (a0 : Int64) (a1 : Int32) (a2 : Int64) (b0 : Int64) (b1 : Int32) (b2 : Int64) : Int32 := if a0 = b0 then if a1 = b1 then if a2 = b2 then 1 else 0 else 0 else 0
theorem d3_0 : decode prog_33_method_6_code 0 = .ok (.aload_n 1, 1) := by decide +kernel
theorem d3_1 : decode prog_33_method_6_code 1 = .ok (.instanceof 8, 3) := by decide +kernel
theorem d3_4 : decode prog_33_method_6_code 4 = .ok (.ifCond .eq 47, 3) := by decide +kernel
theorem d3_7 : decode prog_33_method_6_code 7 = .ok (.aload_n 1, 1) := by decide +kernel
theorem d3_8 : decode prog_33_method_6_code 8 = .ok (.checkcast 8, 3) := by decide +kernel
theorem d3_11 : decode prog_33_method_6_code 11 = .ok (.astore_n 2, 1) := by decide +kernel
theorem d3_12 : decode prog_33_method_6_code 12 = .ok (.aload_n 0, 1) := by decide +kernel
theorem d3_13 : decode prog_33_method_6_code 13 = .ok (.getfield 7, 3) := by decide +kernel
theorem d3_16 : decode prog_33_method_6_code 16 = .ok (.aload_n 2, 1) := by decide +kernel
theorem d3_17 : decode prog_33_method_6_code 17 = .ok (.getfield 7, 3) := by decide +kernel
theorem d3_20 : decode prog_33_method_6_code 20 = .ok (.lcmp, 1) := by decide +kernel
theorem d3_21 : decode prog_33_method_6_code 21 = .ok (.ifCond .ne 30, 3) := by decide +kernel
theorem d3_24 : decode prog_33_method_6_code 24 = .ok (.aload_n 0, 1) := by decide +kernel
theorem d3_25 : decode prog_33_method_6_code 25 = .ok (.getfield 13, 3) := by decide +kernel
theorem d3_28 : decode prog_33_method_6_code 28 = .ok (.aload_n 2, 1) := by decide +kernel
theorem d3_29 : decode prog_33_method_6_code 29 = .ok (.getfield 13, 3) := by decide +kernel
theorem d3_32 : decode prog_33_method_6_code 32 = .ok (.if_icmp .ne 19, 3) := by decide +kernel
theorem d3_35 : decode prog_33_method_6_code 35 = .ok (.aload_n 0, 1) := by decide +kernel
theorem d3_36 : decode prog_33_method_6_code 36 = .ok (.getfield 17, 3) := by decide +kernel
theorem d3_39 : decode prog_33_method_6_code 39 = .ok (.aload_n 2, 1) := by decide +kernel
theorem d3_40 : decode prog_33_method_6_code 40 = .ok (.getfield 17, 3) := by decide +kernel
theorem d3_43 : decode prog_33_method_6_code 43 = .ok (.lcmp, 1) := by decide +kernel
theorem d3_44 : decode prog_33_method_6_code 44 = .ok (.ifCond .ne 7, 3) := by decide +kernel
theorem d3_47 : decode prog_33_method_6_code 47 = .ok (.iconst 1, 1) := by decide +kernel
theorem d3_48 : decode prog_33_method_6_code 48 = .ok (.goto 4, 3) := by decide +kernel
theorem d3_51 : decode prog_33_method_6_code 51 = .ok (.iconst 0, 1) := by decide +kernel
theorem d3_52 : decode prog_33_method_6_code 52 = .ok (.ireturn, 1) := by decide +kernel
theorem pf_com_example_semel_semel_log_OpenTransaction_equals__Ljava_lang_Object__Z : plainFor (⟨"com/example/semel/semel/log/OpenTransaction", "equals", "(Ljava/lang/Object;)Z"⟩ : MethodName) = true := by first | exact plainFor_of_name (by first | (simp [plainName, overriddenIn]; done) | decide +kernel) | exact Jvm.Free.JP.mathPlain rfl (by decide +kernel) | decide +kernel
theorem ef_rmEn (m : MethodId) (q0 : Addr) : entryFrame m #[(.ref q0), .null] 3 = mkF m 0 #[rv q0, .val .null, .unset] [] := by first | (simp [entryFrame, mkF, argsToLocals, Value.category]; done) | rfl
set_option maxRecDepth 65536 in
set_option maxHeartbeats 40000000 in
theorem rmEn (l : Launch) (Z : State) (a0 : Array Value) (hw : ∀ d ∈ tables_1, d.before a0 Z = true) (ws : List Jvm.Cond) (x0 : Addr) (h0 : Heap) :
    OwnC l Z (⟨"com/example/semel/semel/log/OpenTransaction", "equals", "(Ljava/lang/Object;)Z"⟩ : MethodName) prog_33_method_6_code 3 (some .boolean) ws ({ frames := 0, cells := 0, slots := 0, locals := 0 } : Room) #[(.ref x0), .null] h0 (OwnPure (.int 0) h0) := by
  refine own_entry pf_com_example_semel_semel_log_OpenTransaction_equals__Ljava_lang_Object__Z (fun m => ef_rmEn m x0) ?_
  intro p e s m below meth c T0 X0 hC e0
  obtain ⟨hx, hby, hml, hown, hnm, hret, hlk, hZ⟩ := hC
  refine own_go T0 m 1 #[rv x0, .val .null, .unset] [.null] (fun t k => XS.aloadN X0.here hx rfl (hb hby d3_0) rfl rfl k) ?_
  refine own_go T0 m 4 #[rv x0, .val .null, .unset] [(.int 0)] (X0.instanceofNull hx (g := (mkF m 1 #[rv x0, .val .null, .unset] [.null])) rfl rfl (hb hby d3_1)) ?_
  refine own_go T0 m 51 #[rv x0, .val .null, .unset] [] (fun t k => XS.ifYes X0.here hx rfl (pc0 := 4) (pc' := 51) rfl (hb hby d3_4) rfl ((if0 _ _).trans (teq (by decide)).1) (by decide) (by decide) k) ?_
  refine own_go T0 m 52 #[rv x0, .val .null, .unset] [(.int 0)] (fun t k => XS.iconst X0.here hx rfl (hb hby d3_51) k) ?_
  refine own_retZ X0 hx hlk hret (by decide) (hb hby d3_52) (by decide) (by decide) ?_
  exact ⟨rfl, e0, rfl⟩
theorem ef_rmEb (m : MethodId) (q0 : Addr) (q1 : Addr) : entryFrame m #[(.ref q0), (.ref q1)] 3 = mkF m 0 #[rv q0, rv q1, .unset] [] := by first | (simp [entryFrame, mkF, argsToLocals, Value.category]; done) | rfl
set_option maxRecDepth 65536 in
set_option maxHeartbeats 40000000 in
theorem rmEb (l : Launch) (Z : State) (a0 : Array Value) (hw : ∀ d ∈ tables_1, d.before a0 Z = true) (ws : List Jvm.Cond) (x0 : Addr) (x1 : Addr) (a0 : Int64) (a1 : Int32) (a2 : Int64) (b0 : Int64) (b1 : Int32) (b2 : Int64) (h0 : Heap) (F_producerId_x0 : Fld Z h0 x0 "com/example/semel/semel/log/OpenTransaction" "producerId" "J" (.long a0)) (F_producerEpoch_x0 : Fld Z h0 x0 "com/example/semel/semel/log/OpenTransaction" "producerEpoch" "S" (.int a1)) (F_firstOffset_x0 : Fld Z h0 x0 "com/example/semel/semel/log/OpenTransaction" "firstOffset" "J" (.long a2)) (F_producerId_x1 : Fld Z h0 x1 "com/example/semel/semel/log/OpenTransaction" "producerId" "J" (.long b0)) (F_producerEpoch_x1 : Fld Z h0 x1 "com/example/semel/semel/log/OpenTransaction" "producerEpoch" "S" (.int b1)) (F_firstOffset_x1 : Fld Z h0 x1 "com/example/semel/semel/log/OpenTransaction" "firstOffset" "J" (.long b2)) (E_x1 : Exa Z h0 x1 "com/example/semel/semel/log/OpenTransaction") :
    OwnC l Z (⟨"com/example/semel/semel/log/OpenTransaction", "equals", "(Ljava/lang/Object;)Z"⟩ : MethodName) prog_33_method_6_code 3 (some .boolean) ws ({ frames := 0, cells := 0, slots := 0, locals := 0 } : Room) #[(.ref x0), (.ref x1)] h0 (OwnPure (.int (own_eq a0 a1 a2 b0 b1 b2)) h0) := by
  refine own_entry pf_com_example_semel_semel_log_OpenTransaction_equals__Ljava_lang_Object__Z (fun m => ef_rmEb m x0 x1) ?_
  intro p e s m below meth c T0 X0 hC e0
  obtain ⟨hx, hby, hml, hown, hnm, hret, hlk, hZ⟩ := hC
  refine own_go T0 m 1 #[rv x0, rv x1, .unset] [(.ref x1)] (fun t k => XS.aloadN X0.here hx rfl (hb hby d3_0) rfl rfl k) ?_
  obtain ⟨T1, X1, e1, st1⟩ := instY X0 hx hZ hown (own_w hw 20 rfl) e0 (Ins.self E_x1) (g := (mkF m 1 #[rv x0, rv x1, .unset] [(.ref x1)])) rfl rfl (hb hby d3_1)
  refine own_go T1 m 4 #[rv x0, rv x1, .unset] [(.int 1)] (st1) ?_
  refine own_go T1 m 7 #[rv x0, rv x1, .unset] [] (fun t k => XS.ifNo X1.here hx rfl (hb hby d3_4) rfl ((if0 _ _).trans (feq (by decide)).1) k) ?_
  refine own_go T1 m 8 #[rv x0, rv x1, .unset] [(.ref x1)] (fun t k => XS.aloadN X1.here hx rfl (hb hby d3_7) rfl rfl k) ?_
  obtain ⟨T2, X2, e2, st2⟩ := castY X1 hx hZ hown (own_w hw 20 rfl) e1 (Ins.self E_x1) (g := (mkF m 8 #[rv x0, rv x1, .unset] [(.ref x1)])) rfl rfl (hb hby d3_8)
  refine own_go T2 m 11 #[rv x0, rv x1, .unset] [(.ref x1)] (st2) ?_
  refine own_go T2 m 12 #[rv x0, rv x1, rv x1] [] (fun t k => XS.astoreN X2.here hx rfl (hb hby d3_11) rfl rfl rfl k) ?_
  refine own_go T2 m 13 #[rv x0, rv x1, rv x1] [(.ref x0)] (fun t k => XS.aloadN X2.here hx rfl (hb hby d3_12) rfl rfl k) ?_
  obtain ⟨T3, X3, e3, st3⟩ := getF X2 hx hZ hown (host := "") (Or.inl (own_w hw 9 rfl)) Via.refl e2 F_producerId_x0 (g := (mkF m 13 #[rv x0, rv x1, rv x1] [(.ref x0)])) rfl rfl (hb hby d3_13)
  refine own_go T3 m 16 #[rv x0, rv x1, rv x1] [(.long a0)] (st3) ?_
  refine own_go T3 m 17 #[rv x0, rv x1, rv x1] [(.ref x1), (.long a0)] (fun t k => XS.aloadN X3.here hx rfl (hb hby d3_16) rfl rfl k) ?_
  obtain ⟨T4, X4, e4, st4⟩ := getF X3 hx hZ hown (host := "") (Or.inl (own_w hw 9 rfl)) Via.refl e3 F_producerId_x1 (g := (mkF m 17 #[rv x0, rv x1, rv x1] [(.ref x1), (.long a0)])) rfl rfl (hb hby d3_17)
  refine own_go T4 m 20 #[rv x0, rv x1, rv x1] [(.long b0), (.long a0)] (st4) ?_
  refine own_go T4 m 21 #[rv x0, rv x1, rv x1] [(.int (lcmpW a0 b0))] (fun t k => XS.lcmp X4.here hx rfl (hb hby d3_20) rfl k) ?_
  by_cases hc21_5 : a0 = b0
  · refine own_go T4 m 24 #[rv x0, rv x1, rv x1] [] (fun t k => XS.ifNo X4.here hx rfl (hb hby d3_21) rfl ((if0 _ _).trans (teq ((lw_eq a0 b0).mpr hc21_5)).2) k) ?_
    refine own_go T4 m 25 #[rv x0, rv x1, rv x1] [(.ref x0)] (fun t k => XS.aloadN X4.here hx rfl (hb hby d3_24) rfl rfl k) ?_
    obtain ⟨T6, X6, e6, st6⟩ := getF X4 hx hZ hown (host := "") (Or.inl (own_w hw 11 rfl)) Via.refl e4 F_producerEpoch_x0 (g := (mkF m 25 #[rv x0, rv x1, rv x1] [(.ref x0)])) rfl rfl (hb hby d3_25)
    refine own_go T6 m 28 #[rv x0, rv x1, rv x1] [(.int a1)] (st6) ?_
    refine own_go T6 m 29 #[rv x0, rv x1, rv x1] [(.ref x1), (.int a1)] (fun t k => XS.aloadN X6.here hx rfl (hb hby d3_28) rfl rfl k) ?_
    obtain ⟨T7, X7, e7, st7⟩ := getF X6 hx hZ hown (host := "") (Or.inl (own_w hw 11 rfl)) Via.refl e6 F_producerEpoch_x1 (g := (mkF m 29 #[rv x0, rv x1, rv x1] [(.ref x1), (.int a1)])) rfl rfl (hb hby d3_29)
    refine own_go T7 m 32 #[rv x0, rv x1, rv x1] [(.int b1), (.int a1)] (st7) ?_
    by_cases hc32_8 : a1 = b1
    · refine own_go T7 m 35 #[rv x0, rv x1, rv x1] [] (fun t k => XS.icmpNo X7.here hx rfl (hb hby d3_32) rfl (teq hc32_8).2 k) ?_
      refine own_go T7 m 36 #[rv x0, rv x1, rv x1] [(.ref x0)] (fun t k => XS.aloadN X7.here hx rfl (hb hby d3_35) rfl rfl k) ?_
      obtain ⟨T9, X9, e9, st9⟩ := getF X7 hx hZ hown (host := "") (Or.inl (own_w hw 13 rfl)) Via.refl e7 F_firstOffset_x0 (g := (mkF m 36 #[rv x0, rv x1, rv x1] [(.ref x0)])) rfl rfl (hb hby d3_36)
      refine own_go T9 m 39 #[rv x0, rv x1, rv x1] [(.long a2)] (st9) ?_
      refine own_go T9 m 40 #[rv x0, rv x1, rv x1] [(.ref x1), (.long a2)] (fun t k => XS.aloadN X9.here hx rfl (hb hby d3_39) rfl rfl k) ?_
      obtain ⟨T10, X10, e10, st10⟩ := getF X9 hx hZ hown (host := "") (Or.inl (own_w hw 13 rfl)) Via.refl e9 F_firstOffset_x1 (g := (mkF m 40 #[rv x0, rv x1, rv x1] [(.ref x1), (.long a2)])) rfl rfl (hb hby d3_40)
      refine own_go T10 m 43 #[rv x0, rv x1, rv x1] [(.long b2), (.long a2)] (st10) ?_
      refine own_go T10 m 44 #[rv x0, rv x1, rv x1] [(.int (lcmpW a2 b2))] (fun t k => XS.lcmp X10.here hx rfl (hb hby d3_43) rfl k) ?_
      by_cases hc44_11 : a2 = b2
      · refine own_go T10 m 47 #[rv x0, rv x1, rv x1] [] (fun t k => XS.ifNo X10.here hx rfl (hb hby d3_44) rfl ((if0 _ _).trans (teq ((lw_eq a2 b2).mpr hc44_11)).2) k) ?_
        refine own_go T10 m 48 #[rv x0, rv x1, rv x1] [(.int 1)] (fun t k => XS.iconst X10.here hx rfl (hb hby d3_47) k) ?_
        refine own_go T10 m 52 #[rv x0, rv x1, rv x1] [(.int 1)] (fun t k => XS.goto X10.here hx rfl (pc0 := 48) (pc' := 52) rfl (hb hby d3_48) (by decide) (by decide) k) ?_
        refine own_retZ X10 hx hlk hret (by decide) (hb hby d3_52) (by decide) (by decide) ?_
        refine ⟨?_, e10, rfl⟩
        simp [own_eq, hc21_5, hc32_8, hc44_11]
      · refine own_go T10 m 51 #[rv x0, rv x1, rv x1] [] (fun t k => XS.ifYes X10.here hx rfl (pc0 := 44) (pc' := 51) rfl (hb hby d3_44) rfl ((if0 _ _).trans (feq (mt (lw_eq a2 b2).mp hc44_11)).2) (by decide) (by decide) k) ?_
        refine own_go T10 m 52 #[rv x0, rv x1, rv x1] [(.int 0)] (fun t k => XS.iconst X10.here hx rfl (hb hby d3_51) k) ?_
        refine own_retZ X10 hx hlk hret (by decide) (hb hby d3_52) (by decide) (by decide) ?_
        refine ⟨?_, e10, rfl⟩
        simp [own_eq, hc21_5, hc32_8, hc44_11]
    · refine own_go T7 m 51 #[rv x0, rv x1, rv x1] [] (fun t k => XS.icmpYes X7.here hx rfl (pc0 := 32) (pc' := 51) rfl (hb hby d3_32) rfl (feq hc32_8).2 (by decide) (by decide) k) ?_
      refine own_go T7 m 52 #[rv x0, rv x1, rv x1] [(.int 0)] (fun t k => XS.iconst X7.here hx rfl (hb hby d3_51) k) ?_
      refine own_retZ X7 hx hlk hret (by decide) (hb hby d3_52) (by decide) (by decide) ?_
      refine ⟨?_, e7, rfl⟩
      simp [own_eq, hc21_5, hc32_8]
  · refine own_go T4 m 51 #[rv x0, rv x1, rv x1] [] (fun t k => XS.ifYes X4.here hx rfl (pc0 := 21) (pc' := 51) rfl (hb hby d3_21) rfl ((if0 _ _).trans (feq (mt (lw_eq a0 b0).mp hc21_5)).2) (by decide) (by decide) k) ?_
    refine own_go T4 m 52 #[rv x0, rv x1, rv x1] [(.int 0)] (fun t k => XS.iconst X4.here hx rfl (hb hby d3_51) k) ?_
    refine own_retZ X4 hx hlk hret (by decide) (hb hby d3_52) (by decide) (by decide) ?_
    refine ⟨?_, e4, rfl⟩
    simp [own_eq, hc21_5]
theorem d4_0 : decode prog_39_method_1_code 0 = .ok (.aload_n 0, 1) := by decide +kernel
theorem d4_1 : decode prog_39_method_1_code 1 = .ok (.invokespecial 1, 3) := by decide +kernel
theorem d4_4 : decode prog_39_method_1_code 4 = .ok (.aload_n 0, 1) := by decide +kernel
theorem d4_5 : decode prog_39_method_1_code 5 = .ok (.lload_n 1, 1) := by decide +kernel
theorem d4_6 : decode prog_39_method_1_code 6 = .ok (.putfield 7, 3) := by decide +kernel
theorem d4_9 : decode prog_39_method_1_code 9 = .ok (.aload_n 0, 1) := by decide +kernel
theorem d4_10 : decode prog_39_method_1_code 10 = .ok (.iload_n 3, 1) := by decide +kernel
theorem d4_11 : decode prog_39_method_1_code 11 = .ok (.putfield 13, 3) := by decide +kernel
theorem d4_14 : decode prog_39_method_1_code 14 = .ok (.return_, 1) := by decide +kernel
theorem pf_com_example_semel_semel_producer_ProducerInstance__init___JS_V : plainFor (⟨"com/example/semel/semel/producer/ProducerInstance", "<init>", "(JS)V"⟩ : MethodName) = true := by first | exact plainFor_of_name (by first | (simp [plainName, overriddenIn]; done) | decide +kernel) | exact Jvm.Free.JP.mathPlain rfl (by decide +kernel) | decide +kernel
theorem ef_rm4 (m : MethodId) (q0 : Addr) (q1 : Int64) (q2 : Int32) : entryFrame m #[(.ref q0), (.long q1), (.int q2)] 4 = mkF m 0 #[rv q0, .val (.long q1), .second, iv q2] [] := by first | (simp [entryFrame, mkF, argsToLocals, Value.category]; done) | rfl
set_option maxRecDepth 65536 in
set_option maxHeartbeats 40000000 in
theorem rm4 (l : Launch) (Z : State) (a0 : Array Value) (hw : ∀ d ∈ tables_1, d.before a0 Z = true) (ws : List Jvm.Cond) (x0 : Addr) (x1 : Int64) (x2 : Int32) (h0 : Heap) (n0 : Nat) (Z0 : n0 ≤ h0.size) (E_x0 : Exa Z h0 x0 "com/example/semel/semel/producer/ProducerInstance") (g_x0 : n0 ≤ x0) (F_producerId : Fld Z h0 x0 "com/example/semel/semel/producer/ProducerInstance" "producerId" "J" (.long 0)) (F_epoch : Fld Z h0 x0 "com/example/semel/semel/producer/ProducerInstance" "epoch" "S" (.int 0)) :
    OwnC l Z (⟨"com/example/semel/semel/producer/ProducerInstance", "<init>", "(JS)V"⟩ : MethodName) prog_39_method_1_code 4 none ws ({ frames := 1, cells := 0, slots := 0, locals := 12 } : Room) #[(.ref x0), (.long x1), (.int x2)] h0 (fun v h L => v = none ∧ Fr n0 L ∧ Keep h0 h [x0] ∧ Exa Z h x0 "com/example/semel/semel/producer/ProducerInstance" ∧ Fld Z h x0 "com/example/semel/semel/producer/ProducerInstance" "producerId" "J" (.long x1) ∧ Fld Z h x0 "com/example/semel/semel/producer/ProducerInstance" "epoch" "S" (.int x2.toInt16.toInt32)) := by
  refine own_entry pf_com_example_semel_semel_producer_ProducerInstance__init___JS_V (fun m => ef_rm4 m x0 x1 x2) ?_
  intro p e s m below meth c T0 X0 hC e0
  obtain ⟨hx, hby, hml, hown, hnm, hret, hlk, hZ⟩ := hC
  have N0 := Fr.nil n0
  have K0 := Keep.refl h0 [x0]
  refine own_go T0 m 1 #[rv x0, .val (.long x1), .second, iv x2] [(.ref x0)] (fun t k => XS.aloadN X0.here hx rfl (hb hby d4_0) rfl rfl k) ?_
  obtain ⟨T1, X1, e1, st1⟩ := initO X0 hx hZ hown (own_w hw 29 rfl) (own_w hw 7 rfl) (own_w hw 8 rfl) e0 (g := (mkF m 1 #[rv x0, .val (.long x1), .second, iv x2] [(.ref x0)])) rfl (by rw [hml]; rfl) rfl (hb hby d4_1) (by decide) (W := 0) (by show 2 * 0 + _ ≤ _; exact Nat.le_of_eq rfl) (by decide)
  refine own_go T1 m 4 #[rv x0, .val (.long x1), .second, iv x2] [] (st1) ?_
  refine own_go T1 m 5 #[rv x0, .val (.long x1), .second, iv x2] [(.ref x0)] (fun t k => XS.aloadN X1.here hx rfl (hb hby d4_4) rfl rfl k) ?_
  refine own_go T1 m 6 #[rv x0, .val (.long x1), .second, iv x2] [(.long x1), (.ref x0)] (fun t k => XS.lloadN X1.here hx rfl (hb hby d4_5) rfl k) ?_
  obtain ⟨T2, h2, X2, e2, W2, st2⟩ := putF X1 hx hZ hown (host := "") (Or.inl (own_w hw 30 rfl)) Via.refl e1 F_producerId E_x0 (Or.inr ⟨(own_w hw 31 rfl), rfl, hnm⟩) (own_w hw 23 rfl) (ty := .long) (by decide) rfl rfl (g := (mkF m 6 #[rv x0, .val (.long x1), .second, iv x2] [(.long x1), (.ref x0)])) rfl rfl (hb hby d4_6)
  have F2 := F_producerId.same W2
  have cf3 := E_x0.wr W2
  have cf4 := F_epoch.other W2 (Or.inr (slot_ne (Or.inr (own_w hw 33 rfl)) (Or.inr (own_w hw 31 rfl)) (by decide) (t := .short) (t' := .long) (by decide) (by decide)))
  have Z_2 : n0 ≤ h2.size := Nat.le_trans Z0 (Keep.of_wr W2).1
  have K_2 : Keep h0 h2 [x0] := K0.wr W2 (own_i 0 rfl)
  have N2 := Fr.snoc X2 N0 g_x0
  refine own_go T2 m 9 #[rv x0, .val (.long x1), .second, iv x2] [] (st2) ?_
  refine own_go T2 m 10 #[rv x0, .val (.long x1), .second, iv x2] [(.ref x0)] (fun t k => XS.aloadN X2.here hx rfl (hb hby d4_9) rfl rfl k) ?_
  refine own_go T2 m 11 #[rv x0, .val (.long x1), .second, iv x2] [(.int x2), (.ref x0)] (fun t k => XS.iloadN X2.here hx rfl (hb hby d4_10) rfl k) ?_
  obtain ⟨T5, h5, X5, e5, W5, st5⟩ := putFN X2 hx hZ hown (own_w hw 32 rfl) Via.refl e2 cf4 cf3 (Or.inr ⟨(own_w hw 33 rfl), rfl, hnm⟩) (own_w hw 23 rfl) (ty := .short) (v' := (.int x2.toInt16.toInt32)) (by decide) rfl (fits_nar_short _) (g := (mkF m 11 #[rv x0, .val (.long x1), .second, iv x2] [(.int x2), (.ref x0)])) rfl rfl (hb hby d4_11)
  have F5 := cf4.same W5
  have cf6 := cf3.wr W5
  have cf7 := F2.other W5 (Or.inr (slot_ne (Or.inr (own_w hw 31 rfl)) (Or.inr (own_w hw 33 rfl)) (by decide) (t := .long) (t' := .short) (by decide) (by decide)))
  have Z_5 : n0 ≤ h5.size := Nat.le_trans Z_2 (Keep.of_wr W5).1
  have K_5 : Keep h0 h5 [x0] := K_2.wr W5 (own_i 0 rfl)
  have N5 := Fr.snoc X5 N2 g_x0
  refine own_go T5 m 14 #[rv x0, .val (.long x1), .second, iv x2] [] (st5) ?_
  refine own_retV X5 hx hlk hret (hb hby d4_14) (by decide) (by decide) ?_
  rw [e5]
  exact ⟨rfl, N5, K_5, cf6, cf7, F5⟩
theorem ef_rmEc0 (m : MethodId) (q0 : Addr) (q1 : Addr) : entryFrame m #[(.ref q0), (.ref q1)] 3 = mkF m 0 #[rv q0, rv q1, .unset] [] := by first | (simp [entryFrame, mkF, argsToLocals, Value.category]; done) | rfl
set_option maxRecDepth 65536 in
set_option maxHeartbeats 40000000 in
theorem rmEc0 (l : Launch) (Z : State) (a0 : Array Value) (hw : ∀ d ∈ tables_1, d.before a0 Z = true) (ws : List Jvm.Cond) (x0 : Addr) (x1 : Addr) (h0 : Heap) (E_x1 : Exa Z h0 x1 "com/example/semel/semel/producer/ProducerInstance") :
    OwnC l Z (⟨"com/example/semel/semel/log/OpenTransaction", "equals", "(Ljava/lang/Object;)Z"⟩ : MethodName) prog_33_method_6_code 3 (some .boolean) ws ({ frames := 0, cells := 0, slots := 0, locals := 0 } : Room) #[(.ref x0), (.ref x1)] h0 (OwnPure (.int 0) h0) := by
  refine own_entry pf_com_example_semel_semel_log_OpenTransaction_equals__Ljava_lang_Object__Z (fun m => ef_rmEc0 m x0 x1) ?_
  intro p e s m below meth c T0 X0 hC e0
  obtain ⟨hx, hby, hml, hown, hnm, hret, hlk, hZ⟩ := hC
  refine own_go T0 m 1 #[rv x0, rv x1, .unset] [(.ref x1)] (fun t k => XS.aloadN X0.here hx rfl (hb hby d3_0) rfl rfl k) ?_
  obtain ⟨T1, X1, e1, st1⟩ := instNo X0 hx hZ hown (own_w hw 20 rfl) e0 E_x1 (own_nsno (own_w hw 34 rfl) (own_w hw 1 rfl) (NS.step (own_w hw 34 rfl) (own_nsroot (own_w hw 35 rfl) (own_w hw 1 rfl) (by decide)) (by decide)) (by decide)) (g := (mkF m 1 #[rv x0, rv x1, .unset] [(.ref x1)])) rfl rfl (hb hby d3_1)
  refine own_go T1 m 4 #[rv x0, rv x1, .unset] [(.int 0)] (st1) ?_
  refine own_go T1 m 51 #[rv x0, rv x1, .unset] [] (fun t k => XS.ifYes X1.here hx rfl (pc0 := 4) (pc' := 51) rfl (hb hby d3_4) rfl ((if0 _ _).trans (teq (by decide)).1) (by decide) (by decide) k) ?_
  refine own_go T1 m 52 #[rv x0, rv x1, .unset] [(.int 0)] (fun t k => XS.iconst X1.here hx rfl (hb hby d3_51) k) ?_
  refine own_retZ X1 hx hlk hret (by decide) (hb hby d3_52) (by decide) (by decide) ?_
  exact ⟨rfl, e1, rfl⟩
theorem pf_com_example_semel_semel_log_OpenTransactionEqualsPinLaw_law__JIJJJI_Z : plainFor (⟨"com/example/semel/semel/log/OpenTransactionEqualsPinLaw", "law", "(JIJJJI)Z"⟩ : MethodName) = true := by first | exact plainFor_of_name (by first | (simp [plainName, overriddenIn]; done) | decide +kernel) | exact Jvm.Free.JP.mathPlain rfl (by decide +kernel) | decide +kernel
theorem ef_rm0 (m : MethodId) (q0 : Int64) (q1 : Int32) (q2 : Int64) (q3 : Int64) (q4 : Int64) (q5 : Int32) : entryFrame m #[(.long q0), (.int q1), (.long q2), (.long q3), (.long q4), (.int q5)] maxLocals = mkF m 0 #[.val (.long q0), .second, iv q1, .val (.long q2), .second, .val (.long q3), .second, .val (.long q4), .second, iv q5, .unset, .unset, .unset, .unset, .unset, .unset, .unset, .unset, .unset, .unset, .unset, .unset, .unset, .unset] [] := by first | (simp [entryFrame, mkF, argsToLocals, Value.category, maxLocals]; done) | rfl
set_option maxRecDepth 65536 in
set_option maxHeartbeats 40000000 in
theorem rm0 (l : Launch) (Z : State) (a0 : Array Value) (hw : ∀ d ∈ tables_1, d.before a0 Z = true) (ws : List Jvm.Cond) (x0 : Int64) (x1 : Int32) (x2 : Int64) (x3 : Int64) (x4 : Int64) (x5 : Int32) (h0 : Heap) (n0 : Nat) (Z0 : n0 ≤ h0.size) :
    OwnC l Z x code maxLocals ret ws room_1 #[(.long x0), (.int x1), (.long x2), (.long x3), (.long x4), (.int x5)] h0 (fun v h L => v = some (.int 1) ∧ Fr n0 L) := by
  refine own_entry pf_com_example_semel_semel_log_OpenTransactionEqualsPinLaw_law__JIJJJI_Z (fun m => ef_rm0 m x0 x1 x2 x3 x4 x5) ?_
  intro p e s m below meth c T0 X0 hC e0
  obtain ⟨hx, hby, hml, hown, hnm, hret, hlk, hZ⟩ := hC
  have hml : c.maxLocals = 24 := hml
  have N0 := Fr.nil n0
  refine own_go T0 m 1 #[.val (.long x0), .second, iv x1, .val (.long x2), .second, .val (.long x3), .second, .val (.long x4), .second, iv x5, .unset, .unset, .unset, .unset, .unset, .unset, .unset, .unset, .unset, .unset, .unset, .unset, .unset, .unset] [(.int x1)] (fun t k => XS.iloadN X0.here hx rfl (hb hby at_0) rfl k) ?_
  refine own_go T0 m 2 #[.val (.long x0), .second, iv x1, .val (.long x2), .second, .val (.long x3), .second, .val (.long x4), .second, iv x5, .unset, .unset, .unset, .unset, .unset, .unset, .unset, .unset, .unset, .unset, .unset, .unset, .unset, .unset] [(.int x1.toInt16.toInt32)] (fun t k => XS.i2s X0.here hx rfl (hb hby at_1) rfl k) ?_
  refine own_go T0 m 4 #[.val (.long x0), .second, iv x1, .val (.long x2), .second, .val (.long x3), .second, .val (.long x4), .second, iv x5, iv x1.toInt16.toInt32, .unset, .unset, .unset, .unset, .unset, .unset, .unset, .unset, .unset, .unset, .unset, .unset, .unset] [] (fun t k => XS.istore X0.here hx rfl (hb hby at_2) rfl rfl k) ?_
  have he1 := own_s16 x1
  obtain ⟨es1, hd_es1⟩ : ∃ z, z = x1.toInt16.toInt32 := ⟨_, rfl⟩
  rw [← hd_es1] at he1 ⊢
  refine own_go T0 m 6 #[.val (.long x0), .second, iv x1, .val (.long x2), .second, .val (.long x3), .second, .val (.long x4), .second, iv x5, iv es1, .unset, .unset, .unset, .unset, .unset, .unset, .unset, .unset, .unset, .unset, .unset, .unset, .unset] [(.int x5)] (fun t k => XS.iload X0.here hx rfl (hb hby at_4) rfl k) ?_
  refine own_go T0 m 8 #[.val (.long x0), .second, iv x1, .val (.long x2), .second, .val (.long x3), .second, .val (.long x4), .second, iv x5, iv es1, .unset, .unset, .unset, .unset, .unset, .unset, .unset, .unset, .unset, .unset, .unset, .unset, .unset] [(.int 16), (.int x5)] (fun t k => XS.bipush X0.here hx rfl (hb hby at_6) k) ?_
  refine own_go T0 m 9 #[.val (.long x0), .second, iv x1, .val (.long x2), .second, .val (.long x3), .second, .val (.long x4), .second, iv x5, iv es1, .unset, .unset, .unset, .unset, .unset, .unset, .unset, .unset, .unset, .unset, .unset, .unset, .unset] [(.int ((x5.toUInt32 >>> ((16 : Int32) &&& 31).toUInt32).toInt32))] (fun t k => XS.iushr X0.here hx rfl (hb hby at_8) rfl k) ?_
  refine own_go T0 m 10 #[.val (.long x0), .second, iv x1, .val (.long x2), .second, .val (.long x3), .second, .val (.long x4), .second, iv x5, iv es1, .unset, .unset, .unset, .unset, .unset, .unset, .unset, .unset, .unset, .unset, .unset, .unset, .unset] [(.int ((x5.toUInt32 >>> ((16 : Int32) &&& 31).toUInt32).toInt32).toInt16.toInt32)] (fun t k => XS.i2s X0.here hx rfl (hb hby at_9) rfl k) ?_
  refine own_go T0 m 12 #[.val (.long x0), .second, iv x1, .val (.long x2), .second, .val (.long x3), .second, .val (.long x4), .second, iv x5, iv es1, iv ((x5.toUInt32 >>> ((16 : Int32) &&& 31).toUInt32).toInt32).toInt16.toInt32, .unset, .unset, .unset, .unset, .unset, .unset, .unset, .unset, .unset, .unset, .unset, .unset] [] (fun t k => XS.istore X0.here hx rfl (hb hby at_10) rfl rfl k) ?_
  have he2 := own_s16 ((x5.toUInt32 >>> ((16 : Int32) &&& 31).toUInt32).toInt32)
  obtain ⟨es2, hd_es2⟩ : ∃ z, z = ((x5.toUInt32 >>> ((16 : Int32) &&& 31).toUInt32).toInt32).toInt16.toInt32 := ⟨_, rfl⟩
  rw [← hd_es2] at he2 ⊢
  refine own_go T0 m 14 #[.val (.long x0), .second, iv x1, .val (.long x2), .second, .val (.long x3), .second, .val (.long x4), .second, iv x5, iv es1, iv es2, .unset, .unset, .unset, .unset, .unset, .unset, .unset, .unset, .unset, .unset, .unset, .unset] [(.int x5)] (fun t k => XS.iload X0.here hx rfl (hb hby at_12) rfl k) ?_
  refine own_go T0 m 15 #[.val (.long x0), .second, iv x1, .val (.long x2), .second, .val (.long x3), .second, .val (.long x4), .second, iv x5, iv es1, iv es2, .unset, .unset, .unset, .unset, .unset, .unset, .unset, .unset, .unset, .unset, .unset, .unset] [(.int 1), (.int x5)] (fun t k => XS.iconst X0.here hx rfl (hb hby at_14) k) ?_
  refine own_go T0 m 16 #[.val (.long x0), .second, iv x1, .val (.long x2), .second, .val (.long x3), .second, .val (.long x4), .second, iv x5, iv es1, iv es2, .unset, .unset, .unset, .unset, .unset, .unset, .unset, .unset, .unset, .unset, .unset, .unset] [(.int (x5 &&& (1 : Int32)))] (fun t k => XS.iand X0.here hx rfl (hb hby at_15) rfl k) ?_
  have seg27 : ∀ (v12 : Int64), OwnG p.tables e below s (fun v h L => v = some (.int 1) ∧ Fr n0 L) room_1.cells room_1.slots (T0.setTop (mkF m 27 #[.val (.long x0), .second, iv x1, .val (.long x2), .second, .val (.long x3), .second, .val (.long x4), .second, iv x5, iv es1, iv es2, .val (.long v12), .second, .unset, .unset, .unset, .unset, .unset, .unset, .unset, .unset, .unset, .unset] [])) := by
    intro v12
    refine own_go T0 m 29 #[.val (.long x0), .second, iv x1, .val (.long x2), .second, .val (.long x3), .second, .val (.long x4), .second, iv x5, iv es1, iv es2, .val (.long v12), .second, .unset, .unset, .unset, .unset, .unset, .unset, .unset, .unset, .unset, .unset] [(.int x5)] (fun t k => XS.iload X0.here hx rfl (hb hby at_27) rfl k) ?_
    refine own_go T0 m 30 #[.val (.long x0), .second, iv x1, .val (.long x2), .second, .val (.long x3), .second, .val (.long x4), .second, iv x5, iv es1, iv es2, .val (.long v12), .second, .unset, .unset, .unset, .unset, .unset, .unset, .unset, .unset, .unset, .unset] [(.int 2), (.int x5)] (fun t k => XS.iconst X0.here hx rfl (hb hby at_29) k) ?_
    refine own_go T0 m 31 #[.val (.long x0), .second, iv x1, .val (.long x2), .second, .val (.long x3), .second, .val (.long x4), .second, iv x5, iv es1, iv es2, .val (.long v12), .second, .unset, .unset, .unset, .unset, .unset, .unset, .unset, .unset, .unset, .unset] [(.int (x5 &&& (2 : Int32)))] (fun t k => XS.iand X0.here hx rfl (hb hby at_30) rfl k) ?_
    have seg43 : ∀ (v14 : Int32), (v14.toInt16.toInt32 = v14) → OwnG p.tables e below s (fun v h L => v = some (.int 1) ∧ Fr n0 L) room_1.cells room_1.slots (T0.setTop (mkF m 43 #[.val (.long x0), .second, iv x1, .val (.long x2), .second, .val (.long x3), .second, .val (.long x4), .second, iv x5, iv es1, iv es2, .val (.long v12), .second, iv v14, .unset, .unset, .unset, .unset, .unset, .unset, .unset, .unset, .unset] [])) := by
      intro v14 hv14
      refine own_go T0 m 45 #[.val (.long x0), .second, iv x1, .val (.long x2), .second, .val (.long x3), .second, .val (.long x4), .second, iv x5, iv es1, iv es2, .val (.long v12), .second, iv v14, .unset, .unset, .unset, .unset, .unset, .unset, .unset, .unset, .unset] [(.int x5)] (fun t k => XS.iload X0.here hx rfl (hb hby at_43) rfl k) ?_
      refine own_go T0 m 46 #[.val (.long x0), .second, iv x1, .val (.long x2), .second, .val (.long x3), .second, .val (.long x4), .second, iv x5, iv es1, iv es2, .val (.long v12), .second, iv v14, .unset, .unset, .unset, .unset, .unset, .unset, .unset, .unset, .unset] [(.int 4), (.int x5)] (fun t k => XS.iconst X0.here hx rfl (hb hby at_45) k) ?_
      refine own_go T0 m 47 #[.val (.long x0), .second, iv x1, .val (.long x2), .second, .val (.long x3), .second, .val (.long x4), .second, iv x5, iv es1, iv es2, .val (.long v12), .second, iv v14, .unset, .unset, .unset, .unset, .unset, .unset, .unset, .unset, .unset] [(.int (x5 &&& (4 : Int32)))] (fun t k => XS.iand X0.here hx rfl (hb hby at_46) rfl k) ?_
      have seg58 : ∀ (v15 : Int64), OwnG p.tables e below s (fun v h L => v = some (.int 1) ∧ Fr n0 L) room_1.cells room_1.slots (T0.setTop (mkF m 58 #[.val (.long x0), .second, iv x1, .val (.long x2), .second, .val (.long x3), .second, .val (.long x4), .second, iv x5, iv es1, iv es2, .val (.long v12), .second, iv v14, .val (.long v15), .second, .unset, .unset, .unset, .unset, .unset, .unset, .unset] [])) := by
        intro v15
        refine own_go T0 m 60 #[.val (.long x0), .second, iv x1, .val (.long x2), .second, .val (.long x3), .second, .val (.long x4), .second, iv x5, iv es1, iv es2, .val (.long v12), .second, iv v14, .val (.long v15), .second, .unset, .unset, .unset, .unset, .unset, .unset, .unset] [(.int x5)] (fun t k => XS.iload X0.here hx rfl (hb hby at_58) rfl k) ?_
        refine own_go T0 m 61 #[.val (.long x0), .second, iv x1, .val (.long x2), .second, .val (.long x3), .second, .val (.long x4), .second, iv x5, iv es1, iv es2, .val (.long v12), .second, iv v14, .val (.long v15), .second, .unset, .unset, .unset, .unset, .unset, .unset, .unset] [(.int 3), (.int x5)] (fun t k => XS.iconst X0.here hx rfl (hb hby at_60) k) ?_
        refine own_go T0 m 62 #[.val (.long x0), .second, iv x1, .val (.long x2), .second, .val (.long x3), .second, .val (.long x4), .second, iv x5, iv es1, iv es2, .val (.long v12), .second, iv v14, .val (.long v15), .second, .unset, .unset, .unset, .unset, .unset, .unset, .unset] [(.int ((x5.toUInt32 >>> ((3 : Int32) &&& 31).toUInt32).toInt32))] (fun t k => XS.iushr X0.here hx rfl (hb hby at_61) rfl k) ?_
        refine own_go T0 m 63 #[.val (.long x0), .second, iv x1, .val (.long x2), .second, .val (.long x3), .second, .val (.long x4), .second, iv x5, iv es1, iv es2, .val (.long v12), .second, iv v14, .val (.long v15), .second, .unset, .unset, .unset, .unset, .unset, .unset, .unset] [(.int 3), (.int ((x5.toUInt32 >>> ((3 : Int32) &&& 31).toUInt32).toInt32))] (fun t k => XS.iconst X0.here hx rfl (hb hby at_62) k) ?_
        refine own_go T0 m 64 #[.val (.long x0), .second, iv x1, .val (.long x2), .second, .val (.long x3), .second, .val (.long x4), .second, iv x5, iv es1, iv es2, .val (.long v12), .second, iv v14, .val (.long v15), .second, .unset, .unset, .unset, .unset, .unset, .unset, .unset] [(.int (((x5.toUInt32 >>> ((3 : Int32) &&& 31).toUInt32).toInt32) &&& (3 : Int32)))] (fun t k => XS.iand X0.here hx rfl (hb hby at_63) rfl k) ?_
        refine own_go T0 m 66 #[.val (.long x0), .second, iv x1, .val (.long x2), .second, .val (.long x3), .second, .val (.long x4), .second, iv x5, iv es1, iv es2, .val (.long v12), .second, iv v14, .val (.long v15), .second, iv (((x5.toUInt32 >>> ((3 : Int32) &&& 31).toUInt32).toInt32) &&& (3 : Int32)), .unset, .unset, .unset, .unset, .unset, .unset] [] (fun t k => XS.istore X0.here hx rfl (hb hby at_64) rfl rfl k) ?_
        obtain ⟨T4, h4, X4, e4, E4, A4, D4, -, st4⟩ := newO X0 hx hZ hown (own_w hw 0 rfl) (own_w hw 1 rfl) (own_w hw 2 rfl) e0 (g := (mkF m 66 #[.val (.long x0), .second, iv x1, .val (.long x2), .second, .val (.long x3), .second, .val (.long x4), .second, iv x5, iv es1, iv es2, .val (.long v12), .second, iv v14, .val (.long v15), .second, iv (((x5.toUInt32 >>> ((3 : Int32) &&& 31).toUInt32).toInt32) &&& (3 : Int32)), .unset, .unset, .unset, .unset, .unset, .unset] [])) rfl (hb hby at_66) (by decide) (by decide)
        obtain ⟨b4, g4⟩ : ∃ z, z = h0.size := ⟨_, rfl⟩
        rw [← g4] at A4 D4 st4
        have g_b4 : n0 ≤ b4 := Nat.le_trans Z0 (Nat.le_of_eq g4.symm)
        have Z_4 : n0 ≤ h4.size := Nat.le_trans Z0 E4.1
        have F_producerId_4 : Fld Z h4 b4 "com/example/semel/semel/log/OpenTransaction" "producerId" "J" (.long 0) := D4 (Or.inr (own_w hw 10 rfl)) (ty := .long) (by decide)
        have F_producerEpoch_4 : Fld Z h4 b4 "com/example/semel/semel/log/OpenTransaction" "producerEpoch" "S" (.int 0) := D4 (Or.inr (own_w hw 12 rfl)) (ty := .short) (by decide)
        have F_firstOffset_4 : Fld Z h4 b4 "com/example/semel/semel/log/OpenTransaction" "firstOffset" "J" (.long 0) := D4 (Or.inr (own_w hw 14 rfl)) (ty := .long) (by decide)
        refine own_go T4 m 69 #[.val (.long x0), .second, iv x1, .val (.long x2), .second, .val (.long x3), .second, .val (.long x4), .second, iv x5, iv es1, iv es2, .val (.long v12), .second, iv v14, .val (.long v15), .second, iv (((x5.toUInt32 >>> ((3 : Int32) &&& 31).toUInt32).toInt32) &&& (3 : Int32)), .unset, .unset, .unset, .unset, .unset, .unset] [(.ref b4)] (st4) ?_
        refine own_go T4 m 70 #[.val (.long x0), .second, iv x1, .val (.long x2), .second, .val (.long x3), .second, .val (.long x4), .second, iv x5, iv es1, iv es2, .val (.long v12), .second, iv v14, .val (.long v15), .second, iv (((x5.toUInt32 >>> ((3 : Int32) &&& 31).toUInt32).toInt32) &&& (3 : Int32)), .unset, .unset, .unset, .unset, .unset, .unset] [(.ref b4), (.ref b4)] (fun t k => XS.dup X4.here hx rfl (hb hby at_69) rfl rfl k) ?_
        refine own_go T4 m 71 #[.val (.long x0), .second, iv x1, .val (.long x2), .second, .val (.long x3), .second, .val (.long x4), .second, iv x5, iv es1, iv es2, .val (.long v12), .second, iv v14, .val (.long v15), .second, iv (((x5.toUInt32 >>> ((3 : Int32) &&& 31).toUInt32).toInt32) &&& (3 : Int32)), .unset, .unset, .unset, .unset, .unset, .unset] [(.long x0), (.ref b4), (.ref b4)] (fun t k => XS.lloadN X4.here hx rfl (hb hby at_70) rfl k) ?_
        refine own_go T4 m 73 #[.val (.long x0), .second, iv x1, .val (.long x2), .second, .val (.long x3), .second, .val (.long x4), .second, iv x5, iv es1, iv es2, .val (.long v12), .second, iv v14, .val (.long v15), .second, iv (((x5.toUInt32 >>> ((3 : Int32) &&& 31).toUInt32).toInt32) &&& (3 : Int32)), .unset, .unset, .unset, .unset, .unset, .unset] [(.int es1), (.long x0), (.ref b4), (.ref b4)] (fun t k => XS.iload X4.here hx rfl (hb hby at_71) rfl k) ?_
        refine own_go T4 m 74 #[.val (.long x0), .second, iv x1, .val (.long x2), .second, .val (.long x3), .second, .val (.long x4), .second, iv x5, iv es1, iv es2, .val (.long v12), .second, iv v14, .val (.long v15), .second, iv (((x5.toUInt32 >>> ((3 : Int32) &&& 31).toUInt32).toInt32) &&& (3 : Int32)), .unset, .unset, .unset, .unset, .unset, .unset] [(.long x2), (.int es1), (.long x0), (.ref b4), (.ref b4)] (fun t k => XS.lloadN X4.here hx rfl (hb hby at_73) rfl k) ?_
        obtain ⟨_, T5, L5, X5, ⟨rfl, Nq5, Kq5, Aq5, Fq5_0, Fq5_1, Fq5_2⟩, st5⟩ := own_init X4 hx hZ (y := (⟨"com/example/semel/semel/log/OpenTransaction", "<init>", "(JSJ)V"⟩ : MethodName)) rfl hown (own_w hw 3 rfl) (own_w hw 4 rfl) (own_w hw 2 rfl) (own_w hw 5 rfl) (by decide) (rm1 l Z a0 hw [] b4 x0 es1 x2 h4 n0 Z_4 A4 g_b4 F_producerId_4 F_producerEpoch_4 F_firstOffset_4 ) e4 (a := b4) 1 (argsL := [(.long x0), (.int es1), (.long x2)]) (rest := [(.ref b4)]) (Ls := #[.val (.long x0), .second, iv x1, .val (.long x2), .second, .val (.long x3), .second, .val (.long x4), .second, iv x5, iv es1, iv es2, .val (.long v12), .second, iv v14, .val (.long v15), .second, iv (((x5.toUInt32 >>> ((3 : Int32) &&& 31).toUInt32).toInt32) &&& (3 : Int32)), .unset, .unset, .unset, .unset, .unset, .unset]) (by rw [hml]; rfl) (lenOf pd__JSJ_V rfl) rfl rfl (Nat.le_of_eq rfl) (hb hby at_74) (by decide) (by decide) (by decide) (by decide)
        have N5 := Fr.app N0 Nq5
        have cf6 := A4.keep Kq5
        have Z_5 : n0 ≤ T5.heap.size := Nat.le_trans Z_4 Kq5.1
        rw [he1] at Fq5_1
        refine own_go T5 m 77 #[.val (.long x0), .second, iv x1, .val (.long x2), .second, .val (.long x3), .second, .val (.long x4), .second, iv x5, iv es1, iv es2, .val (.long v12), .second, iv v14, .val (.long v15), .second, iv (((x5.toUInt32 >>> ((3 : Int32) &&& 31).toUInt32).toInt32) &&& (3 : Int32)), .unset, .unset, .unset, .unset, .unset, .unset] [(.ref b4)] (st5) ?_
        refine own_go T5 m 79 #[.val (.long x0), .second, iv x1, .val (.long x2), .second, .val (.long x3), .second, .val (.long x4), .second, iv x5, iv es1, iv es2, .val (.long v12), .second, iv v14, .val (.long v15), .second, iv (((x5.toUInt32 >>> ((3 : Int32) &&& 31).toUInt32).toInt32) &&& (3 : Int32)), rv b4, .unset, .unset, .unset, .unset, .unset] [] (fun t k => XS.astore X5.here hx rfl (hb hby at_77) rfl rfl rfl k) ?_
        obtain ⟨T7, h7, X7, e7, E7, A7, D7, -, st7⟩ := newO X5 hx hZ hown (own_w hw 0 rfl) (own_w hw 1 rfl) (own_w hw 2 rfl) rfl (g := (mkF m 79 #[.val (.long x0), .second, iv x1, .val (.long x2), .second, .val (.long x3), .second, .val (.long x4), .second, iv x5, iv es1, iv es2, .val (.long v12), .second, iv v14, .val (.long v15), .second, iv (((x5.toUInt32 >>> ((3 : Int32) &&& 31).toUInt32).toInt32) &&& (3 : Int32)), rv b4, .unset, .unset, .unset, .unset, .unset] [])) rfl (hb hby at_79) (by decide) (by decide)
        obtain ⟨b7, g7⟩ : ∃ z, z = T5.heap.size := ⟨_, rfl⟩
        rw [← g7] at A7 D7 st7
        have ne_b4_b7 : b4 ≠ b7 := Nat.ne_of_lt (Nat.lt_of_lt_of_eq Aq5.lt g7.symm)
        have g_b7 : n0 ≤ b7 := Nat.le_trans Z_5 (Nat.le_of_eq g7.symm)
        have cf8 := Aq5.ext E7
        have cf9 := Fq5_0.ext E7
        have cf10 := Fq5_1.ext E7
        have cf11 := Fq5_2.ext E7
        have Z_7 : n0 ≤ h7.size := Nat.le_trans Z_5 E7.1
        have F_producerId_7 : Fld Z h7 b7 "com/example/semel/semel/log/OpenTransaction" "producerId" "J" (.long 0) := D7 (Or.inr (own_w hw 10 rfl)) (ty := .long) (by decide)
        have F_producerEpoch_7 : Fld Z h7 b7 "com/example/semel/semel/log/OpenTransaction" "producerEpoch" "S" (.int 0) := D7 (Or.inr (own_w hw 12 rfl)) (ty := .short) (by decide)
        have F_firstOffset_7 : Fld Z h7 b7 "com/example/semel/semel/log/OpenTransaction" "firstOffset" "J" (.long 0) := D7 (Or.inr (own_w hw 14 rfl)) (ty := .long) (by decide)
        refine own_go T7 m 82 #[.val (.long x0), .second, iv x1, .val (.long x2), .second, .val (.long x3), .second, .val (.long x4), .second, iv x5, iv es1, iv es2, .val (.long v12), .second, iv v14, .val (.long v15), .second, iv (((x5.toUInt32 >>> ((3 : Int32) &&& 31).toUInt32).toInt32) &&& (3 : Int32)), rv b4, .unset, .unset, .unset, .unset, .unset] [(.ref b7)] (st7) ?_
        refine own_go T7 m 83 #[.val (.long x0), .second, iv x1, .val (.long x2), .second, .val (.long x3), .second, .val (.long x4), .second, iv x5, iv es1, iv es2, .val (.long v12), .second, iv v14, .val (.long v15), .second, iv (((x5.toUInt32 >>> ((3 : Int32) &&& 31).toUInt32).toInt32) &&& (3 : Int32)), rv b4, .unset, .unset, .unset, .unset, .unset] [(.ref b7), (.ref b7)] (fun t k => XS.dup X7.here hx rfl (hb hby at_82) rfl rfl k) ?_
        refine own_go T7 m 85 #[.val (.long x0), .second, iv x1, .val (.long x2), .second, .val (.long x3), .second, .val (.long x4), .second, iv x5, iv es1, iv es2, .val (.long v12), .second, iv v14, .val (.long v15), .second, iv (((x5.toUInt32 >>> ((3 : Int32) &&& 31).toUInt32).toInt32) &&& (3 : Int32)), rv b4, .unset, .unset, .unset, .unset, .unset] [(.long v12), (.ref b7), (.ref b7)] (fun t k => XS.lload X7.here hx rfl (hb hby at_83) rfl k) ?_
        refine own_go T7 m 87 #[.val (.long x0), .second, iv x1, .val (.long x2), .second, .val (.long x3), .second, .val (.long x4), .second, iv x5, iv es1, iv es2, .val (.long v12), .second, iv v14, .val (.long v15), .second, iv (((x5.toUInt32 >>> ((3 : Int32) &&& 31).toUInt32).toInt32) &&& (3 : Int32)), rv b4, .unset, .unset, .unset, .unset, .unset] [(.int v14), (.long v12), (.ref b7), (.ref b7)] (fun t k => XS.iload X7.here hx rfl (hb hby at_85) rfl k) ?_
        refine own_go T7 m 89 #[.val (.long x0), .second, iv x1, .val (.long x2), .second, .val (.long x3), .second, .val (.long x4), .second, iv x5, iv es1, iv es2, .val (.long v12), .second, iv v14, .val (.long v15), .second, iv (((x5.toUInt32 >>> ((3 : Int32) &&& 31).toUInt32).toInt32) &&& (3 : Int32)), rv b4, .unset, .unset, .unset, .unset, .unset] [(.long v15), (.int v14), (.long v12), (.ref b7), (.ref b7)] (fun t k => XS.lload X7.here hx rfl (hb hby at_87) rfl k) ?_
        obtain ⟨_, T12, L12, X12, ⟨rfl, Nq12, Kq12, Aq12, Fq12_0, Fq12_1, Fq12_2⟩, st12⟩ := own_init X7 hx hZ (y := (⟨"com/example/semel/semel/log/OpenTransaction", "<init>", "(JSJ)V"⟩ : MethodName)) rfl hown (own_w hw 3 rfl) (own_w hw 4 rfl) (own_w hw 2 rfl) (own_w hw 5 rfl) (by decide) (rm1 l Z a0 hw [] b7 v12 v14 v15 h7 n0 Z_7 A7 g_b7 F_producerId_7 F_producerEpoch_7 F_firstOffset_7 ) e7 (a := b7) 1 (argsL := [(.long v12), (.int v14), (.long v15)]) (rest := [(.ref b7)]) (Ls := #[.val (.long x0), .second, iv x1, .val (.long x2), .second, .val (.long x3), .second, .val (.long x4), .second, iv x5, iv es1, iv es2, .val (.long v12), .second, iv v14, .val (.long v15), .second, iv (((x5.toUInt32 >>> ((3 : Int32) &&& 31).toUInt32).toInt32) &&& (3 : Int32)), rv b4, .unset, .unset, .unset, .unset, .unset]) (by rw [hml]; rfl) (lenOf pd__JSJ_V rfl) rfl rfl (Nat.le_of_eq rfl) (hb hby at_89) (by decide) (by decide) (by decide) (by decide)
        have N12 := Fr.app N5 Nq12
        have cf13 := cf8.keep Kq12
        have cf14 := cf9.keep Kq12 (ninS ne_b4_b7 nin0)
        have cf15 := cf10.keep Kq12 (ninS ne_b4_b7 nin0)
        have cf16 := cf11.keep Kq12 (ninS ne_b4_b7 nin0)
        have cf17 := A7.keep Kq12
        have Z_12 : n0 ≤ T12.heap.size := Nat.le_trans Z_7 Kq12.1
        rw [hv14] at Fq12_1
        refine own_go T12 m 92 #[.val (.long x0), .second, iv x1, .val (.long x2), .second, .val (.long x3), .second, .val (.long x4), .second, iv x5, iv es1, iv es2, .val (.long v12), .second, iv v14, .val (.long v15), .second, iv (((x5.toUInt32 >>> ((3 : Int32) &&& 31).toUInt32).toInt32) &&& (3 : Int32)), rv b4, .unset, .unset, .unset, .unset, .unset] [(.ref b7)] (st12) ?_
        refine own_go T12 m 94 #[.val (.long x0), .second, iv x1, .val (.long x2), .second, .val (.long x3), .second, .val (.long x4), .second, iv x5, iv es1, iv es2, .val (.long v12), .second, iv v14, .val (.long v15), .second, iv (((x5.toUInt32 >>> ((3 : Int32) &&& 31).toUInt32).toInt32) &&& (3 : Int32)), rv b4, rv b7, .unset, .unset, .unset, .unset] [] (fun t k => XS.astore X12.here hx rfl (hb hby at_92) rfl rfl rfl k) ?_
        refine own_go T12 m 96 #[.val (.long x0), .second, iv x1, .val (.long x2), .second, .val (.long x3), .second, .val (.long x4), .second, iv x5, iv es1, iv es2, .val (.long v12), .second, iv v14, .val (.long v15), .second, iv (((x5.toUInt32 >>> ((3 : Int32) &&& 31).toUInt32).toInt32) &&& (3 : Int32)), rv b4, rv b7, .unset, .unset, .unset, .unset] [(.int (((x5.toUInt32 >>> ((3 : Int32) &&& 31).toUInt32).toInt32) &&& (3 : Int32)))] (fun t k => XS.iload X12.here hx rfl (hb hby at_94) rfl k) ?_
        obtain ⟨kd, hd_kd⟩ : ∃ z, z = (((x5.toUInt32 >>> ((3 : Int32) &&& 31).toUInt32).toInt32) &&& (3 : Int32)) := ⟨_, rfl⟩
        rw [← hd_kd]
        by_cases hc96_18 : kd = (0 : Int32)
        · refine own_go T12 m 99 #[.val (.long x0), .second, iv x1, .val (.long x2), .second, .val (.long x3), .second, .val (.long x4), .second, iv x5, iv es1, iv es2, .val (.long v12), .second, iv v14, .val (.long v15), .second, iv kd, rv b4, rv b7, .unset, .unset, .unset, .unset] [] (fun t k => XS.ifNo X12.here hx rfl (hb hby at_96) rfl ((if0 _ _).trans (teq hc96_18).2) k) ?_
          refine own_go T12 m 101 #[.val (.long x0), .second, iv x1, .val (.long x2), .second, .val (.long x3), .second, .val (.long x4), .second, iv x5, iv es1, iv es2, .val (.long v12), .second, iv v14, .val (.long v15), .second, iv kd, rv b4, rv b7, .unset, .unset, .unset, .unset] [(.ref b7)] (fun t k => XS.aload X12.here hx rfl (hb hby at_99) rfl rfl k) ?_
          refine own_go T12 m 103 #[.val (.long x0), .second, iv x1, .val (.long x2), .second, .val (.long x3), .second, .val (.long x4), .second, iv x5, iv es1, iv es2, .val (.long v12), .second, iv v14, .val (.long v15), .second, iv kd, rv b4, rv b7, rv b7, .unset, .unset, .unset] [] (fun t k => XS.astore X12.here hx rfl (hb hby at_101) rfl rfl rfl k) ?_
          refine own_go T12 m 104 #[.val (.long x0), .second, iv x1, .val (.long x2), .second, .val (.long x3), .second, .val (.long x4), .second, iv x5, iv es1, iv es2, .val (.long v12), .second, iv v14, .val (.long v15), .second, iv kd, rv b4, rv b7, rv b7, .unset, .unset, .unset] [(.long x0)] (fun t k => XS.lloadN X12.here hx rfl (hb hby at_103) rfl k) ?_
          refine own_go T12 m 106 #[.val (.long x0), .second, iv x1, .val (.long x2), .second, .val (.long x3), .second, .val (.long x4), .second, iv x5, iv es1, iv es2, .val (.long v12), .second, iv v14, .val (.long v15), .second, iv kd, rv b4, rv b7, rv b7, .unset, .unset, .unset] [(.long v12), (.long x0)] (fun t k => XS.lload X12.here hx rfl (hb hby at_104) rfl k) ?_
          refine own_go T12 m 107 #[.val (.long x0), .second, iv x1, .val (.long x2), .second, .val (.long x3), .second, .val (.long x4), .second, iv x5, iv es1, iv es2, .val (.long v12), .second, iv v14, .val (.long v15), .second, iv kd, rv b4, rv b7, rv b7, .unset, .unset, .unset] [(.int (lcmpW x0 v12))] (fun t k => XS.lcmp X12.here hx rfl (hb hby at_106) rfl k) ?_
          by_cases hc107_19 : x0 = v12
          · refine own_go T12 m 110 #[.val (.long x0), .second, iv x1, .val (.long x2), .second, .val (.long x3), .second, .val (.long x4), .second, iv x5, iv es1, iv es2, .val (.long v12), .second, iv v14, .val (.long v15), .second, iv kd, rv b4, rv b7, rv b7, .unset, .unset, .unset] [] (fun t k => XS.ifNo X12.here hx rfl (hb hby at_107) rfl ((if0 _ _).trans (teq ((lw_eq x0 v12).mpr hc107_19)).2) k) ?_
            refine own_go T12 m 112 #[.val (.long x0), .second, iv x1, .val (.long x2), .second, .val (.long x3), .second, .val (.long x4), .second, iv x5, iv es1, iv es2, .val (.long v12), .second, iv v14, .val (.long v15), .second, iv kd, rv b4, rv b7, rv b7, .unset, .unset, .unset] [(.int es1)] (fun t k => XS.iload X12.here hx rfl (hb hby at_110) rfl k) ?_
            refine own_go T12 m 114 #[.val (.long x0), .second, iv x1, .val (.long x2), .second, .val (.long x3), .second, .val (.long x4), .second, iv x5, iv es1, iv es2, .val (.long v12), .second, iv v14, .val (.long v15), .second, iv kd, rv b4, rv b7, rv b7, .unset, .unset, .unset] [(.int v14), (.int es1)] (fun t k => XS.iload X12.here hx rfl (hb hby at_112) rfl k) ?_
            by_cases hc114_20 : es1 = v14
            · refine own_go T12 m 117 #[.val (.long x0), .second, iv x1, .val (.long x2), .second, .val (.long x3), .second, .val (.long x4), .second, iv x5, iv es1, iv es2, .val (.long v12), .second, iv v14, .val (.long v15), .second, iv kd, rv b4, rv b7, rv b7, .unset, .unset, .unset] [] (fun t k => XS.icmpNo X12.here hx rfl (hb hby at_114) rfl (teq hc114_20).2 k) ?_
              refine own_go T12 m 118 #[.val (.long x0), .second, iv x1, .val (.long x2), .second, .val (.long x3), .second, .val (.long x4), .second, iv x5, iv es1, iv es2, .val (.long v12), .second, iv v14, .val (.long v15), .second, iv kd, rv b4, rv b7, rv b7, .unset, .unset, .unset] [(.long x2)] (fun t k => XS.lloadN X12.here hx rfl (hb hby at_117) rfl k) ?_
              refine own_go T12 m 120 #[.val (.long x0), .second, iv x1, .val (.long x2), .second, .val (.long x3), .second, .val (.long x4), .second, iv x5, iv es1, iv es2, .val (.long v12), .second, iv v14, .val (.long v15), .second, iv kd, rv b4, rv b7, rv b7, .unset, .unset, .unset] [(.long v15), (.long x2)] (fun t k => XS.lload X12.here hx rfl (hb hby at_118) rfl k) ?_
              refine own_go T12 m 121 #[.val (.long x0), .second, iv x1, .val (.long x2), .second, .val (.long x3), .second, .val (.long x4), .second, iv x5, iv es1, iv es2, .val (.long v12), .second, iv v14, .val (.long v15), .second, iv kd, rv b4, rv b7, rv b7, .unset, .unset, .unset] [(.int (lcmpW x2 v15))] (fun t k => XS.lcmp X12.here hx rfl (hb hby at_120) rfl k) ?_
              by_cases hc121_21 : x2 = v15
              · refine own_go T12 m 124 #[.val (.long x0), .second, iv x1, .val (.long x2), .second, .val (.long x3), .second, .val (.long x4), .second, iv x5, iv es1, iv es2, .val (.long v12), .second, iv v14, .val (.long v15), .second, iv kd, rv b4, rv b7, rv b7, .unset, .unset, .unset] [] (fun t k => XS.ifNo X12.here hx rfl (hb hby at_121) rfl ((if0 _ _).trans (teq ((lw_eq x2 v15).mpr hc121_21)).2) k) ?_
                refine own_go T12 m 125 #[.val (.long x0), .second, iv x1, .val (.long x2), .second, .val (.long x3), .second, .val (.long x4), .second, iv x5, iv es1, iv es2, .val (.long v12), .second, iv v14, .val (.long v15), .second, iv kd, rv b4, rv b7, rv b7, .unset, .unset, .unset] [(.int 1)] (fun t k => XS.iconst X12.here hx rfl (hb hby at_124) k) ?_
                refine own_go T12 m 129 #[.val (.long x0), .second, iv x1, .val (.long x2), .second, .val (.long x3), .second, .val (.long x4), .second, iv x5, iv es1, iv es2, .val (.long v12), .second, iv v14, .val (.long v15), .second, iv kd, rv b4, rv b7, rv b7, .unset, .unset, .unset] [(.int 1)] (fun t k => XS.goto X12.here hx rfl (pc0 := 125) (pc' := 129) rfl (hb hby at_125) (by decide) (by decide) k) ?_
                refine own_go T12 m 131 #[.val (.long x0), .second, iv x1, .val (.long x2), .second, .val (.long x3), .second, .val (.long x4), .second, iv x5, iv es1, iv es2, .val (.long v12), .second, iv v14, .val (.long v15), .second, iv kd, rv b4, rv b7, rv b7, iv 1, .unset, .unset] [] (fun t k => XS.istore X12.here hx rfl (hb hby at_129) rfl rfl k) ?_
                refine own_go T12 m 189 #[.val (.long x0), .second, iv x1, .val (.long x2), .second, .val (.long x3), .second, .val (.long x4), .second, iv x5, iv es1, iv es2, .val (.long v12), .second, iv v14, .val (.long v15), .second, iv kd, rv b4, rv b7, rv b7, iv 1, .unset, .unset] [] (fun t k => XS.goto X12.here hx rfl (pc0 := 131) (pc' := 189) rfl (hb hby at_131) (by decide) (by decide) k) ?_
                refine own_go T12 m 191 #[.val (.long x0), .second, iv x1, .val (.long x2), .second, .val (.long x3), .second, .val (.long x4), .second, iv x5, iv es1, iv es2, .val (.long v12), .second, iv v14, .val (.long v15), .second, iv kd, rv b4, rv b7, rv b7, iv 1, .unset, .unset] [(.ref b4)] (fun t k => XS.aload X12.here hx rfl (hb hby at_189) rfl rfl k) ?_
                refine own_go T12 m 193 #[.val (.long x0), .second, iv x1, .val (.long x2), .second, .val (.long x3), .second, .val (.long x4), .second, iv x5, iv es1, iv es2, .val (.long v12), .second, iv v14, .val (.long v15), .second, iv kd, rv b4, rv b7, rv b7, iv 1, .unset, .unset] [(.ref b7), (.ref b4)] (fun t k => XS.aload X12.here hx rfl (hb hby at_191) rfl rfl k) ?_
                obtain ⟨_, T22, L22, X22, ⟨rfl, e22, rfl⟩, st22⟩ := own_virtual X12 hx hZ (y := (⟨"com/example/semel/semel/log/OpenTransaction", "equals", "(Ljava/lang/Object;)Z"⟩ : MethodName)) (z := (⟨"com/example/semel/semel/log/OpenTransaction", "equals", "(Ljava/lang/Object;)Z"⟩ : MethodName)) hown (own_w hw 15 rfl) (own_w hw 16 rfl) (notFace_of_selects (args := #[]) (mvT hZ (own_w hw 18 rfl))) (own_w hw 18 rfl) (own_w hw 17 rfl) (own_w hw 2 rfl) (own_w hw 19 rfl) (by decide) (rmEb l Z a0 hw [] b4 b7 x0 es1 x2 v12 v14 v15 T12.heap cf14 cf15 cf16 Fq12_0 Fq12_1 Fq12_2 Aq12) rfl cf13 0 (argsL := [(.ref b7)]) (rest := []) (Ls := #[.val (.long x0), .second, iv x1, .val (.long x2), .second, .val (.long x3), .second, .val (.long x4), .second, iv x5, iv es1, iv es2, .val (.long v12), .second, iv v14, .val (.long v15), .second, iv kd, rv b4, rv b7, rv b7, iv 1, .unset, .unset]) (by rw [hml]; rfl) (lenOf pd__Ljava_lang_Object__Z rfl) rfl rfl (Nat.le_of_eq rfl) (hb hby at_193) (by decide) (by decide) (by decide) (by decide)
                replace X22 := own_nil X22
                refine own_go T22 m 196 #[.val (.long x0), .second, iv x1, .val (.long x2), .second, .val (.long x3), .second, .val (.long x4), .second, iv x5, iv es1, iv es2, .val (.long v12), .second, iv v14, .val (.long v15), .second, iv kd, rv b4, rv b7, rv b7, iv 1, .unset, .unset] [(.int (own_eq x0 es1 x2 v12 v14 v15))] (st22) ?_
                rw [show (own_eq x0 es1 x2 v12 v14 v15) = (1 : Int32) from by simp [own_eq, hc107_19, hc114_20, hc121_21]]
                refine own_go T22 m 198 #[.val (.long x0), .second, iv x1, .val (.long x2), .second, .val (.long x3), .second, .val (.long x4), .second, iv x5, iv es1, iv es2, .val (.long v12), .second, iv v14, .val (.long v15), .second, iv kd, rv b4, rv b7, rv b7, iv 1, iv 1, .unset] [] (fun t k => XS.istore X22.here hx rfl (hb hby at_196) rfl rfl k) ?_
                refine own_go T22 m 200 #[.val (.long x0), .second, iv x1, .val (.long x2), .second, .val (.long x3), .second, .val (.long x4), .second, iv x5, iv es1, iv es2, .val (.long v12), .second, iv v14, .val (.long v15), .second, iv kd, rv b4, rv b7, rv b7, iv 1, iv 1, .unset] [(.int kd)] (fun t k => XS.iload X22.here hx rfl (hb hby at_198) rfl k) ?_
                refine own_go T22 m 203 #[.val (.long x0), .second, iv x1, .val (.long x2), .second, .val (.long x3), .second, .val (.long x4), .second, iv x5, iv es1, iv es2, .val (.long v12), .second, iv v14, .val (.long v15), .second, iv kd, rv b4, rv b7, rv b7, iv 1, iv 1, .unset] [] (fun t k => XS.ifNo X22.here hx rfl (hb hby at_200) rfl ((if0 _ _).trans (teq hc96_18).2) k) ?_
                refine own_go T22 m 205 #[.val (.long x0), .second, iv x1, .val (.long x2), .second, .val (.long x3), .second, .val (.long x4), .second, iv x5, iv es1, iv es2, .val (.long v12), .second, iv v14, .val (.long v15), .second, iv kd, rv b4, rv b7, rv b7, iv 1, iv 1, .unset] [(.ref b7)] (fun t k => XS.aload X22.here hx rfl (hb hby at_203) rfl rfl k) ?_
                refine own_go T22 m 207 #[.val (.long x0), .second, iv x1, .val (.long x2), .second, .val (.long x3), .second, .val (.long x4), .second, iv x5, iv es1, iv es2, .val (.long v12), .second, iv v14, .val (.long v15), .second, iv kd, rv b4, rv b7, rv b7, iv 1, iv 1, .unset] [(.ref b4), (.ref b7)] (fun t k => XS.aload X22.here hx rfl (hb hby at_205) rfl rfl k) ?_
                obtain ⟨_, T23, L23, X23, ⟨rfl, e23, rfl⟩, st23⟩ := own_virtual X22 hx hZ (y := (⟨"com/example/semel/semel/log/OpenTransaction", "equals", "(Ljava/lang/Object;)Z"⟩ : MethodName)) (z := (⟨"com/example/semel/semel/log/OpenTransaction", "equals", "(Ljava/lang/Object;)Z"⟩ : MethodName)) hown (own_w hw 15 rfl) (own_w hw 16 rfl) (notFace_of_selects (args := #[]) (mvT hZ (own_w hw 18 rfl))) (own_w hw 18 rfl) (own_w hw 17 rfl) (own_w hw 2 rfl) (own_w hw 19 rfl) (by decide) (rmEb l Z a0 hw [] b7 b4 v12 v14 v15 x0 es1 x2 T12.heap Fq12_0 Fq12_1 Fq12_2 cf14 cf15 cf16 cf13) e22 Aq12 0 (argsL := [(.ref b4)]) (rest := []) (Ls := #[.val (.long x0), .second, iv x1, .val (.long x2), .second, .val (.long x3), .second, .val (.long x4), .second, iv x5, iv es1, iv es2, .val (.long v12), .second, iv v14, .val (.long v15), .second, iv kd, rv b4, rv b7, rv b7, iv 1, iv 1, .unset]) (by rw [hml]; rfl) (lenOf pd__Ljava_lang_Object__Z rfl) rfl rfl (Nat.le_of_eq rfl) (hb hby at_207) (by decide) (by decide) (by decide) (by decide)
                replace X23 := own_nil X23
                refine own_go T23 m 210 #[.val (.long x0), .second, iv x1, .val (.long x2), .second, .val (.long x3), .second, .val (.long x4), .second, iv x5, iv es1, iv es2, .val (.long v12), .second, iv v14, .val (.long v15), .second, iv kd, rv b4, rv b7, rv b7, iv 1, iv 1, .unset] [(.int (own_eq v12 v14 v15 x0 es1 x2))] (st23) ?_
                rw [show (own_eq v12 v14 v15 x0 es1 x2) = (1 : Int32) from by simp [own_eq, hc107_19, hc114_20, hc121_21]]
                refine own_go T23 m 212 #[.val (.long x0), .second, iv x1, .val (.long x2), .second, .val (.long x3), .second, .val (.long x4), .second, iv x5, iv es1, iv es2, .val (.long v12), .second, iv v14, .val (.long v15), .second, iv kd, rv b4, rv b7, rv b7, iv 1, iv 1, .unset] [(.int 1), (.int 1)] (fun t k => XS.iload X23.here hx rfl (hb hby at_210) rfl k) ?_
                refine own_go T23 m 215 #[.val (.long x0), .second, iv x1, .val (.long x2), .second, .val (.long x3), .second, .val (.long x4), .second, iv x5, iv es1, iv es2, .val (.long v12), .second, iv v14, .val (.long v15), .second, iv kd, rv b4, rv b7, rv b7, iv 1, iv 1, .unset] [] (fun t k => XS.icmpNo X23.here hx rfl (hb hby at_212) rfl (teq (by decide)).2 k) ?_
                refine own_go T23 m 216 #[.val (.long x0), .second, iv x1, .val (.long x2), .second, .val (.long x3), .second, .val (.long x4), .second, iv x5, iv es1, iv es2, .val (.long v12), .second, iv v14, .val (.long v15), .second, iv kd, rv b4, rv b7, rv b7, iv 1, iv 1, .unset] [(.int 1)] (fun t k => XS.iconst X23.here hx rfl (hb hby at_215) k) ?_
                refine own_go T23 m 224 #[.val (.long x0), .second, iv x1, .val (.long x2), .second, .val (.long x3), .second, .val (.long x4), .second, iv x5, iv es1, iv es2, .val (.long v12), .second, iv v14, .val (.long v15), .second, iv kd, rv b4, rv b7, rv b7, iv 1, iv 1, .unset] [(.int 1)] (fun t k => XS.goto X23.here hx rfl (pc0 := 216) (pc' := 224) rfl (hb hby at_216) (by decide) (by decide) k) ?_
                refine own_go T23 m 226 #[.val (.long x0), .second, iv x1, .val (.long x2), .second, .val (.long x3), .second, .val (.long x4), .second, iv x5, iv es1, iv es2, .val (.long v12), .second, iv v14, .val (.long v15), .second, iv kd, rv b4, rv b7, rv b7, iv 1, iv 1, iv 1] [] (fun t k => XS.istore X23.here hx rfl (hb hby at_224) rfl rfl k) ?_
                refine own_go T23 m 228 #[.val (.long x0), .second, iv x1, .val (.long x2), .second, .val (.long x3), .second, .val (.long x4), .second, iv x5, iv es1, iv es2, .val (.long v12), .second, iv v14, .val (.long v15), .second, iv kd, rv b4, rv b7, rv b7, iv 1, iv 1, iv 1] [(.int 1)] (fun t k => XS.iload X23.here hx rfl (hb hby at_226) rfl k) ?_
                refine own_go T23 m 230 #[.val (.long x0), .second, iv x1, .val (.long x2), .second, .val (.long x3), .second, .val (.long x4), .second, iv x5, iv es1, iv es2, .val (.long v12), .second, iv v14, .val (.long v15), .second, iv kd, rv b4, rv b7, rv b7, iv 1, iv 1, iv 1] [(.int 1), (.int 1)] (fun t k => XS.iload X23.here hx rfl (hb hby at_228) rfl k) ?_
                refine own_go T23 m 233 #[.val (.long x0), .second, iv x1, .val (.long x2), .second, .val (.long x3), .second, .val (.long x4), .second, iv x5, iv es1, iv es2, .val (.long v12), .second, iv v14, .val (.long v15), .second, iv kd, rv b4, rv b7, rv b7, iv 1, iv 1, iv 1] [] (fun t k => XS.icmpNo X23.here hx rfl (hb hby at_230) rfl (teq (by decide)).2 k) ?_
                refine own_go T23 m 235 #[.val (.long x0), .second, iv x1, .val (.long x2), .second, .val (.long x3), .second, .val (.long x4), .second, iv x5, iv es1, iv es2, .val (.long v12), .second, iv v14, .val (.long v15), .second, iv kd, rv b4, rv b7, rv b7, iv 1, iv 1, iv 1] [(.int 1)] (fun t k => XS.iload X23.here hx rfl (hb hby at_233) rfl k) ?_
                refine own_go T23 m 238 #[.val (.long x0), .second, iv x1, .val (.long x2), .second, .val (.long x3), .second, .val (.long x4), .second, iv x5, iv es1, iv es2, .val (.long v12), .second, iv v14, .val (.long v15), .second, iv kd, rv b4, rv b7, rv b7, iv 1, iv 1, iv 1] [] (fun t k => XS.ifNo X23.here hx rfl (hb hby at_235) rfl ((if0 _ _).trans (feq (by decide)).1) k) ?_
                refine own_go T23 m 240 #[.val (.long x0), .second, iv x1, .val (.long x2), .second, .val (.long x3), .second, .val (.long x4), .second, iv x5, iv es1, iv es2, .val (.long v12), .second, iv v14, .val (.long v15), .second, iv kd, rv b4, rv b7, rv b7, iv 1, iv 1, iv 1] [(.ref b4)] (fun t k => XS.aload X23.here hx rfl (hb hby at_238) rfl rfl k) ?_
                refine own_go T23 m 242 #[.val (.long x0), .second, iv x1, .val (.long x2), .second, .val (.long x3), .second, .val (.long x4), .second, iv x5, iv es1, iv es2, .val (.long v12), .second, iv v14, .val (.long v15), .second, iv kd, rv b4, rv b7, rv b7, iv 1, iv 1, iv 1] [(.ref b4), (.ref b4)] (fun t k => XS.aload X23.here hx rfl (hb hby at_240) rfl rfl k) ?_
                obtain ⟨_, T24, L24, X24, ⟨rfl, e24, rfl⟩, st24⟩ := own_virtual X23 hx hZ (y := (⟨"com/example/semel/semel/log/OpenTransaction", "equals", "(Ljava/lang/Object;)Z"⟩ : MethodName)) (z := (⟨"com/example/semel/semel/log/OpenTransaction", "equals", "(Ljava/lang/Object;)Z"⟩ : MethodName)) hown (own_w hw 15 rfl) (own_w hw 16 rfl) (notFace_of_selects (args := #[]) (mvT hZ (own_w hw 18 rfl))) (own_w hw 18 rfl) (own_w hw 17 rfl) (own_w hw 2 rfl) (own_w hw 19 rfl) (by decide) (rmEb l Z a0 hw [] b4 b4 x0 es1 x2 x0 es1 x2 T12.heap cf14 cf15 cf16 cf14 cf15 cf16 cf13) e23 cf13 0 (argsL := [(.ref b4)]) (rest := []) (Ls := #[.val (.long x0), .second, iv x1, .val (.long x2), .second, .val (.long x3), .second, .val (.long x4), .second, iv x5, iv es1, iv es2, .val (.long v12), .second, iv v14, .val (.long v15), .second, iv kd, rv b4, rv b7, rv b7, iv 1, iv 1, iv 1]) (by rw [hml]; rfl) (lenOf pd__Ljava_lang_Object__Z rfl) rfl rfl (Nat.le_of_eq rfl) (hb hby at_242) (by decide) (by decide) (by decide) (by decide)
                replace X24 := own_nil X24
                refine own_go T24 m 245 #[.val (.long x0), .second, iv x1, .val (.long x2), .second, .val (.long x3), .second, .val (.long x4), .second, iv x5, iv es1, iv es2, .val (.long v12), .second, iv v14, .val (.long v15), .second, iv kd, rv b4, rv b7, rv b7, iv 1, iv 1, iv 1] [(.int (own_eq x0 es1 x2 x0 es1 x2))] (st24) ?_
                rw [show (own_eq x0 es1 x2 x0 es1 x2) = (1 : Int32) from by simp [own_eq]]
                refine own_go T24 m 248 #[.val (.long x0), .second, iv x1, .val (.long x2), .second, .val (.long x3), .second, .val (.long x4), .second, iv x5, iv es1, iv es2, .val (.long v12), .second, iv v14, .val (.long v15), .second, iv kd, rv b4, rv b7, rv b7, iv 1, iv 1, iv 1] [] (fun t k => XS.ifNo X24.here hx rfl (hb hby at_245) rfl ((if0 _ _).trans (feq (by decide)).1) k) ?_
                refine own_go T24 m 249 #[.val (.long x0), .second, iv x1, .val (.long x2), .second, .val (.long x3), .second, .val (.long x4), .second, iv x5, iv es1, iv es2, .val (.long v12), .second, iv v14, .val (.long v15), .second, iv kd, rv b4, rv b7, rv b7, iv 1, iv 1, iv 1] [(.int 1)] (fun t k => XS.iconst X24.here hx rfl (hb hby at_248) k) ?_
                refine own_go T24 m 253 #[.val (.long x0), .second, iv x1, .val (.long x2), .second, .val (.long x3), .second, .val (.long x4), .second, iv x5, iv es1, iv es2, .val (.long v12), .second, iv v14, .val (.long v15), .second, iv kd, rv b4, rv b7, rv b7, iv 1, iv 1, iv 1] [(.int 1)] (fun t k => XS.goto X24.here hx rfl (pc0 := 249) (pc' := 253) rfl (hb hby at_249) (by decide) (by decide) k) ?_
                refine own_retZ X24 hx hlk hret (by decide) (hb hby at_253) (by decide) (by decide) ?_
                exact ⟨rfl, N12⟩
              · refine own_go T12 m 128 #[.val (.long x0), .second, iv x1, .val (.long x2), .second, .val (.long x3), .second, .val (.long x4), .second, iv x5, iv es1, iv es2, .val (.long v12), .second, iv v14, .val (.long v15), .second, iv kd, rv b4, rv b7, rv b7, .unset, .unset, .unset] [] (fun t k => XS.ifYes X12.here hx rfl (pc0 := 121) (pc' := 128) rfl (hb hby at_121) rfl ((if0 _ _).trans (feq (mt (lw_eq x2 v15).mp hc121_21)).2) (by decide) (by decide) k) ?_
                refine own_go T12 m 129 #[.val (.long x0), .second, iv x1, .val (.long x2), .second, .val (.long x3), .second, .val (.long x4), .second, iv x5, iv es1, iv es2, .val (.long v12), .second, iv v14, .val (.long v15), .second, iv kd, rv b4, rv b7, rv b7, .unset, .unset, .unset] [(.int 0)] (fun t k => XS.iconst X12.here hx rfl (hb hby at_128) k) ?_
                refine own_go T12 m 131 #[.val (.long x0), .second, iv x1, .val (.long x2), .second, .val (.long x3), .second, .val (.long x4), .second, iv x5, iv es1, iv es2, .val (.long v12), .second, iv v14, .val (.long v15), .second, iv kd, rv b4, rv b7, rv b7, iv 0, .unset, .unset] [] (fun t k => XS.istore X12.here hx rfl (hb hby at_129) rfl rfl k) ?_
                refine own_go T12 m 189 #[.val (.long x0), .second, iv x1, .val (.long x2), .second, .val (.long x3), .second, .val (.long x4), .second, iv x5, iv es1, iv es2, .val (.long v12), .second, iv v14, .val (.long v15), .second, iv kd, rv b4, rv b7, rv b7, iv 0, .unset, .unset] [] (fun t k => XS.goto X12.here hx rfl (pc0 := 131) (pc' := 189) rfl (hb hby at_131) (by decide) (by decide) k) ?_
                refine own_go T12 m 191 #[.val (.long x0), .second, iv x1, .val (.long x2), .second, .val (.long x3), .second, .val (.long x4), .second, iv x5, iv es1, iv es2, .val (.long v12), .second, iv v14, .val (.long v15), .second, iv kd, rv b4, rv b7, rv b7, iv 0, .unset, .unset] [(.ref b4)] (fun t k => XS.aload X12.here hx rfl (hb hby at_189) rfl rfl k) ?_
                refine own_go T12 m 193 #[.val (.long x0), .second, iv x1, .val (.long x2), .second, .val (.long x3), .second, .val (.long x4), .second, iv x5, iv es1, iv es2, .val (.long v12), .second, iv v14, .val (.long v15), .second, iv kd, rv b4, rv b7, rv b7, iv 0, .unset, .unset] [(.ref b7), (.ref b4)] (fun t k => XS.aload X12.here hx rfl (hb hby at_191) rfl rfl k) ?_
                obtain ⟨_, T25, L25, X25, ⟨rfl, e25, rfl⟩, st25⟩ := own_virtual X12 hx hZ (y := (⟨"com/example/semel/semel/log/OpenTransaction", "equals", "(Ljava/lang/Object;)Z"⟩ : MethodName)) (z := (⟨"com/example/semel/semel/log/OpenTransaction", "equals", "(Ljava/lang/Object;)Z"⟩ : MethodName)) hown (own_w hw 15 rfl) (own_w hw 16 rfl) (notFace_of_selects (args := #[]) (mvT hZ (own_w hw 18 rfl))) (own_w hw 18 rfl) (own_w hw 17 rfl) (own_w hw 2 rfl) (own_w hw 19 rfl) (by decide) (rmEb l Z a0 hw [] b4 b7 x0 es1 x2 v12 v14 v15 T12.heap cf14 cf15 cf16 Fq12_0 Fq12_1 Fq12_2 Aq12) rfl cf13 0 (argsL := [(.ref b7)]) (rest := []) (Ls := #[.val (.long x0), .second, iv x1, .val (.long x2), .second, .val (.long x3), .second, .val (.long x4), .second, iv x5, iv es1, iv es2, .val (.long v12), .second, iv v14, .val (.long v15), .second, iv kd, rv b4, rv b7, rv b7, iv 0, .unset, .unset]) (by rw [hml]; rfl) (lenOf pd__Ljava_lang_Object__Z rfl) rfl rfl (Nat.le_of_eq rfl) (hb hby at_193) (by decide) (by decide) (by decide) (by decide)
                replace X25 := own_nil X25
                refine own_go T25 m 196 #[.val (.long x0), .second, iv x1, .val (.long x2), .second, .val (.long x3), .second, .val (.long x4), .second, iv x5, iv es1, iv es2, .val (.long v12), .second, iv v14, .val (.long v15), .second, iv kd, rv b4, rv b7, rv b7, iv 0, .unset, .unset] [(.int (own_eq x0 es1 x2 v12 v14 v15))] (st25) ?_
                rw [show (own_eq x0 es1 x2 v12 v14 v15) = (0 : Int32) from by simp [own_eq, hc107_19, hc114_20, hc121_21, Ne.symm hc121_21]]
                refine own_go T25 m 198 #[.val (.long x0), .second, iv x1, .val (.long x2), .second, .val (.long x3), .second, .val (.long x4), .second, iv x5, iv es1, iv es2, .val (.long v12), .second, iv v14, .val (.long v15), .second, iv kd, rv b4, rv b7, rv b7, iv 0, iv 0, .unset] [] (fun t k => XS.istore X25.here hx rfl (hb hby at_196) rfl rfl k) ?_
                refine own_go T25 m 200 #[.val (.long x0), .second, iv x1, .val (.long x2), .second, .val (.long x3), .second, .val (.long x4), .second, iv x5, iv es1, iv es2, .val (.long v12), .second, iv v14, .val (.long v15), .second, iv kd, rv b4, rv b7, rv b7, iv 0, iv 0, .unset] [(.int kd)] (fun t k => XS.iload X25.here hx rfl (hb hby at_198) rfl k) ?_
                refine own_go T25 m 203 #[.val (.long x0), .second, iv x1, .val (.long x2), .second, .val (.long x3), .second, .val (.long x4), .second, iv x5, iv es1, iv es2, .val (.long v12), .second, iv v14, .val (.long v15), .second, iv kd, rv b4, rv b7, rv b7, iv 0, iv 0, .unset] [] (fun t k => XS.ifNo X25.here hx rfl (hb hby at_200) rfl ((if0 _ _).trans (teq hc96_18).2) k) ?_
                refine own_go T25 m 205 #[.val (.long x0), .second, iv x1, .val (.long x2), .second, .val (.long x3), .second, .val (.long x4), .second, iv x5, iv es1, iv es2, .val (.long v12), .second, iv v14, .val (.long v15), .second, iv kd, rv b4, rv b7, rv b7, iv 0, iv 0, .unset] [(.ref b7)] (fun t k => XS.aload X25.here hx rfl (hb hby at_203) rfl rfl k) ?_
                refine own_go T25 m 207 #[.val (.long x0), .second, iv x1, .val (.long x2), .second, .val (.long x3), .second, .val (.long x4), .second, iv x5, iv es1, iv es2, .val (.long v12), .second, iv v14, .val (.long v15), .second, iv kd, rv b4, rv b7, rv b7, iv 0, iv 0, .unset] [(.ref b4), (.ref b7)] (fun t k => XS.aload X25.here hx rfl (hb hby at_205) rfl rfl k) ?_
                obtain ⟨_, T26, L26, X26, ⟨rfl, e26, rfl⟩, st26⟩ := own_virtual X25 hx hZ (y := (⟨"com/example/semel/semel/log/OpenTransaction", "equals", "(Ljava/lang/Object;)Z"⟩ : MethodName)) (z := (⟨"com/example/semel/semel/log/OpenTransaction", "equals", "(Ljava/lang/Object;)Z"⟩ : MethodName)) hown (own_w hw 15 rfl) (own_w hw 16 rfl) (notFace_of_selects (args := #[]) (mvT hZ (own_w hw 18 rfl))) (own_w hw 18 rfl) (own_w hw 17 rfl) (own_w hw 2 rfl) (own_w hw 19 rfl) (by decide) (rmEb l Z a0 hw [] b7 b4 v12 v14 v15 x0 es1 x2 T12.heap Fq12_0 Fq12_1 Fq12_2 cf14 cf15 cf16 cf13) e25 Aq12 0 (argsL := [(.ref b4)]) (rest := []) (Ls := #[.val (.long x0), .second, iv x1, .val (.long x2), .second, .val (.long x3), .second, .val (.long x4), .second, iv x5, iv es1, iv es2, .val (.long v12), .second, iv v14, .val (.long v15), .second, iv kd, rv b4, rv b7, rv b7, iv 0, iv 0, .unset]) (by rw [hml]; rfl) (lenOf pd__Ljava_lang_Object__Z rfl) rfl rfl (Nat.le_of_eq rfl) (hb hby at_207) (by decide) (by decide) (by decide) (by decide)
                replace X26 := own_nil X26
                refine own_go T26 m 210 #[.val (.long x0), .second, iv x1, .val (.long x2), .second, .val (.long x3), .second, .val (.long x4), .second, iv x5, iv es1, iv es2, .val (.long v12), .second, iv v14, .val (.long v15), .second, iv kd, rv b4, rv b7, rv b7, iv 0, iv 0, .unset] [(.int (own_eq v12 v14 v15 x0 es1 x2))] (st26) ?_
                rw [show (own_eq v12 v14 v15 x0 es1 x2) = (0 : Int32) from by simp [own_eq, hc107_19, hc114_20, hc121_21, Ne.symm hc121_21]]
                refine own_go T26 m 212 #[.val (.long x0), .second, iv x1, .val (.long x2), .second, .val (.long x3), .second, .val (.long x4), .second, iv x5, iv es1, iv es2, .val (.long v12), .second, iv v14, .val (.long v15), .second, iv kd, rv b4, rv b7, rv b7, iv 0, iv 0, .unset] [(.int 0), (.int 0)] (fun t k => XS.iload X26.here hx rfl (hb hby at_210) rfl k) ?_
                refine own_go T26 m 215 #[.val (.long x0), .second, iv x1, .val (.long x2), .second, .val (.long x3), .second, .val (.long x4), .second, iv x5, iv es1, iv es2, .val (.long v12), .second, iv v14, .val (.long v15), .second, iv kd, rv b4, rv b7, rv b7, iv 0, iv 0, .unset] [] (fun t k => XS.icmpNo X26.here hx rfl (hb hby at_212) rfl (teq (by decide)).2 k) ?_
                refine own_go T26 m 216 #[.val (.long x0), .second, iv x1, .val (.long x2), .second, .val (.long x3), .second, .val (.long x4), .second, iv x5, iv es1, iv es2, .val (.long v12), .second, iv v14, .val (.long v15), .second, iv kd, rv b4, rv b7, rv b7, iv 0, iv 0, .unset] [(.int 1)] (fun t k => XS.iconst X26.here hx rfl (hb hby at_215) k) ?_
                refine own_go T26 m 224 #[.val (.long x0), .second, iv x1, .val (.long x2), .second, .val (.long x3), .second, .val (.long x4), .second, iv x5, iv es1, iv es2, .val (.long v12), .second, iv v14, .val (.long v15), .second, iv kd, rv b4, rv b7, rv b7, iv 0, iv 0, .unset] [(.int 1)] (fun t k => XS.goto X26.here hx rfl (pc0 := 216) (pc' := 224) rfl (hb hby at_216) (by decide) (by decide) k) ?_
                refine own_go T26 m 226 #[.val (.long x0), .second, iv x1, .val (.long x2), .second, .val (.long x3), .second, .val (.long x4), .second, iv x5, iv es1, iv es2, .val (.long v12), .second, iv v14, .val (.long v15), .second, iv kd, rv b4, rv b7, rv b7, iv 0, iv 0, iv 1] [] (fun t k => XS.istore X26.here hx rfl (hb hby at_224) rfl rfl k) ?_
                refine own_go T26 m 228 #[.val (.long x0), .second, iv x1, .val (.long x2), .second, .val (.long x3), .second, .val (.long x4), .second, iv x5, iv es1, iv es2, .val (.long v12), .second, iv v14, .val (.long v15), .second, iv kd, rv b4, rv b7, rv b7, iv 0, iv 0, iv 1] [(.int 0)] (fun t k => XS.iload X26.here hx rfl (hb hby at_226) rfl k) ?_
                refine own_go T26 m 230 #[.val (.long x0), .second, iv x1, .val (.long x2), .second, .val (.long x3), .second, .val (.long x4), .second, iv x5, iv es1, iv es2, .val (.long v12), .second, iv v14, .val (.long v15), .second, iv kd, rv b4, rv b7, rv b7, iv 0, iv 0, iv 1] [(.int 0), (.int 0)] (fun t k => XS.iload X26.here hx rfl (hb hby at_228) rfl k) ?_
                refine own_go T26 m 233 #[.val (.long x0), .second, iv x1, .val (.long x2), .second, .val (.long x3), .second, .val (.long x4), .second, iv x5, iv es1, iv es2, .val (.long v12), .second, iv v14, .val (.long v15), .second, iv kd, rv b4, rv b7, rv b7, iv 0, iv 0, iv 1] [] (fun t k => XS.icmpNo X26.here hx rfl (hb hby at_230) rfl (teq (by decide)).2 k) ?_
                refine own_go T26 m 235 #[.val (.long x0), .second, iv x1, .val (.long x2), .second, .val (.long x3), .second, .val (.long x4), .second, iv x5, iv es1, iv es2, .val (.long v12), .second, iv v14, .val (.long v15), .second, iv kd, rv b4, rv b7, rv b7, iv 0, iv 0, iv 1] [(.int 1)] (fun t k => XS.iload X26.here hx rfl (hb hby at_233) rfl k) ?_
                refine own_go T26 m 238 #[.val (.long x0), .second, iv x1, .val (.long x2), .second, .val (.long x3), .second, .val (.long x4), .second, iv x5, iv es1, iv es2, .val (.long v12), .second, iv v14, .val (.long v15), .second, iv kd, rv b4, rv b7, rv b7, iv 0, iv 0, iv 1] [] (fun t k => XS.ifNo X26.here hx rfl (hb hby at_235) rfl ((if0 _ _).trans (feq (by decide)).1) k) ?_
                refine own_go T26 m 240 #[.val (.long x0), .second, iv x1, .val (.long x2), .second, .val (.long x3), .second, .val (.long x4), .second, iv x5, iv es1, iv es2, .val (.long v12), .second, iv v14, .val (.long v15), .second, iv kd, rv b4, rv b7, rv b7, iv 0, iv 0, iv 1] [(.ref b4)] (fun t k => XS.aload X26.here hx rfl (hb hby at_238) rfl rfl k) ?_
                refine own_go T26 m 242 #[.val (.long x0), .second, iv x1, .val (.long x2), .second, .val (.long x3), .second, .val (.long x4), .second, iv x5, iv es1, iv es2, .val (.long v12), .second, iv v14, .val (.long v15), .second, iv kd, rv b4, rv b7, rv b7, iv 0, iv 0, iv 1] [(.ref b4), (.ref b4)] (fun t k => XS.aload X26.here hx rfl (hb hby at_240) rfl rfl k) ?_
                obtain ⟨_, T27, L27, X27, ⟨rfl, e27, rfl⟩, st27⟩ := own_virtual X26 hx hZ (y := (⟨"com/example/semel/semel/log/OpenTransaction", "equals", "(Ljava/lang/Object;)Z"⟩ : MethodName)) (z := (⟨"com/example/semel/semel/log/OpenTransaction", "equals", "(Ljava/lang/Object;)Z"⟩ : MethodName)) hown (own_w hw 15 rfl) (own_w hw 16 rfl) (notFace_of_selects (args := #[]) (mvT hZ (own_w hw 18 rfl))) (own_w hw 18 rfl) (own_w hw 17 rfl) (own_w hw 2 rfl) (own_w hw 19 rfl) (by decide) (rmEb l Z a0 hw [] b4 b4 x0 es1 x2 x0 es1 x2 T12.heap cf14 cf15 cf16 cf14 cf15 cf16 cf13) e26 cf13 0 (argsL := [(.ref b4)]) (rest := []) (Ls := #[.val (.long x0), .second, iv x1, .val (.long x2), .second, .val (.long x3), .second, .val (.long x4), .second, iv x5, iv es1, iv es2, .val (.long v12), .second, iv v14, .val (.long v15), .second, iv kd, rv b4, rv b7, rv b7, iv 0, iv 0, iv 1]) (by rw [hml]; rfl) (lenOf pd__Ljava_lang_Object__Z rfl) rfl rfl (Nat.le_of_eq rfl) (hb hby at_242) (by decide) (by decide) (by decide) (by decide)
                replace X27 := own_nil X27
                refine own_go T27 m 245 #[.val (.long x0), .second, iv x1, .val (.long x2), .second, .val (.long x3), .second, .val (.long x4), .second, iv x5, iv es1, iv es2, .val (.long v12), .second, iv v14, .val (.long v15), .second, iv kd, rv b4, rv b7, rv b7, iv 0, iv 0, iv 1] [(.int (own_eq x0 es1 x2 x0 es1 x2))] (st27) ?_
                rw [show (own_eq x0 es1 x2 x0 es1 x2) = (1 : Int32) from by simp [own_eq]]
                refine own_go T27 m 248 #[.val (.long x0), .second, iv x1, .val (.long x2), .second, .val (.long x3), .second, .val (.long x4), .second, iv x5, iv es1, iv es2, .val (.long v12), .second, iv v14, .val (.long v15), .second, iv kd, rv b4, rv b7, rv b7, iv 0, iv 0, iv 1] [] (fun t k => XS.ifNo X27.here hx rfl (hb hby at_245) rfl ((if0 _ _).trans (feq (by decide)).1) k) ?_
                refine own_go T27 m 249 #[.val (.long x0), .second, iv x1, .val (.long x2), .second, .val (.long x3), .second, .val (.long x4), .second, iv x5, iv es1, iv es2, .val (.long v12), .second, iv v14, .val (.long v15), .second, iv kd, rv b4, rv b7, rv b7, iv 0, iv 0, iv 1] [(.int 1)] (fun t k => XS.iconst X27.here hx rfl (hb hby at_248) k) ?_
                refine own_go T27 m 253 #[.val (.long x0), .second, iv x1, .val (.long x2), .second, .val (.long x3), .second, .val (.long x4), .second, iv x5, iv es1, iv es2, .val (.long v12), .second, iv v14, .val (.long v15), .second, iv kd, rv b4, rv b7, rv b7, iv 0, iv 0, iv 1] [(.int 1)] (fun t k => XS.goto X27.here hx rfl (pc0 := 249) (pc' := 253) rfl (hb hby at_249) (by decide) (by decide) k) ?_
                refine own_retZ X27 hx hlk hret (by decide) (hb hby at_253) (by decide) (by decide) ?_
                exact ⟨rfl, N12⟩
            · refine own_go T12 m 128 #[.val (.long x0), .second, iv x1, .val (.long x2), .second, .val (.long x3), .second, .val (.long x4), .second, iv x5, iv es1, iv es2, .val (.long v12), .second, iv v14, .val (.long v15), .second, iv kd, rv b4, rv b7, rv b7, .unset, .unset, .unset] [] (fun t k => XS.icmpYes X12.here hx rfl (pc0 := 114) (pc' := 128) rfl (hb hby at_114) rfl (feq hc114_20).2 (by decide) (by decide) k) ?_
              refine own_go T12 m 129 #[.val (.long x0), .second, iv x1, .val (.long x2), .second, .val (.long x3), .second, .val (.long x4), .second, iv x5, iv es1, iv es2, .val (.long v12), .second, iv v14, .val (.long v15), .second, iv kd, rv b4, rv b7, rv b7, .unset, .unset, .unset] [(.int 0)] (fun t k => XS.iconst X12.here hx rfl (hb hby at_128) k) ?_
              refine own_go T12 m 131 #[.val (.long x0), .second, iv x1, .val (.long x2), .second, .val (.long x3), .second, .val (.long x4), .second, iv x5, iv es1, iv es2, .val (.long v12), .second, iv v14, .val (.long v15), .second, iv kd, rv b4, rv b7, rv b7, iv 0, .unset, .unset] [] (fun t k => XS.istore X12.here hx rfl (hb hby at_129) rfl rfl k) ?_
              refine own_go T12 m 189 #[.val (.long x0), .second, iv x1, .val (.long x2), .second, .val (.long x3), .second, .val (.long x4), .second, iv x5, iv es1, iv es2, .val (.long v12), .second, iv v14, .val (.long v15), .second, iv kd, rv b4, rv b7, rv b7, iv 0, .unset, .unset] [] (fun t k => XS.goto X12.here hx rfl (pc0 := 131) (pc' := 189) rfl (hb hby at_131) (by decide) (by decide) k) ?_
              refine own_go T12 m 191 #[.val (.long x0), .second, iv x1, .val (.long x2), .second, .val (.long x3), .second, .val (.long x4), .second, iv x5, iv es1, iv es2, .val (.long v12), .second, iv v14, .val (.long v15), .second, iv kd, rv b4, rv b7, rv b7, iv 0, .unset, .unset] [(.ref b4)] (fun t k => XS.aload X12.here hx rfl (hb hby at_189) rfl rfl k) ?_
              refine own_go T12 m 193 #[.val (.long x0), .second, iv x1, .val (.long x2), .second, .val (.long x3), .second, .val (.long x4), .second, iv x5, iv es1, iv es2, .val (.long v12), .second, iv v14, .val (.long v15), .second, iv kd, rv b4, rv b7, rv b7, iv 0, .unset, .unset] [(.ref b7), (.ref b4)] (fun t k => XS.aload X12.here hx rfl (hb hby at_191) rfl rfl k) ?_
              obtain ⟨_, T28, L28, X28, ⟨rfl, e28, rfl⟩, st28⟩ := own_virtual X12 hx hZ (y := (⟨"com/example/semel/semel/log/OpenTransaction", "equals", "(Ljava/lang/Object;)Z"⟩ : MethodName)) (z := (⟨"com/example/semel/semel/log/OpenTransaction", "equals", "(Ljava/lang/Object;)Z"⟩ : MethodName)) hown (own_w hw 15 rfl) (own_w hw 16 rfl) (notFace_of_selects (args := #[]) (mvT hZ (own_w hw 18 rfl))) (own_w hw 18 rfl) (own_w hw 17 rfl) (own_w hw 2 rfl) (own_w hw 19 rfl) (by decide) (rmEb l Z a0 hw [] b4 b7 x0 es1 x2 v12 v14 v15 T12.heap cf14 cf15 cf16 Fq12_0 Fq12_1 Fq12_2 Aq12) rfl cf13 0 (argsL := [(.ref b7)]) (rest := []) (Ls := #[.val (.long x0), .second, iv x1, .val (.long x2), .second, .val (.long x3), .second, .val (.long x4), .second, iv x5, iv es1, iv es2, .val (.long v12), .second, iv v14, .val (.long v15), .second, iv kd, rv b4, rv b7, rv b7, iv 0, .unset, .unset]) (by rw [hml]; rfl) (lenOf pd__Ljava_lang_Object__Z rfl) rfl rfl (Nat.le_of_eq rfl) (hb hby at_193) (by decide) (by decide) (by decide) (by decide)
              replace X28 := own_nil X28
              refine own_go T28 m 196 #[.val (.long x0), .second, iv x1, .val (.long x2), .second, .val (.long x3), .second, .val (.long x4), .second, iv x5, iv es1, iv es2, .val (.long v12), .second, iv v14, .val (.long v15), .second, iv kd, rv b4, rv b7, rv b7, iv 0, .unset, .unset] [(.int (own_eq x0 es1 x2 v12 v14 v15))] (st28) ?_
              rw [show (own_eq x0 es1 x2 v12 v14 v15) = (0 : Int32) from by simp [own_eq, hc107_19, hc114_20, Ne.symm hc114_20]]
              refine own_go T28 m 198 #[.val (.long x0), .second, iv x1, .val (.long x2), .second, .val (.long x3), .second, .val (.long x4), .second, iv x5, iv es1, iv es2, .val (.long v12), .second, iv v14, .val (.long v15), .second, iv kd, rv b4, rv b7, rv b7, iv 0, iv 0, .unset] [] (fun t k => XS.istore X28.here hx rfl (hb hby at_196) rfl rfl k) ?_
              refine own_go T28 m 200 #[.val (.long x0), .second, iv x1, .val (.long x2), .second, .val (.long x3), .second, .val (.long x4), .second, iv x5, iv es1, iv es2, .val (.long v12), .second, iv v14, .val (.long v15), .second, iv kd, rv b4, rv b7, rv b7, iv 0, iv 0, .unset] [(.int kd)] (fun t k => XS.iload X28.here hx rfl (hb hby at_198) rfl k) ?_
              refine own_go T28 m 203 #[.val (.long x0), .second, iv x1, .val (.long x2), .second, .val (.long x3), .second, .val (.long x4), .second, iv x5, iv es1, iv es2, .val (.long v12), .second, iv v14, .val (.long v15), .second, iv kd, rv b4, rv b7, rv b7, iv 0, iv 0, .unset] [] (fun t k => XS.ifNo X28.here hx rfl (hb hby at_200) rfl ((if0 _ _).trans (teq hc96_18).2) k) ?_
              refine own_go T28 m 205 #[.val (.long x0), .second, iv x1, .val (.long x2), .second, .val (.long x3), .second, .val (.long x4), .second, iv x5, iv es1, iv es2, .val (.long v12), .second, iv v14, .val (.long v15), .second, iv kd, rv b4, rv b7, rv b7, iv 0, iv 0, .unset] [(.ref b7)] (fun t k => XS.aload X28.here hx rfl (hb hby at_203) rfl rfl k) ?_
              refine own_go T28 m 207 #[.val (.long x0), .second, iv x1, .val (.long x2), .second, .val (.long x3), .second, .val (.long x4), .second, iv x5, iv es1, iv es2, .val (.long v12), .second, iv v14, .val (.long v15), .second, iv kd, rv b4, rv b7, rv b7, iv 0, iv 0, .unset] [(.ref b4), (.ref b7)] (fun t k => XS.aload X28.here hx rfl (hb hby at_205) rfl rfl k) ?_
              obtain ⟨_, T29, L29, X29, ⟨rfl, e29, rfl⟩, st29⟩ := own_virtual X28 hx hZ (y := (⟨"com/example/semel/semel/log/OpenTransaction", "equals", "(Ljava/lang/Object;)Z"⟩ : MethodName)) (z := (⟨"com/example/semel/semel/log/OpenTransaction", "equals", "(Ljava/lang/Object;)Z"⟩ : MethodName)) hown (own_w hw 15 rfl) (own_w hw 16 rfl) (notFace_of_selects (args := #[]) (mvT hZ (own_w hw 18 rfl))) (own_w hw 18 rfl) (own_w hw 17 rfl) (own_w hw 2 rfl) (own_w hw 19 rfl) (by decide) (rmEb l Z a0 hw [] b7 b4 v12 v14 v15 x0 es1 x2 T12.heap Fq12_0 Fq12_1 Fq12_2 cf14 cf15 cf16 cf13) e28 Aq12 0 (argsL := [(.ref b4)]) (rest := []) (Ls := #[.val (.long x0), .second, iv x1, .val (.long x2), .second, .val (.long x3), .second, .val (.long x4), .second, iv x5, iv es1, iv es2, .val (.long v12), .second, iv v14, .val (.long v15), .second, iv kd, rv b4, rv b7, rv b7, iv 0, iv 0, .unset]) (by rw [hml]; rfl) (lenOf pd__Ljava_lang_Object__Z rfl) rfl rfl (Nat.le_of_eq rfl) (hb hby at_207) (by decide) (by decide) (by decide) (by decide)
              replace X29 := own_nil X29
              refine own_go T29 m 210 #[.val (.long x0), .second, iv x1, .val (.long x2), .second, .val (.long x3), .second, .val (.long x4), .second, iv x5, iv es1, iv es2, .val (.long v12), .second, iv v14, .val (.long v15), .second, iv kd, rv b4, rv b7, rv b7, iv 0, iv 0, .unset] [(.int (own_eq v12 v14 v15 x0 es1 x2))] (st29) ?_
              rw [show (own_eq v12 v14 v15 x0 es1 x2) = (0 : Int32) from by simp [own_eq, hc107_19, hc114_20, Ne.symm hc114_20]]
              refine own_go T29 m 212 #[.val (.long x0), .second, iv x1, .val (.long x2), .second, .val (.long x3), .second, .val (.long x4), .second, iv x5, iv es1, iv es2, .val (.long v12), .second, iv v14, .val (.long v15), .second, iv kd, rv b4, rv b7, rv b7, iv 0, iv 0, .unset] [(.int 0), (.int 0)] (fun t k => XS.iload X29.here hx rfl (hb hby at_210) rfl k) ?_
              refine own_go T29 m 215 #[.val (.long x0), .second, iv x1, .val (.long x2), .second, .val (.long x3), .second, .val (.long x4), .second, iv x5, iv es1, iv es2, .val (.long v12), .second, iv v14, .val (.long v15), .second, iv kd, rv b4, rv b7, rv b7, iv 0, iv 0, .unset] [] (fun t k => XS.icmpNo X29.here hx rfl (hb hby at_212) rfl (teq (by decide)).2 k) ?_
              refine own_go T29 m 216 #[.val (.long x0), .second, iv x1, .val (.long x2), .second, .val (.long x3), .second, .val (.long x4), .second, iv x5, iv es1, iv es2, .val (.long v12), .second, iv v14, .val (.long v15), .second, iv kd, rv b4, rv b7, rv b7, iv 0, iv 0, .unset] [(.int 1)] (fun t k => XS.iconst X29.here hx rfl (hb hby at_215) k) ?_
              refine own_go T29 m 224 #[.val (.long x0), .second, iv x1, .val (.long x2), .second, .val (.long x3), .second, .val (.long x4), .second, iv x5, iv es1, iv es2, .val (.long v12), .second, iv v14, .val (.long v15), .second, iv kd, rv b4, rv b7, rv b7, iv 0, iv 0, .unset] [(.int 1)] (fun t k => XS.goto X29.here hx rfl (pc0 := 216) (pc' := 224) rfl (hb hby at_216) (by decide) (by decide) k) ?_
              refine own_go T29 m 226 #[.val (.long x0), .second, iv x1, .val (.long x2), .second, .val (.long x3), .second, .val (.long x4), .second, iv x5, iv es1, iv es2, .val (.long v12), .second, iv v14, .val (.long v15), .second, iv kd, rv b4, rv b7, rv b7, iv 0, iv 0, iv 1] [] (fun t k => XS.istore X29.here hx rfl (hb hby at_224) rfl rfl k) ?_
              refine own_go T29 m 228 #[.val (.long x0), .second, iv x1, .val (.long x2), .second, .val (.long x3), .second, .val (.long x4), .second, iv x5, iv es1, iv es2, .val (.long v12), .second, iv v14, .val (.long v15), .second, iv kd, rv b4, rv b7, rv b7, iv 0, iv 0, iv 1] [(.int 0)] (fun t k => XS.iload X29.here hx rfl (hb hby at_226) rfl k) ?_
              refine own_go T29 m 230 #[.val (.long x0), .second, iv x1, .val (.long x2), .second, .val (.long x3), .second, .val (.long x4), .second, iv x5, iv es1, iv es2, .val (.long v12), .second, iv v14, .val (.long v15), .second, iv kd, rv b4, rv b7, rv b7, iv 0, iv 0, iv 1] [(.int 0), (.int 0)] (fun t k => XS.iload X29.here hx rfl (hb hby at_228) rfl k) ?_
              refine own_go T29 m 233 #[.val (.long x0), .second, iv x1, .val (.long x2), .second, .val (.long x3), .second, .val (.long x4), .second, iv x5, iv es1, iv es2, .val (.long v12), .second, iv v14, .val (.long v15), .second, iv kd, rv b4, rv b7, rv b7, iv 0, iv 0, iv 1] [] (fun t k => XS.icmpNo X29.here hx rfl (hb hby at_230) rfl (teq (by decide)).2 k) ?_
              refine own_go T29 m 235 #[.val (.long x0), .second, iv x1, .val (.long x2), .second, .val (.long x3), .second, .val (.long x4), .second, iv x5, iv es1, iv es2, .val (.long v12), .second, iv v14, .val (.long v15), .second, iv kd, rv b4, rv b7, rv b7, iv 0, iv 0, iv 1] [(.int 1)] (fun t k => XS.iload X29.here hx rfl (hb hby at_233) rfl k) ?_
              refine own_go T29 m 238 #[.val (.long x0), .second, iv x1, .val (.long x2), .second, .val (.long x3), .second, .val (.long x4), .second, iv x5, iv es1, iv es2, .val (.long v12), .second, iv v14, .val (.long v15), .second, iv kd, rv b4, rv b7, rv b7, iv 0, iv 0, iv 1] [] (fun t k => XS.ifNo X29.here hx rfl (hb hby at_235) rfl ((if0 _ _).trans (feq (by decide)).1) k) ?_
              refine own_go T29 m 240 #[.val (.long x0), .second, iv x1, .val (.long x2), .second, .val (.long x3), .second, .val (.long x4), .second, iv x5, iv es1, iv es2, .val (.long v12), .second, iv v14, .val (.long v15), .second, iv kd, rv b4, rv b7, rv b7, iv 0, iv 0, iv 1] [(.ref b4)] (fun t k => XS.aload X29.here hx rfl (hb hby at_238) rfl rfl k) ?_
              refine own_go T29 m 242 #[.val (.long x0), .second, iv x1, .val (.long x2), .second, .val (.long x3), .second, .val (.long x4), .second, iv x5, iv es1, iv es2, .val (.long v12), .second, iv v14, .val (.long v15), .second, iv kd, rv b4, rv b7, rv b7, iv 0, iv 0, iv 1] [(.ref b4), (.ref b4)] (fun t k => XS.aload X29.here hx rfl (hb hby at_240) rfl rfl k) ?_
              obtain ⟨_, T30, L30, X30, ⟨rfl, e30, rfl⟩, st30⟩ := own_virtual X29 hx hZ (y := (⟨"com/example/semel/semel/log/OpenTransaction", "equals", "(Ljava/lang/Object;)Z"⟩ : MethodName)) (z := (⟨"com/example/semel/semel/log/OpenTransaction", "equals", "(Ljava/lang/Object;)Z"⟩ : MethodName)) hown (own_w hw 15 rfl) (own_w hw 16 rfl) (notFace_of_selects (args := #[]) (mvT hZ (own_w hw 18 rfl))) (own_w hw 18 rfl) (own_w hw 17 rfl) (own_w hw 2 rfl) (own_w hw 19 rfl) (by decide) (rmEb l Z a0 hw [] b4 b4 x0 es1 x2 x0 es1 x2 T12.heap cf14 cf15 cf16 cf14 cf15 cf16 cf13) e29 cf13 0 (argsL := [(.ref b4)]) (rest := []) (Ls := #[.val (.long x0), .second, iv x1, .val (.long x2), .second, .val (.long x3), .second, .val (.long x4), .second, iv x5, iv es1, iv es2, .val (.long v12), .second, iv v14, .val (.long v15), .second, iv kd, rv b4, rv b7, rv b7, iv 0, iv 0, iv 1]) (by rw [hml]; rfl) (lenOf pd__Ljava_lang_Object__Z rfl) rfl rfl (Nat.le_of_eq rfl) (hb hby at_242) (by decide) (by decide) (by decide) (by decide)
              replace X30 := own_nil X30
              refine own_go T30 m 245 #[.val (.long x0), .second, iv x1, .val (.long x2), .second, .val (.long x3), .second, .val (.long x4), .second, iv x5, iv es1, iv es2, .val (.long v12), .second, iv v14, .val (.long v15), .second, iv kd, rv b4, rv b7, rv b7, iv 0, iv 0, iv 1] [(.int (own_eq x0 es1 x2 x0 es1 x2))] (st30) ?_
              rw [show (own_eq x0 es1 x2 x0 es1 x2) = (1 : Int32) from by simp [own_eq]]
              refine own_go T30 m 248 #[.val (.long x0), .second, iv x1, .val (.long x2), .second, .val (.long x3), .second, .val (.long x4), .second, iv x5, iv es1, iv es2, .val (.long v12), .second, iv v14, .val (.long v15), .second, iv kd, rv b4, rv b7, rv b7, iv 0, iv 0, iv 1] [] (fun t k => XS.ifNo X30.here hx rfl (hb hby at_245) rfl ((if0 _ _).trans (feq (by decide)).1) k) ?_
              refine own_go T30 m 249 #[.val (.long x0), .second, iv x1, .val (.long x2), .second, .val (.long x3), .second, .val (.long x4), .second, iv x5, iv es1, iv es2, .val (.long v12), .second, iv v14, .val (.long v15), .second, iv kd, rv b4, rv b7, rv b7, iv 0, iv 0, iv 1] [(.int 1)] (fun t k => XS.iconst X30.here hx rfl (hb hby at_248) k) ?_
              refine own_go T30 m 253 #[.val (.long x0), .second, iv x1, .val (.long x2), .second, .val (.long x3), .second, .val (.long x4), .second, iv x5, iv es1, iv es2, .val (.long v12), .second, iv v14, .val (.long v15), .second, iv kd, rv b4, rv b7, rv b7, iv 0, iv 0, iv 1] [(.int 1)] (fun t k => XS.goto X30.here hx rfl (pc0 := 249) (pc' := 253) rfl (hb hby at_249) (by decide) (by decide) k) ?_
              refine own_retZ X30 hx hlk hret (by decide) (hb hby at_253) (by decide) (by decide) ?_
              exact ⟨rfl, N12⟩
          · refine own_go T12 m 128 #[.val (.long x0), .second, iv x1, .val (.long x2), .second, .val (.long x3), .second, .val (.long x4), .second, iv x5, iv es1, iv es2, .val (.long v12), .second, iv v14, .val (.long v15), .second, iv kd, rv b4, rv b7, rv b7, .unset, .unset, .unset] [] (fun t k => XS.ifYes X12.here hx rfl (pc0 := 107) (pc' := 128) rfl (hb hby at_107) rfl ((if0 _ _).trans (feq (mt (lw_eq x0 v12).mp hc107_19)).2) (by decide) (by decide) k) ?_
            refine own_go T12 m 129 #[.val (.long x0), .second, iv x1, .val (.long x2), .second, .val (.long x3), .second, .val (.long x4), .second, iv x5, iv es1, iv es2, .val (.long v12), .second, iv v14, .val (.long v15), .second, iv kd, rv b4, rv b7, rv b7, .unset, .unset, .unset] [(.int 0)] (fun t k => XS.iconst X12.here hx rfl (hb hby at_128) k) ?_
            refine own_go T12 m 131 #[.val (.long x0), .second, iv x1, .val (.long x2), .second, .val (.long x3), .second, .val (.long x4), .second, iv x5, iv es1, iv es2, .val (.long v12), .second, iv v14, .val (.long v15), .second, iv kd, rv b4, rv b7, rv b7, iv 0, .unset, .unset] [] (fun t k => XS.istore X12.here hx rfl (hb hby at_129) rfl rfl k) ?_
            refine own_go T12 m 189 #[.val (.long x0), .second, iv x1, .val (.long x2), .second, .val (.long x3), .second, .val (.long x4), .second, iv x5, iv es1, iv es2, .val (.long v12), .second, iv v14, .val (.long v15), .second, iv kd, rv b4, rv b7, rv b7, iv 0, .unset, .unset] [] (fun t k => XS.goto X12.here hx rfl (pc0 := 131) (pc' := 189) rfl (hb hby at_131) (by decide) (by decide) k) ?_
            refine own_go T12 m 191 #[.val (.long x0), .second, iv x1, .val (.long x2), .second, .val (.long x3), .second, .val (.long x4), .second, iv x5, iv es1, iv es2, .val (.long v12), .second, iv v14, .val (.long v15), .second, iv kd, rv b4, rv b7, rv b7, iv 0, .unset, .unset] [(.ref b4)] (fun t k => XS.aload X12.here hx rfl (hb hby at_189) rfl rfl k) ?_
            refine own_go T12 m 193 #[.val (.long x0), .second, iv x1, .val (.long x2), .second, .val (.long x3), .second, .val (.long x4), .second, iv x5, iv es1, iv es2, .val (.long v12), .second, iv v14, .val (.long v15), .second, iv kd, rv b4, rv b7, rv b7, iv 0, .unset, .unset] [(.ref b7), (.ref b4)] (fun t k => XS.aload X12.here hx rfl (hb hby at_191) rfl rfl k) ?_
            obtain ⟨_, T31, L31, X31, ⟨rfl, e31, rfl⟩, st31⟩ := own_virtual X12 hx hZ (y := (⟨"com/example/semel/semel/log/OpenTransaction", "equals", "(Ljava/lang/Object;)Z"⟩ : MethodName)) (z := (⟨"com/example/semel/semel/log/OpenTransaction", "equals", "(Ljava/lang/Object;)Z"⟩ : MethodName)) hown (own_w hw 15 rfl) (own_w hw 16 rfl) (notFace_of_selects (args := #[]) (mvT hZ (own_w hw 18 rfl))) (own_w hw 18 rfl) (own_w hw 17 rfl) (own_w hw 2 rfl) (own_w hw 19 rfl) (by decide) (rmEb l Z a0 hw [] b4 b7 x0 es1 x2 v12 v14 v15 T12.heap cf14 cf15 cf16 Fq12_0 Fq12_1 Fq12_2 Aq12) rfl cf13 0 (argsL := [(.ref b7)]) (rest := []) (Ls := #[.val (.long x0), .second, iv x1, .val (.long x2), .second, .val (.long x3), .second, .val (.long x4), .second, iv x5, iv es1, iv es2, .val (.long v12), .second, iv v14, .val (.long v15), .second, iv kd, rv b4, rv b7, rv b7, iv 0, .unset, .unset]) (by rw [hml]; rfl) (lenOf pd__Ljava_lang_Object__Z rfl) rfl rfl (Nat.le_of_eq rfl) (hb hby at_193) (by decide) (by decide) (by decide) (by decide)
            replace X31 := own_nil X31
            refine own_go T31 m 196 #[.val (.long x0), .second, iv x1, .val (.long x2), .second, .val (.long x3), .second, .val (.long x4), .second, iv x5, iv es1, iv es2, .val (.long v12), .second, iv v14, .val (.long v15), .second, iv kd, rv b4, rv b7, rv b7, iv 0, .unset, .unset] [(.int (own_eq x0 es1 x2 v12 v14 v15))] (st31) ?_
            rw [show (own_eq x0 es1 x2 v12 v14 v15) = (0 : Int32) from by simp [own_eq, hc107_19, Ne.symm hc107_19]]
            refine own_go T31 m 198 #[.val (.long x0), .second, iv x1, .val (.long x2), .second, .val (.long x3), .second, .val (.long x4), .second, iv x5, iv es1, iv es2, .val (.long v12), .second, iv v14, .val (.long v15), .second, iv kd, rv b4, rv b7, rv b7, iv 0, iv 0, .unset] [] (fun t k => XS.istore X31.here hx rfl (hb hby at_196) rfl rfl k) ?_
            refine own_go T31 m 200 #[.val (.long x0), .second, iv x1, .val (.long x2), .second, .val (.long x3), .second, .val (.long x4), .second, iv x5, iv es1, iv es2, .val (.long v12), .second, iv v14, .val (.long v15), .second, iv kd, rv b4, rv b7, rv b7, iv 0, iv 0, .unset] [(.int kd)] (fun t k => XS.iload X31.here hx rfl (hb hby at_198) rfl k) ?_
            refine own_go T31 m 203 #[.val (.long x0), .second, iv x1, .val (.long x2), .second, .val (.long x3), .second, .val (.long x4), .second, iv x5, iv es1, iv es2, .val (.long v12), .second, iv v14, .val (.long v15), .second, iv kd, rv b4, rv b7, rv b7, iv 0, iv 0, .unset] [] (fun t k => XS.ifNo X31.here hx rfl (hb hby at_200) rfl ((if0 _ _).trans (teq hc96_18).2) k) ?_
            refine own_go T31 m 205 #[.val (.long x0), .second, iv x1, .val (.long x2), .second, .val (.long x3), .second, .val (.long x4), .second, iv x5, iv es1, iv es2, .val (.long v12), .second, iv v14, .val (.long v15), .second, iv kd, rv b4, rv b7, rv b7, iv 0, iv 0, .unset] [(.ref b7)] (fun t k => XS.aload X31.here hx rfl (hb hby at_203) rfl rfl k) ?_
            refine own_go T31 m 207 #[.val (.long x0), .second, iv x1, .val (.long x2), .second, .val (.long x3), .second, .val (.long x4), .second, iv x5, iv es1, iv es2, .val (.long v12), .second, iv v14, .val (.long v15), .second, iv kd, rv b4, rv b7, rv b7, iv 0, iv 0, .unset] [(.ref b4), (.ref b7)] (fun t k => XS.aload X31.here hx rfl (hb hby at_205) rfl rfl k) ?_
            obtain ⟨_, T32, L32, X32, ⟨rfl, e32, rfl⟩, st32⟩ := own_virtual X31 hx hZ (y := (⟨"com/example/semel/semel/log/OpenTransaction", "equals", "(Ljava/lang/Object;)Z"⟩ : MethodName)) (z := (⟨"com/example/semel/semel/log/OpenTransaction", "equals", "(Ljava/lang/Object;)Z"⟩ : MethodName)) hown (own_w hw 15 rfl) (own_w hw 16 rfl) (notFace_of_selects (args := #[]) (mvT hZ (own_w hw 18 rfl))) (own_w hw 18 rfl) (own_w hw 17 rfl) (own_w hw 2 rfl) (own_w hw 19 rfl) (by decide) (rmEb l Z a0 hw [] b7 b4 v12 v14 v15 x0 es1 x2 T12.heap Fq12_0 Fq12_1 Fq12_2 cf14 cf15 cf16 cf13) e31 Aq12 0 (argsL := [(.ref b4)]) (rest := []) (Ls := #[.val (.long x0), .second, iv x1, .val (.long x2), .second, .val (.long x3), .second, .val (.long x4), .second, iv x5, iv es1, iv es2, .val (.long v12), .second, iv v14, .val (.long v15), .second, iv kd, rv b4, rv b7, rv b7, iv 0, iv 0, .unset]) (by rw [hml]; rfl) (lenOf pd__Ljava_lang_Object__Z rfl) rfl rfl (Nat.le_of_eq rfl) (hb hby at_207) (by decide) (by decide) (by decide) (by decide)
            replace X32 := own_nil X32
            refine own_go T32 m 210 #[.val (.long x0), .second, iv x1, .val (.long x2), .second, .val (.long x3), .second, .val (.long x4), .second, iv x5, iv es1, iv es2, .val (.long v12), .second, iv v14, .val (.long v15), .second, iv kd, rv b4, rv b7, rv b7, iv 0, iv 0, .unset] [(.int (own_eq v12 v14 v15 x0 es1 x2))] (st32) ?_
            rw [show (own_eq v12 v14 v15 x0 es1 x2) = (0 : Int32) from by simp [own_eq, hc107_19, Ne.symm hc107_19]]
            refine own_go T32 m 212 #[.val (.long x0), .second, iv x1, .val (.long x2), .second, .val (.long x3), .second, .val (.long x4), .second, iv x5, iv es1, iv es2, .val (.long v12), .second, iv v14, .val (.long v15), .second, iv kd, rv b4, rv b7, rv b7, iv 0, iv 0, .unset] [(.int 0), (.int 0)] (fun t k => XS.iload X32.here hx rfl (hb hby at_210) rfl k) ?_
            refine own_go T32 m 215 #[.val (.long x0), .second, iv x1, .val (.long x2), .second, .val (.long x3), .second, .val (.long x4), .second, iv x5, iv es1, iv es2, .val (.long v12), .second, iv v14, .val (.long v15), .second, iv kd, rv b4, rv b7, rv b7, iv 0, iv 0, .unset] [] (fun t k => XS.icmpNo X32.here hx rfl (hb hby at_212) rfl (teq (by decide)).2 k) ?_
            refine own_go T32 m 216 #[.val (.long x0), .second, iv x1, .val (.long x2), .second, .val (.long x3), .second, .val (.long x4), .second, iv x5, iv es1, iv es2, .val (.long v12), .second, iv v14, .val (.long v15), .second, iv kd, rv b4, rv b7, rv b7, iv 0, iv 0, .unset] [(.int 1)] (fun t k => XS.iconst X32.here hx rfl (hb hby at_215) k) ?_
            refine own_go T32 m 224 #[.val (.long x0), .second, iv x1, .val (.long x2), .second, .val (.long x3), .second, .val (.long x4), .second, iv x5, iv es1, iv es2, .val (.long v12), .second, iv v14, .val (.long v15), .second, iv kd, rv b4, rv b7, rv b7, iv 0, iv 0, .unset] [(.int 1)] (fun t k => XS.goto X32.here hx rfl (pc0 := 216) (pc' := 224) rfl (hb hby at_216) (by decide) (by decide) k) ?_
            refine own_go T32 m 226 #[.val (.long x0), .second, iv x1, .val (.long x2), .second, .val (.long x3), .second, .val (.long x4), .second, iv x5, iv es1, iv es2, .val (.long v12), .second, iv v14, .val (.long v15), .second, iv kd, rv b4, rv b7, rv b7, iv 0, iv 0, iv 1] [] (fun t k => XS.istore X32.here hx rfl (hb hby at_224) rfl rfl k) ?_
            refine own_go T32 m 228 #[.val (.long x0), .second, iv x1, .val (.long x2), .second, .val (.long x3), .second, .val (.long x4), .second, iv x5, iv es1, iv es2, .val (.long v12), .second, iv v14, .val (.long v15), .second, iv kd, rv b4, rv b7, rv b7, iv 0, iv 0, iv 1] [(.int 0)] (fun t k => XS.iload X32.here hx rfl (hb hby at_226) rfl k) ?_
            refine own_go T32 m 230 #[.val (.long x0), .second, iv x1, .val (.long x2), .second, .val (.long x3), .second, .val (.long x4), .second, iv x5, iv es1, iv es2, .val (.long v12), .second, iv v14, .val (.long v15), .second, iv kd, rv b4, rv b7, rv b7, iv 0, iv 0, iv 1] [(.int 0), (.int 0)] (fun t k => XS.iload X32.here hx rfl (hb hby at_228) rfl k) ?_
            refine own_go T32 m 233 #[.val (.long x0), .second, iv x1, .val (.long x2), .second, .val (.long x3), .second, .val (.long x4), .second, iv x5, iv es1, iv es2, .val (.long v12), .second, iv v14, .val (.long v15), .second, iv kd, rv b4, rv b7, rv b7, iv 0, iv 0, iv 1] [] (fun t k => XS.icmpNo X32.here hx rfl (hb hby at_230) rfl (teq (by decide)).2 k) ?_
            refine own_go T32 m 235 #[.val (.long x0), .second, iv x1, .val (.long x2), .second, .val (.long x3), .second, .val (.long x4), .second, iv x5, iv es1, iv es2, .val (.long v12), .second, iv v14, .val (.long v15), .second, iv kd, rv b4, rv b7, rv b7, iv 0, iv 0, iv 1] [(.int 1)] (fun t k => XS.iload X32.here hx rfl (hb hby at_233) rfl k) ?_
            refine own_go T32 m 238 #[.val (.long x0), .second, iv x1, .val (.long x2), .second, .val (.long x3), .second, .val (.long x4), .second, iv x5, iv es1, iv es2, .val (.long v12), .second, iv v14, .val (.long v15), .second, iv kd, rv b4, rv b7, rv b7, iv 0, iv 0, iv 1] [] (fun t k => XS.ifNo X32.here hx rfl (hb hby at_235) rfl ((if0 _ _).trans (feq (by decide)).1) k) ?_
            refine own_go T32 m 240 #[.val (.long x0), .second, iv x1, .val (.long x2), .second, .val (.long x3), .second, .val (.long x4), .second, iv x5, iv es1, iv es2, .val (.long v12), .second, iv v14, .val (.long v15), .second, iv kd, rv b4, rv b7, rv b7, iv 0, iv 0, iv 1] [(.ref b4)] (fun t k => XS.aload X32.here hx rfl (hb hby at_238) rfl rfl k) ?_
            refine own_go T32 m 242 #[.val (.long x0), .second, iv x1, .val (.long x2), .second, .val (.long x3), .second, .val (.long x4), .second, iv x5, iv es1, iv es2, .val (.long v12), .second, iv v14, .val (.long v15), .second, iv kd, rv b4, rv b7, rv b7, iv 0, iv 0, iv 1] [(.ref b4), (.ref b4)] (fun t k => XS.aload X32.here hx rfl (hb hby at_240) rfl rfl k) ?_
            obtain ⟨_, T33, L33, X33, ⟨rfl, e33, rfl⟩, st33⟩ := own_virtual X32 hx hZ (y := (⟨"com/example/semel/semel/log/OpenTransaction", "equals", "(Ljava/lang/Object;)Z"⟩ : MethodName)) (z := (⟨"com/example/semel/semel/log/OpenTransaction", "equals", "(Ljava/lang/Object;)Z"⟩ : MethodName)) hown (own_w hw 15 rfl) (own_w hw 16 rfl) (notFace_of_selects (args := #[]) (mvT hZ (own_w hw 18 rfl))) (own_w hw 18 rfl) (own_w hw 17 rfl) (own_w hw 2 rfl) (own_w hw 19 rfl) (by decide) (rmEb l Z a0 hw [] b4 b4 x0 es1 x2 x0 es1 x2 T12.heap cf14 cf15 cf16 cf14 cf15 cf16 cf13) e32 cf13 0 (argsL := [(.ref b4)]) (rest := []) (Ls := #[.val (.long x0), .second, iv x1, .val (.long x2), .second, .val (.long x3), .second, .val (.long x4), .second, iv x5, iv es1, iv es2, .val (.long v12), .second, iv v14, .val (.long v15), .second, iv kd, rv b4, rv b7, rv b7, iv 0, iv 0, iv 1]) (by rw [hml]; rfl) (lenOf pd__Ljava_lang_Object__Z rfl) rfl rfl (Nat.le_of_eq rfl) (hb hby at_242) (by decide) (by decide) (by decide) (by decide)
            replace X33 := own_nil X33
            refine own_go T33 m 245 #[.val (.long x0), .second, iv x1, .val (.long x2), .second, .val (.long x3), .second, .val (.long x4), .second, iv x5, iv es1, iv es2, .val (.long v12), .second, iv v14, .val (.long v15), .second, iv kd, rv b4, rv b7, rv b7, iv 0, iv 0, iv 1] [(.int (own_eq x0 es1 x2 x0 es1 x2))] (st33) ?_
            rw [show (own_eq x0 es1 x2 x0 es1 x2) = (1 : Int32) from by simp [own_eq]]
            refine own_go T33 m 248 #[.val (.long x0), .second, iv x1, .val (.long x2), .second, .val (.long x3), .second, .val (.long x4), .second, iv x5, iv es1, iv es2, .val (.long v12), .second, iv v14, .val (.long v15), .second, iv kd, rv b4, rv b7, rv b7, iv 0, iv 0, iv 1] [] (fun t k => XS.ifNo X33.here hx rfl (hb hby at_245) rfl ((if0 _ _).trans (feq (by decide)).1) k) ?_
            refine own_go T33 m 249 #[.val (.long x0), .second, iv x1, .val (.long x2), .second, .val (.long x3), .second, .val (.long x4), .second, iv x5, iv es1, iv es2, .val (.long v12), .second, iv v14, .val (.long v15), .second, iv kd, rv b4, rv b7, rv b7, iv 0, iv 0, iv 1] [(.int 1)] (fun t k => XS.iconst X33.here hx rfl (hb hby at_248) k) ?_
            refine own_go T33 m 253 #[.val (.long x0), .second, iv x1, .val (.long x2), .second, .val (.long x3), .second, .val (.long x4), .second, iv x5, iv es1, iv es2, .val (.long v12), .second, iv v14, .val (.long v15), .second, iv kd, rv b4, rv b7, rv b7, iv 0, iv 0, iv 1] [(.int 1)] (fun t k => XS.goto X33.here hx rfl (pc0 := 249) (pc' := 253) rfl (hb hby at_249) (by decide) (by decide) k) ?_
            refine own_retZ X33 hx hlk hret (by decide) (hb hby at_253) (by decide) (by decide) ?_
            exact ⟨rfl, N12⟩
        · refine own_go T12 m 134 #[.val (.long x0), .second, iv x1, .val (.long x2), .second, .val (.long x3), .second, .val (.long x4), .second, iv x5, iv es1, iv es2, .val (.long v12), .second, iv v14, .val (.long v15), .second, iv kd, rv b4, rv b7, .unset, .unset, .unset, .unset] [] (fun t k => XS.ifYes X12.here hx rfl (pc0 := 96) (pc' := 134) rfl (hb hby at_96) rfl ((if0 _ _).trans (feq hc96_18).2) (by decide) (by decide) k) ?_
          refine own_go T12 m 136 #[.val (.long x0), .second, iv x1, .val (.long x2), .second, .val (.long x3), .second, .val (.long x4), .second, iv x5, iv es1, iv es2, .val (.long v12), .second, iv v14, .val (.long v15), .second, iv kd, rv b4, rv b7, .unset, .unset, .unset, .unset] [(.int kd)] (fun t k => XS.iload X12.here hx rfl (hb hby at_134) rfl k) ?_
          refine own_go T12 m 137 #[.val (.long x0), .second, iv x1, .val (.long x2), .second, .val (.long x3), .second, .val (.long x4), .second, iv x5, iv es1, iv es2, .val (.long v12), .second, iv v14, .val (.long v15), .second, iv kd, rv b4, rv b7, .unset, .unset, .unset, .unset] [(.int 1), (.int kd)] (fun t k => XS.iconst X12.here hx rfl (hb hby at_136) k) ?_
          by_cases hc137_34 : kd = (1 : Int32)
          · refine own_go T12 m 140 #[.val (.long x0), .second, iv x1, .val (.long x2), .second, .val (.long x3), .second, .val (.long x4), .second, iv x5, iv es1, iv es2, .val (.long v12), .second, iv v14, .val (.long v15), .second, iv kd, rv b4, rv b7, .unset, .unset, .unset, .unset] [] (fun t k => XS.icmpNo X12.here hx rfl (hb hby at_137) rfl (teq hc137_34).2 k) ?_
            refine own_go T12 m 141 #[.val (.long x0), .second, iv x1, .val (.long x2), .second, .val (.long x3), .second, .val (.long x4), .second, iv x5, iv es1, iv es2, .val (.long v12), .second, iv v14, .val (.long v15), .second, iv kd, rv b4, rv b7, .unset, .unset, .unset, .unset] [.null] (fun t k => XS.aconstNull X12.here hx rfl (hb hby at_140) k) ?_
            refine own_go T12 m 143 #[.val (.long x0), .second, iv x1, .val (.long x2), .second, .val (.long x3), .second, .val (.long x4), .second, iv x5, iv es1, iv es2, .val (.long v12), .second, iv v14, .val (.long v15), .second, iv kd, rv b4, rv b7, .val .null, .unset, .unset, .unset] [] (fun t k => XS.astore X12.here hx rfl (hb hby at_141) rfl rfl rfl k) ?_
            refine own_go T12 m 144 #[.val (.long x0), .second, iv x1, .val (.long x2), .second, .val (.long x3), .second, .val (.long x4), .second, iv x5, iv es1, iv es2, .val (.long v12), .second, iv v14, .val (.long v15), .second, iv kd, rv b4, rv b7, .val .null, .unset, .unset, .unset] [(.int 0)] (fun t k => XS.iconst X12.here hx rfl (hb hby at_143) k) ?_
            refine own_go T12 m 146 #[.val (.long x0), .second, iv x1, .val (.long x2), .second, .val (.long x3), .second, .val (.long x4), .second, iv x5, iv es1, iv es2, .val (.long v12), .second, iv v14, .val (.long v15), .second, iv kd, rv b4, rv b7, .val .null, iv 0, .unset, .unset] [] (fun t k => XS.istore X12.here hx rfl (hb hby at_144) rfl rfl k) ?_
            refine own_go T12 m 189 #[.val (.long x0), .second, iv x1, .val (.long x2), .second, .val (.long x3), .second, .val (.long x4), .second, iv x5, iv es1, iv es2, .val (.long v12), .second, iv v14, .val (.long v15), .second, iv kd, rv b4, rv b7, .val .null, iv 0, .unset, .unset] [] (fun t k => XS.goto X12.here hx rfl (pc0 := 146) (pc' := 189) rfl (hb hby at_146) (by decide) (by decide) k) ?_
            refine own_go T12 m 191 #[.val (.long x0), .second, iv x1, .val (.long x2), .second, .val (.long x3), .second, .val (.long x4), .second, iv x5, iv es1, iv es2, .val (.long v12), .second, iv v14, .val (.long v15), .second, iv kd, rv b4, rv b7, .val .null, iv 0, .unset, .unset] [(.ref b4)] (fun t k => XS.aload X12.here hx rfl (hb hby at_189) rfl rfl k) ?_
            refine own_go T12 m 193 #[.val (.long x0), .second, iv x1, .val (.long x2), .second, .val (.long x3), .second, .val (.long x4), .second, iv x5, iv es1, iv es2, .val (.long v12), .second, iv v14, .val (.long v15), .second, iv kd, rv b4, rv b7, .val .null, iv 0, .unset, .unset] [.null, (.ref b4)] (fun t k => XS.aload X12.here hx rfl (hb hby at_191) rfl rfl k) ?_
            obtain ⟨_, T35, L35, X35, ⟨rfl, e35, rfl⟩, st35⟩ := own_virtual X12 hx hZ (y := (⟨"com/example/semel/semel/log/OpenTransaction", "equals", "(Ljava/lang/Object;)Z"⟩ : MethodName)) (z := (⟨"com/example/semel/semel/log/OpenTransaction", "equals", "(Ljava/lang/Object;)Z"⟩ : MethodName)) hown (own_w hw 15 rfl) (own_w hw 16 rfl) (notFace_of_selects (args := #[]) (mvT hZ (own_w hw 18 rfl))) (own_w hw 18 rfl) (own_w hw 17 rfl) (own_w hw 2 rfl) (own_w hw 19 rfl) (by decide) (rmEn l Z a0 hw [] b4 T12.heap) rfl cf13 0 (argsL := [.null]) (rest := []) (Ls := #[.val (.long x0), .second, iv x1, .val (.long x2), .second, .val (.long x3), .second, .val (.long x4), .second, iv x5, iv es1, iv es2, .val (.long v12), .second, iv v14, .val (.long v15), .second, iv kd, rv b4, rv b7, .val .null, iv 0, .unset, .unset]) (by rw [hml]; rfl) (lenOf pd__Ljava_lang_Object__Z rfl) rfl rfl (Nat.le_of_eq rfl) (hb hby at_193) (by decide) (by decide) (by decide) (by decide)
            replace X35 := own_nil X35
            refine own_go T35 m 196 #[.val (.long x0), .second, iv x1, .val (.long x2), .second, .val (.long x3), .second, .val (.long x4), .second, iv x5, iv es1, iv es2, .val (.long v12), .second, iv v14, .val (.long v15), .second, iv kd, rv b4, rv b7, .val .null, iv 0, .unset, .unset] [(.int 0)] (st35) ?_
            refine own_go T35 m 198 #[.val (.long x0), .second, iv x1, .val (.long x2), .second, .val (.long x3), .second, .val (.long x4), .second, iv x5, iv es1, iv es2, .val (.long v12), .second, iv v14, .val (.long v15), .second, iv kd, rv b4, rv b7, .val .null, iv 0, iv 0, .unset] [] (fun t k => XS.istore X35.here hx rfl (hb hby at_196) rfl rfl k) ?_
            refine own_go T35 m 200 #[.val (.long x0), .second, iv x1, .val (.long x2), .second, .val (.long x3), .second, .val (.long x4), .second, iv x5, iv es1, iv es2, .val (.long v12), .second, iv v14, .val (.long v15), .second, iv kd, rv b4, rv b7, .val .null, iv 0, iv 0, .unset] [(.int kd)] (fun t k => XS.iload X35.here hx rfl (hb hby at_198) rfl k) ?_
            refine own_go T35 m 223 #[.val (.long x0), .second, iv x1, .val (.long x2), .second, .val (.long x3), .second, .val (.long x4), .second, iv x5, iv es1, iv es2, .val (.long v12), .second, iv v14, .val (.long v15), .second, iv kd, rv b4, rv b7, .val .null, iv 0, iv 0, .unset] [] (fun t k => XS.ifYes X35.here hx rfl (pc0 := 200) (pc' := 223) rfl (hb hby at_200) rfl ((if0 _ _).trans (feq hc96_18).2) (by decide) (by decide) k) ?_
            refine own_go T35 m 224 #[.val (.long x0), .second, iv x1, .val (.long x2), .second, .val (.long x3), .second, .val (.long x4), .second, iv x5, iv es1, iv es2, .val (.long v12), .second, iv v14, .val (.long v15), .second, iv kd, rv b4, rv b7, .val .null, iv 0, iv 0, .unset] [(.int 1)] (fun t k => XS.iconst X35.here hx rfl (hb hby at_223) k) ?_
            refine own_go T35 m 226 #[.val (.long x0), .second, iv x1, .val (.long x2), .second, .val (.long x3), .second, .val (.long x4), .second, iv x5, iv es1, iv es2, .val (.long v12), .second, iv v14, .val (.long v15), .second, iv kd, rv b4, rv b7, .val .null, iv 0, iv 0, iv 1] [] (fun t k => XS.istore X35.here hx rfl (hb hby at_224) rfl rfl k) ?_
            refine own_go T35 m 228 #[.val (.long x0), .second, iv x1, .val (.long x2), .second, .val (.long x3), .second, .val (.long x4), .second, iv x5, iv es1, iv es2, .val (.long v12), .second, iv v14, .val (.long v15), .second, iv kd, rv b4, rv b7, .val .null, iv 0, iv 0, iv 1] [(.int 0)] (fun t k => XS.iload X35.here hx rfl (hb hby at_226) rfl k) ?_
            refine own_go T35 m 230 #[.val (.long x0), .second, iv x1, .val (.long x2), .second, .val (.long x3), .second, .val (.long x4), .second, iv x5, iv es1, iv es2, .val (.long v12), .second, iv v14, .val (.long v15), .second, iv kd, rv b4, rv b7, .val .null, iv 0, iv 0, iv 1] [(.int 0), (.int 0)] (fun t k => XS.iload X35.here hx rfl (hb hby at_228) rfl k) ?_
            refine own_go T35 m 233 #[.val (.long x0), .second, iv x1, .val (.long x2), .second, .val (.long x3), .second, .val (.long x4), .second, iv x5, iv es1, iv es2, .val (.long v12), .second, iv v14, .val (.long v15), .second, iv kd, rv b4, rv b7, .val .null, iv 0, iv 0, iv 1] [] (fun t k => XS.icmpNo X35.here hx rfl (hb hby at_230) rfl (teq (by decide)).2 k) ?_
            refine own_go T35 m 235 #[.val (.long x0), .second, iv x1, .val (.long x2), .second, .val (.long x3), .second, .val (.long x4), .second, iv x5, iv es1, iv es2, .val (.long v12), .second, iv v14, .val (.long v15), .second, iv kd, rv b4, rv b7, .val .null, iv 0, iv 0, iv 1] [(.int 1)] (fun t k => XS.iload X35.here hx rfl (hb hby at_233) rfl k) ?_
            refine own_go T35 m 238 #[.val (.long x0), .second, iv x1, .val (.long x2), .second, .val (.long x3), .second, .val (.long x4), .second, iv x5, iv es1, iv es2, .val (.long v12), .second, iv v14, .val (.long v15), .second, iv kd, rv b4, rv b7, .val .null, iv 0, iv 0, iv 1] [] (fun t k => XS.ifNo X35.here hx rfl (hb hby at_235) rfl ((if0 _ _).trans (feq (by decide)).1) k) ?_
            refine own_go T35 m 240 #[.val (.long x0), .second, iv x1, .val (.long x2), .second, .val (.long x3), .second, .val (.long x4), .second, iv x5, iv es1, iv es2, .val (.long v12), .second, iv v14, .val (.long v15), .second, iv kd, rv b4, rv b7, .val .null, iv 0, iv 0, iv 1] [(.ref b4)] (fun t k => XS.aload X35.here hx rfl (hb hby at_238) rfl rfl k) ?_
            refine own_go T35 m 242 #[.val (.long x0), .second, iv x1, .val (.long x2), .second, .val (.long x3), .second, .val (.long x4), .second, iv x5, iv es1, iv es2, .val (.long v12), .second, iv v14, .val (.long v15), .second, iv kd, rv b4, rv b7, .val .null, iv 0, iv 0, iv 1] [(.ref b4), (.ref b4)] (fun t k => XS.aload X35.here hx rfl (hb hby at_240) rfl rfl k) ?_
            obtain ⟨_, T36, L36, X36, ⟨rfl, e36, rfl⟩, st36⟩ := own_virtual X35 hx hZ (y := (⟨"com/example/semel/semel/log/OpenTransaction", "equals", "(Ljava/lang/Object;)Z"⟩ : MethodName)) (z := (⟨"com/example/semel/semel/log/OpenTransaction", "equals", "(Ljava/lang/Object;)Z"⟩ : MethodName)) hown (own_w hw 15 rfl) (own_w hw 16 rfl) (notFace_of_selects (args := #[]) (mvT hZ (own_w hw 18 rfl))) (own_w hw 18 rfl) (own_w hw 17 rfl) (own_w hw 2 rfl) (own_w hw 19 rfl) (by decide) (rmEb l Z a0 hw [] b4 b4 x0 es1 x2 x0 es1 x2 T12.heap cf14 cf15 cf16 cf14 cf15 cf16 cf13) e35 cf13 0 (argsL := [(.ref b4)]) (rest := []) (Ls := #[.val (.long x0), .second, iv x1, .val (.long x2), .second, .val (.long x3), .second, .val (.long x4), .second, iv x5, iv es1, iv es2, .val (.long v12), .second, iv v14, .val (.long v15), .second, iv kd, rv b4, rv b7, .val .null, iv 0, iv 0, iv 1]) (by rw [hml]; rfl) (lenOf pd__Ljava_lang_Object__Z rfl) rfl rfl (Nat.le_of_eq rfl) (hb hby at_242) (by decide) (by decide) (by decide) (by decide)
            replace X36 := own_nil X36
            refine own_go T36 m 245 #[.val (.long x0), .second, iv x1, .val (.long x2), .second, .val (.long x3), .second, .val (.long x4), .second, iv x5, iv es1, iv es2, .val (.long v12), .second, iv v14, .val (.long v15), .second, iv kd, rv b4, rv b7, .val .null, iv 0, iv 0, iv 1] [(.int (own_eq x0 es1 x2 x0 es1 x2))] (st36) ?_
            rw [show (own_eq x0 es1 x2 x0 es1 x2) = (1 : Int32) from by simp [own_eq]]
            refine own_go T36 m 248 #[.val (.long x0), .second, iv x1, .val (.long x2), .second, .val (.long x3), .second, .val (.long x4), .second, iv x5, iv es1, iv es2, .val (.long v12), .second, iv v14, .val (.long v15), .second, iv kd, rv b4, rv b7, .val .null, iv 0, iv 0, iv 1] [] (fun t k => XS.ifNo X36.here hx rfl (hb hby at_245) rfl ((if0 _ _).trans (feq (by decide)).1) k) ?_
            refine own_go T36 m 249 #[.val (.long x0), .second, iv x1, .val (.long x2), .second, .val (.long x3), .second, .val (.long x4), .second, iv x5, iv es1, iv es2, .val (.long v12), .second, iv v14, .val (.long v15), .second, iv kd, rv b4, rv b7, .val .null, iv 0, iv 0, iv 1] [(.int 1)] (fun t k => XS.iconst X36.here hx rfl (hb hby at_248) k) ?_
            refine own_go T36 m 253 #[.val (.long x0), .second, iv x1, .val (.long x2), .second, .val (.long x3), .second, .val (.long x4), .second, iv x5, iv es1, iv es2, .val (.long v12), .second, iv v14, .val (.long v15), .second, iv kd, rv b4, rv b7, .val .null, iv 0, iv 0, iv 1] [(.int 1)] (fun t k => XS.goto X36.here hx rfl (pc0 := 249) (pc' := 253) rfl (hb hby at_249) (by decide) (by decide) k) ?_
            refine own_retZ X36 hx hlk hret (by decide) (hb hby at_253) (by decide) (by decide) ?_
            exact ⟨rfl, N12⟩
          · refine own_go T12 m 149 #[.val (.long x0), .second, iv x1, .val (.long x2), .second, .val (.long x3), .second, .val (.long x4), .second, iv x5, iv es1, iv es2, .val (.long v12), .second, iv v14, .val (.long v15), .second, iv kd, rv b4, rv b7, .unset, .unset, .unset, .unset] [] (fun t k => XS.icmpYes X12.here hx rfl (pc0 := 137) (pc' := 149) rfl (hb hby at_137) rfl (feq hc137_34).2 (by decide) (by decide) k) ?_
            refine own_go T12 m 151 #[.val (.long x0), .second, iv x1, .val (.long x2), .second, .val (.long x3), .second, .val (.long x4), .second, iv x5, iv es1, iv es2, .val (.long v12), .second, iv v14, .val (.long v15), .second, iv kd, rv b4, rv b7, .unset, .unset, .unset, .unset] [(.int kd)] (fun t k => XS.iload X12.here hx rfl (hb hby at_149) rfl k) ?_
            refine own_go T12 m 152 #[.val (.long x0), .second, iv x1, .val (.long x2), .second, .val (.long x3), .second, .val (.long x4), .second, iv x5, iv es1, iv es2, .val (.long v12), .second, iv v14, .val (.long v15), .second, iv kd, rv b4, rv b7, .unset, .unset, .unset, .unset] [(.int 2), (.int kd)] (fun t k => XS.iconst X12.here hx rfl (hb hby at_151) k) ?_
            by_cases hc152_37 : kd = (2 : Int32)
            · refine own_go T12 m 155 #[.val (.long x0), .second, iv x1, .val (.long x2), .second, .val (.long x3), .second, .val (.long x4), .second, iv x5, iv es1, iv es2, .val (.long v12), .second, iv v14, .val (.long v15), .second, iv kd, rv b4, rv b7, .unset, .unset, .unset, .unset] [] (fun t k => XS.icmpNo X12.here hx rfl (hb hby at_152) rfl (teq hc152_37).2 k) ?_
              obtain ⟨T38, h38, X38, e38, E38, A38, D38, -, st38⟩ := newO X12 hx hZ hown (own_w hw 22 rfl) (own_w hw 23 rfl) (own_w hw 24 rfl) rfl (g := (mkF m 155 #[.val (.long x0), .second, iv x1, .val (.long x2), .second, .val (.long x3), .second, .val (.long x4), .second, iv x5, iv es1, iv es2, .val (.long v12), .second, iv v14, .val (.long v15), .second, iv kd, rv b4, rv b7, .unset, .unset, .unset, .unset] [])) rfl (hb hby at_155) (by decide) (by decide)
              obtain ⟨b38, g38⟩ : ∃ z, z = T12.heap.size := ⟨_, rfl⟩
              rw [← g38] at A38 D38 st38
              have ne_b4_b38 : b4 ≠ b38 := Nat.ne_of_lt (Nat.lt_of_lt_of_eq cf13.lt g38.symm)
              have ne_b7_b38 : b7 ≠ b38 := Nat.ne_of_lt (Nat.lt_of_lt_of_eq Aq12.lt g38.symm)
              have g_b38 : n0 ≤ b38 := Nat.le_trans Z_12 (Nat.le_of_eq g38.symm)
              have cf39 := cf13.ext E38
              have cf40 := cf14.ext E38
              have cf41 := cf15.ext E38
              have cf42 := cf16.ext E38
              have cf43 := Aq12.ext E38
              have cf44 := Fq12_0.ext E38
              have cf45 := Fq12_1.ext E38
              have cf46 := Fq12_2.ext E38
              have Z_38 : n0 ≤ h38.size := Nat.le_trans Z_12 E38.1
              have F_producerId_38 : Fld Z h38 b38 "com/example/semel/semel/producer/ProducerInstance" "producerId" "J" (.long 0) := D38 (Or.inr (own_w hw 31 rfl)) (ty := .long) (by decide)
              have F_epoch_38 : Fld Z h38 b38 "com/example/semel/semel/producer/ProducerInstance" "epoch" "S" (.int 0) := D38 (Or.inr (own_w hw 33 rfl)) (ty := .short) (by decide)
              refine own_go T38 m 158 #[.val (.long x0), .second, iv x1, .val (.long x2), .second, .val (.long x3), .second, .val (.long x4), .second, iv x5, iv es1, iv es2, .val (.long v12), .second, iv v14, .val (.long v15), .second, iv kd, rv b4, rv b7, .unset, .unset, .unset, .unset] [(.ref b38)] (st38) ?_
              refine own_go T38 m 159 #[.val (.long x0), .second, iv x1, .val (.long x2), .second, .val (.long x3), .second, .val (.long x4), .second, iv x5, iv es1, iv es2, .val (.long v12), .second, iv v14, .val (.long v15), .second, iv kd, rv b4, rv b7, .unset, .unset, .unset, .unset] [(.ref b38), (.ref b38)] (fun t k => XS.dup X38.here hx rfl (hb hby at_158) rfl rfl k) ?_
              refine own_go T38 m 160 #[.val (.long x0), .second, iv x1, .val (.long x2), .second, .val (.long x3), .second, .val (.long x4), .second, iv x5, iv es1, iv es2, .val (.long v12), .second, iv v14, .val (.long v15), .second, iv kd, rv b4, rv b7, .unset, .unset, .unset, .unset] [(.long x0), (.ref b38), (.ref b38)] (fun t k => XS.lloadN X38.here hx rfl (hb hby at_159) rfl k) ?_
              refine own_go T38 m 163 #[.val (.long x0), .second, iv x1, .val (.long x2), .second, .val (.long x3), .second, .val (.long x4), .second, iv x5, iv es1, iv es2, .val (.long v12), .second, iv v14, .val (.long v15), .second, iv kd, rv b4, rv b7, .unset, .unset, .unset, .unset] [(.long 9223372036854775807), (.long x0), (.ref b38), (.ref b38)] (X38.ldc2Long hx hown (mvT hZ (own_w hw 25 rfl)) (g := (mkF m 160 #[.val (.long x0), .second, iv x1, .val (.long x2), .second, .val (.long x3), .second, .val (.long x4), .second, iv x5, iv es1, iv es2, .val (.long v12), .second, iv v14, .val (.long v15), .second, iv kd, rv b4, rv b7, .unset, .unset, .unset, .unset] [(.long x0), (.ref b38), (.ref b38)])) rfl (hb hby at_160)) ?_
              refine own_go T38 m 164 #[.val (.long x0), .second, iv x1, .val (.long x2), .second, .val (.long x3), .second, .val (.long x4), .second, iv x5, iv es1, iv es2, .val (.long v12), .second, iv v14, .val (.long v15), .second, iv kd, rv b4, rv b7, .unset, .unset, .unset, .unset] [(.long (x0 &&& (9223372036854775807 : Int64))), (.ref b38), (.ref b38)] (fun t k => XS.land X38.here hx rfl (hb hby at_163) rfl k) ?_
              refine own_go T38 m 166 #[.val (.long x0), .second, iv x1, .val (.long x2), .second, .val (.long x3), .second, .val (.long x4), .second, iv x5, iv es1, iv es2, .val (.long v12), .second, iv v14, .val (.long v15), .second, iv kd, rv b4, rv b7, .unset, .unset, .unset, .unset] [(.int es1), (.long (x0 &&& (9223372036854775807 : Int64))), (.ref b38), (.ref b38)] (fun t k => XS.iload X38.here hx rfl (hb hby at_164) rfl k) ?_
              refine own_go T38 m 169 #[.val (.long x0), .second, iv x1, .val (.long x2), .second, .val (.long x3), .second, .val (.long x4), .second, iv x5, iv es1, iv es2, .val (.long v12), .second, iv v14, .val (.long v15), .second, iv kd, rv b4, rv b7, .unset, .unset, .unset, .unset] [(.int 32767), (.int es1), (.long (x0 &&& (9223372036854775807 : Int64))), (.ref b38), (.ref b38)] (fun t k => XS.sipush X38.here hx rfl (hb hby at_166) k) ?_
              refine own_go T38 m 170 #[.val (.long x0), .second, iv x1, .val (.long x2), .second, .val (.long x3), .second, .val (.long x4), .second, iv x5, iv es1, iv es2, .val (.long v12), .second, iv v14, .val (.long v15), .second, iv kd, rv b4, rv b7, .unset, .unset, .unset, .unset] [(.int (es1 &&& (32767 : Int32))), (.long (x0 &&& (9223372036854775807 : Int64))), (.ref b38), (.ref b38)] (fun t k => XS.iand X38.here hx rfl (hb hby at_169) rfl k) ?_
              refine own_go T38 m 171 #[.val (.long x0), .second, iv x1, .val (.long x2), .second, .val (.long x3), .second, .val (.long x4), .second, iv x5, iv es1, iv es2, .val (.long v12), .second, iv v14, .val (.long v15), .second, iv kd, rv b4, rv b7, .unset, .unset, .unset, .unset] [(.int (es1 &&& (32767 : Int32)).toInt16.toInt32), (.long (x0 &&& (9223372036854775807 : Int64))), (.ref b38), (.ref b38)] (fun t k => XS.i2s X38.here hx rfl (hb hby at_170) rfl k) ?_
              obtain ⟨_, T47, L47, X47, ⟨rfl, Nq47, Kq47, Aq47, Fq47_0, Fq47_1⟩, st47⟩ := own_init X38 hx hZ (y := (⟨"com/example/semel/semel/producer/ProducerInstance", "<init>", "(JS)V"⟩ : MethodName)) rfl hown (own_w hw 26 rfl) (own_w hw 27 rfl) (own_w hw 24 rfl) (own_w hw 28 rfl) (by decide) (rm4 l Z a0 hw [] b38 (x0 &&& (9223372036854775807 : Int64)) (es1 &&& (32767 : Int32)).toInt16.toInt32 h38 n0 Z_38 A38 g_b38 F_producerId_38 F_epoch_38 ) e38 (a := b38) 1 (argsL := [(.long (x0 &&& (9223372036854775807 : Int64))), (.int (es1 &&& (32767 : Int32)).toInt16.toInt32)]) (rest := [(.ref b38)]) (Ls := #[.val (.long x0), .second, iv x1, .val (.long x2), .second, .val (.long x3), .second, .val (.long x4), .second, iv x5, iv es1, iv es2, .val (.long v12), .second, iv v14, .val (.long v15), .second, iv kd, rv b4, rv b7, .unset, .unset, .unset, .unset]) (by rw [hml]; rfl) (lenOf pd__JS_V rfl) rfl rfl (Nat.le_of_eq rfl) (hb hby at_171) (by decide) (by decide) (by decide) (by decide)
              have N47 := Fr.app N12 Nq47
              have cf48 := cf39.keep Kq47
              have cf49 := cf40.keep Kq47 (ninS ne_b4_b38 nin0)
              have cf50 := cf41.keep Kq47 (ninS ne_b4_b38 nin0)
              have cf51 := cf42.keep Kq47 (ninS ne_b4_b38 nin0)
              have cf52 := cf43.keep Kq47
              have cf53 := cf44.keep Kq47 (ninS ne_b7_b38 nin0)
              have cf54 := cf45.keep Kq47 (ninS ne_b7_b38 nin0)
              have cf55 := cf46.keep Kq47 (ninS ne_b7_b38 nin0)
              have cf56 := A38.keep Kq47
              have Z_47 : n0 ≤ T47.heap.size := Nat.le_trans Z_38 Kq47.1
              refine own_go T47 m 174 #[.val (.long x0), .second, iv x1, .val (.long x2), .second, .val (.long x3), .second, .val (.long x4), .second, iv x5, iv es1, iv es2, .val (.long v12), .second, iv v14, .val (.long v15), .second, iv kd, rv b4, rv b7, .unset, .unset, .unset, .unset] [(.ref b38)] (st47) ?_
              refine own_go T47 m 176 #[.val (.long x0), .second, iv x1, .val (.long x2), .second, .val (.long x3), .second, .val (.long x4), .second, iv x5, iv es1, iv es2, .val (.long v12), .second, iv v14, .val (.long v15), .second, iv kd, rv b4, rv b7, rv b38, .unset, .unset, .unset] [] (fun t k => XS.astore X47.here hx rfl (hb hby at_174) rfl rfl rfl k) ?_
              refine own_go T47 m 177 #[.val (.long x0), .second, iv x1, .val (.long x2), .second, .val (.long x3), .second, .val (.long x4), .second, iv x5, iv es1, iv es2, .val (.long v12), .second, iv v14, .val (.long v15), .second, iv kd, rv b4, rv b7, rv b38, .unset, .unset, .unset] [(.int 0)] (fun t k => XS.iconst X47.here hx rfl (hb hby at_176) k) ?_
              refine own_go T47 m 179 #[.val (.long x0), .second, iv x1, .val (.long x2), .second, .val (.long x3), .second, .val (.long x4), .second, iv x5, iv es1, iv es2, .val (.long v12), .second, iv v14, .val (.long v15), .second, iv kd, rv b4, rv b7, rv b38, iv 0, .unset, .unset] [] (fun t k => XS.istore X47.here hx rfl (hb hby at_177) rfl rfl k) ?_
              refine own_go T47 m 189 #[.val (.long x0), .second, iv x1, .val (.long x2), .second, .val (.long x3), .second, .val (.long x4), .second, iv x5, iv es1, iv es2, .val (.long v12), .second, iv v14, .val (.long v15), .second, iv kd, rv b4, rv b7, rv b38, iv 0, .unset, .unset] [] (fun t k => XS.goto X47.here hx rfl (pc0 := 179) (pc' := 189) rfl (hb hby at_179) (by decide) (by decide) k) ?_
              refine own_go T47 m 191 #[.val (.long x0), .second, iv x1, .val (.long x2), .second, .val (.long x3), .second, .val (.long x4), .second, iv x5, iv es1, iv es2, .val (.long v12), .second, iv v14, .val (.long v15), .second, iv kd, rv b4, rv b7, rv b38, iv 0, .unset, .unset] [(.ref b4)] (fun t k => XS.aload X47.here hx rfl (hb hby at_189) rfl rfl k) ?_
              refine own_go T47 m 193 #[.val (.long x0), .second, iv x1, .val (.long x2), .second, .val (.long x3), .second, .val (.long x4), .second, iv x5, iv es1, iv es2, .val (.long v12), .second, iv v14, .val (.long v15), .second, iv kd, rv b4, rv b7, rv b38, iv 0, .unset, .unset] [(.ref b38), (.ref b4)] (fun t k => XS.aload X47.here hx rfl (hb hby at_191) rfl rfl k) ?_
              obtain ⟨_, T57, L57, X57, ⟨rfl, e57, rfl⟩, st57⟩ := own_virtual X47 hx hZ (y := (⟨"com/example/semel/semel/log/OpenTransaction", "equals", "(Ljava/lang/Object;)Z"⟩ : MethodName)) (z := (⟨"com/example/semel/semel/log/OpenTransaction", "equals", "(Ljava/lang/Object;)Z"⟩ : MethodName)) hown (own_w hw 15 rfl) (own_w hw 16 rfl) (notFace_of_selects (args := #[]) (mvT hZ (own_w hw 18 rfl))) (own_w hw 18 rfl) (own_w hw 17 rfl) (own_w hw 2 rfl) (own_w hw 19 rfl) (by decide) (rmEc0 l Z a0 hw [] b4 b38 T47.heap Aq47) rfl cf48 0 (argsL := [(.ref b38)]) (rest := []) (Ls := #[.val (.long x0), .second, iv x1, .val (.long x2), .second, .val (.long x3), .second, .val (.long x4), .second, iv x5, iv es1, iv es2, .val (.long v12), .second, iv v14, .val (.long v15), .second, iv kd, rv b4, rv b7, rv b38, iv 0, .unset, .unset]) (by rw [hml]; rfl) (lenOf pd__Ljava_lang_Object__Z rfl) rfl rfl (Nat.le_of_eq rfl) (hb hby at_193) (by decide) (by decide) (by decide) (by decide)
              replace X57 := own_nil X57
              refine own_go T57 m 196 #[.val (.long x0), .second, iv x1, .val (.long x2), .second, .val (.long x3), .second, .val (.long x4), .second, iv x5, iv es1, iv es2, .val (.long v12), .second, iv v14, .val (.long v15), .second, iv kd, rv b4, rv b7, rv b38, iv 0, .unset, .unset] [(.int 0)] (st57) ?_
              refine own_go T57 m 198 #[.val (.long x0), .second, iv x1, .val (.long x2), .second, .val (.long x3), .second, .val (.long x4), .second, iv x5, iv es1, iv es2, .val (.long v12), .second, iv v14, .val (.long v15), .second, iv kd, rv b4, rv b7, rv b38, iv 0, iv 0, .unset] [] (fun t k => XS.istore X57.here hx rfl (hb hby at_196) rfl rfl k) ?_
              refine own_go T57 m 200 #[.val (.long x0), .second, iv x1, .val (.long x2), .second, .val (.long x3), .second, .val (.long x4), .second, iv x5, iv es1, iv es2, .val (.long v12), .second, iv v14, .val (.long v15), .second, iv kd, rv b4, rv b7, rv b38, iv 0, iv 0, .unset] [(.int kd)] (fun t k => XS.iload X57.here hx rfl (hb hby at_198) rfl k) ?_
              refine own_go T57 m 223 #[.val (.long x0), .second, iv x1, .val (.long x2), .second, .val (.long x3), .second, .val (.long x4), .second, iv x5, iv es1, iv es2, .val (.long v12), .second, iv v14, .val (.long v15), .second, iv kd, rv b4, rv b7, rv b38, iv 0, iv 0, .unset] [] (fun t k => XS.ifYes X57.here hx rfl (pc0 := 200) (pc' := 223) rfl (hb hby at_200) rfl ((if0 _ _).trans (feq hc96_18).2) (by decide) (by decide) k) ?_
              refine own_go T57 m 224 #[.val (.long x0), .second, iv x1, .val (.long x2), .second, .val (.long x3), .second, .val (.long x4), .second, iv x5, iv es1, iv es2, .val (.long v12), .second, iv v14, .val (.long v15), .second, iv kd, rv b4, rv b7, rv b38, iv 0, iv 0, .unset] [(.int 1)] (fun t k => XS.iconst X57.here hx rfl (hb hby at_223) k) ?_
              refine own_go T57 m 226 #[.val (.long x0), .second, iv x1, .val (.long x2), .second, .val (.long x3), .second, .val (.long x4), .second, iv x5, iv es1, iv es2, .val (.long v12), .second, iv v14, .val (.long v15), .second, iv kd, rv b4, rv b7, rv b38, iv 0, iv 0, iv 1] [] (fun t k => XS.istore X57.here hx rfl (hb hby at_224) rfl rfl k) ?_
              refine own_go T57 m 228 #[.val (.long x0), .second, iv x1, .val (.long x2), .second, .val (.long x3), .second, .val (.long x4), .second, iv x5, iv es1, iv es2, .val (.long v12), .second, iv v14, .val (.long v15), .second, iv kd, rv b4, rv b7, rv b38, iv 0, iv 0, iv 1] [(.int 0)] (fun t k => XS.iload X57.here hx rfl (hb hby at_226) rfl k) ?_
              refine own_go T57 m 230 #[.val (.long x0), .second, iv x1, .val (.long x2), .second, .val (.long x3), .second, .val (.long x4), .second, iv x5, iv es1, iv es2, .val (.long v12), .second, iv v14, .val (.long v15), .second, iv kd, rv b4, rv b7, rv b38, iv 0, iv 0, iv 1] [(.int 0), (.int 0)] (fun t k => XS.iload X57.here hx rfl (hb hby at_228) rfl k) ?_
              refine own_go T57 m 233 #[.val (.long x0), .second, iv x1, .val (.long x2), .second, .val (.long x3), .second, .val (.long x4), .second, iv x5, iv es1, iv es2, .val (.long v12), .second, iv v14, .val (.long v15), .second, iv kd, rv b4, rv b7, rv b38, iv 0, iv 0, iv 1] [] (fun t k => XS.icmpNo X57.here hx rfl (hb hby at_230) rfl (teq (by decide)).2 k) ?_
              refine own_go T57 m 235 #[.val (.long x0), .second, iv x1, .val (.long x2), .second, .val (.long x3), .second, .val (.long x4), .second, iv x5, iv es1, iv es2, .val (.long v12), .second, iv v14, .val (.long v15), .second, iv kd, rv b4, rv b7, rv b38, iv 0, iv 0, iv 1] [(.int 1)] (fun t k => XS.iload X57.here hx rfl (hb hby at_233) rfl k) ?_
              refine own_go T57 m 238 #[.val (.long x0), .second, iv x1, .val (.long x2), .second, .val (.long x3), .second, .val (.long x4), .second, iv x5, iv es1, iv es2, .val (.long v12), .second, iv v14, .val (.long v15), .second, iv kd, rv b4, rv b7, rv b38, iv 0, iv 0, iv 1] [] (fun t k => XS.ifNo X57.here hx rfl (hb hby at_235) rfl ((if0 _ _).trans (feq (by decide)).1) k) ?_
              refine own_go T57 m 240 #[.val (.long x0), .second, iv x1, .val (.long x2), .second, .val (.long x3), .second, .val (.long x4), .second, iv x5, iv es1, iv es2, .val (.long v12), .second, iv v14, .val (.long v15), .second, iv kd, rv b4, rv b7, rv b38, iv 0, iv 0, iv 1] [(.ref b4)] (fun t k => XS.aload X57.here hx rfl (hb hby at_238) rfl rfl k) ?_
              refine own_go T57 m 242 #[.val (.long x0), .second, iv x1, .val (.long x2), .second, .val (.long x3), .second, .val (.long x4), .second, iv x5, iv es1, iv es2, .val (.long v12), .second, iv v14, .val (.long v15), .second, iv kd, rv b4, rv b7, rv b38, iv 0, iv 0, iv 1] [(.ref b4), (.ref b4)] (fun t k => XS.aload X57.here hx rfl (hb hby at_240) rfl rfl k) ?_
              obtain ⟨_, T58, L58, X58, ⟨rfl, e58, rfl⟩, st58⟩ := own_virtual X57 hx hZ (y := (⟨"com/example/semel/semel/log/OpenTransaction", "equals", "(Ljava/lang/Object;)Z"⟩ : MethodName)) (z := (⟨"com/example/semel/semel/log/OpenTransaction", "equals", "(Ljava/lang/Object;)Z"⟩ : MethodName)) hown (own_w hw 15 rfl) (own_w hw 16 rfl) (notFace_of_selects (args := #[]) (mvT hZ (own_w hw 18 rfl))) (own_w hw 18 rfl) (own_w hw 17 rfl) (own_w hw 2 rfl) (own_w hw 19 rfl) (by decide) (rmEb l Z a0 hw [] b4 b4 x0 es1 x2 x0 es1 x2 T47.heap cf49 cf50 cf51 cf49 cf50 cf51 cf48) e57 cf48 0 (argsL := [(.ref b4)]) (rest := []) (Ls := #[.val (.long x0), .second, iv x1, .val (.long x2), .second, .val (.long x3), .second, .val (.long x4), .second, iv x5, iv es1, iv es2, .val (.long v12), .second, iv v14, .val (.long v15), .second, iv kd, rv b4, rv b7, rv b38, iv 0, iv 0, iv 1]) (by rw [hml]; rfl) (lenOf pd__Ljava_lang_Object__Z rfl) rfl rfl (Nat.le_of_eq rfl) (hb hby at_242) (by decide) (by decide) (by decide) (by decide)
              replace X58 := own_nil X58
              refine own_go T58 m 245 #[.val (.long x0), .second, iv x1, .val (.long x2), .second, .val (.long x3), .second, .val (.long x4), .second, iv x5, iv es1, iv es2, .val (.long v12), .second, iv v14, .val (.long v15), .second, iv kd, rv b4, rv b7, rv b38, iv 0, iv 0, iv 1] [(.int (own_eq x0 es1 x2 x0 es1 x2))] (st58) ?_
              rw [show (own_eq x0 es1 x2 x0 es1 x2) = (1 : Int32) from by simp [own_eq]]
              refine own_go T58 m 248 #[.val (.long x0), .second, iv x1, .val (.long x2), .second, .val (.long x3), .second, .val (.long x4), .second, iv x5, iv es1, iv es2, .val (.long v12), .second, iv v14, .val (.long v15), .second, iv kd, rv b4, rv b7, rv b38, iv 0, iv 0, iv 1] [] (fun t k => XS.ifNo X58.here hx rfl (hb hby at_245) rfl ((if0 _ _).trans (feq (by decide)).1) k) ?_
              refine own_go T58 m 249 #[.val (.long x0), .second, iv x1, .val (.long x2), .second, .val (.long x3), .second, .val (.long x4), .second, iv x5, iv es1, iv es2, .val (.long v12), .second, iv v14, .val (.long v15), .second, iv kd, rv b4, rv b7, rv b38, iv 0, iv 0, iv 1] [(.int 1)] (fun t k => XS.iconst X58.here hx rfl (hb hby at_248) k) ?_
              refine own_go T58 m 253 #[.val (.long x0), .second, iv x1, .val (.long x2), .second, .val (.long x3), .second, .val (.long x4), .second, iv x5, iv es1, iv es2, .val (.long v12), .second, iv v14, .val (.long v15), .second, iv kd, rv b4, rv b7, rv b38, iv 0, iv 0, iv 1] [(.int 1)] (fun t k => XS.goto X58.here hx rfl (pc0 := 249) (pc' := 253) rfl (hb hby at_249) (by decide) (by decide) k) ?_
              refine own_retZ X58 hx hlk hret (by decide) (hb hby at_253) (by decide) (by decide) ?_
              exact ⟨rfl, N47⟩
            · refine own_go T12 m 182 #[.val (.long x0), .second, iv x1, .val (.long x2), .second, .val (.long x3), .second, .val (.long x4), .second, iv x5, iv es1, iv es2, .val (.long v12), .second, iv v14, .val (.long v15), .second, iv kd, rv b4, rv b7, .unset, .unset, .unset, .unset] [] (fun t k => XS.icmpYes X12.here hx rfl (pc0 := 152) (pc' := 182) rfl (hb hby at_152) rfl (feq hc152_37).2 (by decide) (by decide) k) ?_
              refine own_go T12 m 184 #[.val (.long x0), .second, iv x1, .val (.long x2), .second, .val (.long x3), .second, .val (.long x4), .second, iv x5, iv es1, iv es2, .val (.long v12), .second, iv v14, .val (.long v15), .second, iv kd, rv b4, rv b7, .unset, .unset, .unset, .unset] [(.ref b4)] (fun t k => XS.aload X12.here hx rfl (hb hby at_182) rfl rfl k) ?_
              refine own_go T12 m 186 #[.val (.long x0), .second, iv x1, .val (.long x2), .second, .val (.long x3), .second, .val (.long x4), .second, iv x5, iv es1, iv es2, .val (.long v12), .second, iv v14, .val (.long v15), .second, iv kd, rv b4, rv b7, rv b4, .unset, .unset, .unset] [] (fun t k => XS.astore X12.here hx rfl (hb hby at_184) rfl rfl rfl k) ?_
              refine own_go T12 m 187 #[.val (.long x0), .second, iv x1, .val (.long x2), .second, .val (.long x3), .second, .val (.long x4), .second, iv x5, iv es1, iv es2, .val (.long v12), .second, iv v14, .val (.long v15), .second, iv kd, rv b4, rv b7, rv b4, .unset, .unset, .unset] [(.int 1)] (fun t k => XS.iconst X12.here hx rfl (hb hby at_186) k) ?_
              refine own_go T12 m 189 #[.val (.long x0), .second, iv x1, .val (.long x2), .second, .val (.long x3), .second, .val (.long x4), .second, iv x5, iv es1, iv es2, .val (.long v12), .second, iv v14, .val (.long v15), .second, iv kd, rv b4, rv b7, rv b4, iv 1, .unset, .unset] [] (fun t k => XS.istore X12.here hx rfl (hb hby at_187) rfl rfl k) ?_
              refine own_go T12 m 191 #[.val (.long x0), .second, iv x1, .val (.long x2), .second, .val (.long x3), .second, .val (.long x4), .second, iv x5, iv es1, iv es2, .val (.long v12), .second, iv v14, .val (.long v15), .second, iv kd, rv b4, rv b7, rv b4, iv 1, .unset, .unset] [(.ref b4)] (fun t k => XS.aload X12.here hx rfl (hb hby at_189) rfl rfl k) ?_
              refine own_go T12 m 193 #[.val (.long x0), .second, iv x1, .val (.long x2), .second, .val (.long x3), .second, .val (.long x4), .second, iv x5, iv es1, iv es2, .val (.long v12), .second, iv v14, .val (.long v15), .second, iv kd, rv b4, rv b7, rv b4, iv 1, .unset, .unset] [(.ref b4), (.ref b4)] (fun t k => XS.aload X12.here hx rfl (hb hby at_191) rfl rfl k) ?_
              obtain ⟨_, T59, L59, X59, ⟨rfl, e59, rfl⟩, st59⟩ := own_virtual X12 hx hZ (y := (⟨"com/example/semel/semel/log/OpenTransaction", "equals", "(Ljava/lang/Object;)Z"⟩ : MethodName)) (z := (⟨"com/example/semel/semel/log/OpenTransaction", "equals", "(Ljava/lang/Object;)Z"⟩ : MethodName)) hown (own_w hw 15 rfl) (own_w hw 16 rfl) (notFace_of_selects (args := #[]) (mvT hZ (own_w hw 18 rfl))) (own_w hw 18 rfl) (own_w hw 17 rfl) (own_w hw 2 rfl) (own_w hw 19 rfl) (by decide) (rmEb l Z a0 hw [] b4 b4 x0 es1 x2 x0 es1 x2 T12.heap cf14 cf15 cf16 cf14 cf15 cf16 cf13) rfl cf13 0 (argsL := [(.ref b4)]) (rest := []) (Ls := #[.val (.long x0), .second, iv x1, .val (.long x2), .second, .val (.long x3), .second, .val (.long x4), .second, iv x5, iv es1, iv es2, .val (.long v12), .second, iv v14, .val (.long v15), .second, iv kd, rv b4, rv b7, rv b4, iv 1, .unset, .unset]) (by rw [hml]; rfl) (lenOf pd__Ljava_lang_Object__Z rfl) rfl rfl (Nat.le_of_eq rfl) (hb hby at_193) (by decide) (by decide) (by decide) (by decide)
              replace X59 := own_nil X59
              refine own_go T59 m 196 #[.val (.long x0), .second, iv x1, .val (.long x2), .second, .val (.long x3), .second, .val (.long x4), .second, iv x5, iv es1, iv es2, .val (.long v12), .second, iv v14, .val (.long v15), .second, iv kd, rv b4, rv b7, rv b4, iv 1, .unset, .unset] [(.int (own_eq x0 es1 x2 x0 es1 x2))] (st59) ?_
              rw [show (own_eq x0 es1 x2 x0 es1 x2) = (1 : Int32) from by simp [own_eq]]
              refine own_go T59 m 198 #[.val (.long x0), .second, iv x1, .val (.long x2), .second, .val (.long x3), .second, .val (.long x4), .second, iv x5, iv es1, iv es2, .val (.long v12), .second, iv v14, .val (.long v15), .second, iv kd, rv b4, rv b7, rv b4, iv 1, iv 1, .unset] [] (fun t k => XS.istore X59.here hx rfl (hb hby at_196) rfl rfl k) ?_
              refine own_go T59 m 200 #[.val (.long x0), .second, iv x1, .val (.long x2), .second, .val (.long x3), .second, .val (.long x4), .second, iv x5, iv es1, iv es2, .val (.long v12), .second, iv v14, .val (.long v15), .second, iv kd, rv b4, rv b7, rv b4, iv 1, iv 1, .unset] [(.int kd)] (fun t k => XS.iload X59.here hx rfl (hb hby at_198) rfl k) ?_
              refine own_go T59 m 223 #[.val (.long x0), .second, iv x1, .val (.long x2), .second, .val (.long x3), .second, .val (.long x4), .second, iv x5, iv es1, iv es2, .val (.long v12), .second, iv v14, .val (.long v15), .second, iv kd, rv b4, rv b7, rv b4, iv 1, iv 1, .unset] [] (fun t k => XS.ifYes X59.here hx rfl (pc0 := 200) (pc' := 223) rfl (hb hby at_200) rfl ((if0 _ _).trans (feq hc96_18).2) (by decide) (by decide) k) ?_
              refine own_go T59 m 224 #[.val (.long x0), .second, iv x1, .val (.long x2), .second, .val (.long x3), .second, .val (.long x4), .second, iv x5, iv es1, iv es2, .val (.long v12), .second, iv v14, .val (.long v15), .second, iv kd, rv b4, rv b7, rv b4, iv 1, iv 1, .unset] [(.int 1)] (fun t k => XS.iconst X59.here hx rfl (hb hby at_223) k) ?_
              refine own_go T59 m 226 #[.val (.long x0), .second, iv x1, .val (.long x2), .second, .val (.long x3), .second, .val (.long x4), .second, iv x5, iv es1, iv es2, .val (.long v12), .second, iv v14, .val (.long v15), .second, iv kd, rv b4, rv b7, rv b4, iv 1, iv 1, iv 1] [] (fun t k => XS.istore X59.here hx rfl (hb hby at_224) rfl rfl k) ?_
              refine own_go T59 m 228 #[.val (.long x0), .second, iv x1, .val (.long x2), .second, .val (.long x3), .second, .val (.long x4), .second, iv x5, iv es1, iv es2, .val (.long v12), .second, iv v14, .val (.long v15), .second, iv kd, rv b4, rv b7, rv b4, iv 1, iv 1, iv 1] [(.int 1)] (fun t k => XS.iload X59.here hx rfl (hb hby at_226) rfl k) ?_
              refine own_go T59 m 230 #[.val (.long x0), .second, iv x1, .val (.long x2), .second, .val (.long x3), .second, .val (.long x4), .second, iv x5, iv es1, iv es2, .val (.long v12), .second, iv v14, .val (.long v15), .second, iv kd, rv b4, rv b7, rv b4, iv 1, iv 1, iv 1] [(.int 1), (.int 1)] (fun t k => XS.iload X59.here hx rfl (hb hby at_228) rfl k) ?_
              refine own_go T59 m 233 #[.val (.long x0), .second, iv x1, .val (.long x2), .second, .val (.long x3), .second, .val (.long x4), .second, iv x5, iv es1, iv es2, .val (.long v12), .second, iv v14, .val (.long v15), .second, iv kd, rv b4, rv b7, rv b4, iv 1, iv 1, iv 1] [] (fun t k => XS.icmpNo X59.here hx rfl (hb hby at_230) rfl (teq (by decide)).2 k) ?_
              refine own_go T59 m 235 #[.val (.long x0), .second, iv x1, .val (.long x2), .second, .val (.long x3), .second, .val (.long x4), .second, iv x5, iv es1, iv es2, .val (.long v12), .second, iv v14, .val (.long v15), .second, iv kd, rv b4, rv b7, rv b4, iv 1, iv 1, iv 1] [(.int 1)] (fun t k => XS.iload X59.here hx rfl (hb hby at_233) rfl k) ?_
              refine own_go T59 m 238 #[.val (.long x0), .second, iv x1, .val (.long x2), .second, .val (.long x3), .second, .val (.long x4), .second, iv x5, iv es1, iv es2, .val (.long v12), .second, iv v14, .val (.long v15), .second, iv kd, rv b4, rv b7, rv b4, iv 1, iv 1, iv 1] [] (fun t k => XS.ifNo X59.here hx rfl (hb hby at_235) rfl ((if0 _ _).trans (feq (by decide)).1) k) ?_
              refine own_go T59 m 240 #[.val (.long x0), .second, iv x1, .val (.long x2), .second, .val (.long x3), .second, .val (.long x4), .second, iv x5, iv es1, iv es2, .val (.long v12), .second, iv v14, .val (.long v15), .second, iv kd, rv b4, rv b7, rv b4, iv 1, iv 1, iv 1] [(.ref b4)] (fun t k => XS.aload X59.here hx rfl (hb hby at_238) rfl rfl k) ?_
              refine own_go T59 m 242 #[.val (.long x0), .second, iv x1, .val (.long x2), .second, .val (.long x3), .second, .val (.long x4), .second, iv x5, iv es1, iv es2, .val (.long v12), .second, iv v14, .val (.long v15), .second, iv kd, rv b4, rv b7, rv b4, iv 1, iv 1, iv 1] [(.ref b4), (.ref b4)] (fun t k => XS.aload X59.here hx rfl (hb hby at_240) rfl rfl k) ?_
              obtain ⟨_, T60, L60, X60, ⟨rfl, e60, rfl⟩, st60⟩ := own_virtual X59 hx hZ (y := (⟨"com/example/semel/semel/log/OpenTransaction", "equals", "(Ljava/lang/Object;)Z"⟩ : MethodName)) (z := (⟨"com/example/semel/semel/log/OpenTransaction", "equals", "(Ljava/lang/Object;)Z"⟩ : MethodName)) hown (own_w hw 15 rfl) (own_w hw 16 rfl) (notFace_of_selects (args := #[]) (mvT hZ (own_w hw 18 rfl))) (own_w hw 18 rfl) (own_w hw 17 rfl) (own_w hw 2 rfl) (own_w hw 19 rfl) (by decide) (rmEb l Z a0 hw [] b4 b4 x0 es1 x2 x0 es1 x2 T12.heap cf14 cf15 cf16 cf14 cf15 cf16 cf13) e59 cf13 0 (argsL := [(.ref b4)]) (rest := []) (Ls := #[.val (.long x0), .second, iv x1, .val (.long x2), .second, .val (.long x3), .second, .val (.long x4), .second, iv x5, iv es1, iv es2, .val (.long v12), .second, iv v14, .val (.long v15), .second, iv kd, rv b4, rv b7, rv b4, iv 1, iv 1, iv 1]) (by rw [hml]; rfl) (lenOf pd__Ljava_lang_Object__Z rfl) rfl rfl (Nat.le_of_eq rfl) (hb hby at_242) (by decide) (by decide) (by decide) (by decide)
              replace X60 := own_nil X60
              refine own_go T60 m 245 #[.val (.long x0), .second, iv x1, .val (.long x2), .second, .val (.long x3), .second, .val (.long x4), .second, iv x5, iv es1, iv es2, .val (.long v12), .second, iv v14, .val (.long v15), .second, iv kd, rv b4, rv b7, rv b4, iv 1, iv 1, iv 1] [(.int (own_eq x0 es1 x2 x0 es1 x2))] (st60) ?_
              rw [show (own_eq x0 es1 x2 x0 es1 x2) = (1 : Int32) from by simp [own_eq]]
              refine own_go T60 m 248 #[.val (.long x0), .second, iv x1, .val (.long x2), .second, .val (.long x3), .second, .val (.long x4), .second, iv x5, iv es1, iv es2, .val (.long v12), .second, iv v14, .val (.long v15), .second, iv kd, rv b4, rv b7, rv b4, iv 1, iv 1, iv 1] [] (fun t k => XS.ifNo X60.here hx rfl (hb hby at_245) rfl ((if0 _ _).trans (feq (by decide)).1) k) ?_
              refine own_go T60 m 249 #[.val (.long x0), .second, iv x1, .val (.long x2), .second, .val (.long x3), .second, .val (.long x4), .second, iv x5, iv es1, iv es2, .val (.long v12), .second, iv v14, .val (.long v15), .second, iv kd, rv b4, rv b7, rv b4, iv 1, iv 1, iv 1] [(.int 1)] (fun t k => XS.iconst X60.here hx rfl (hb hby at_248) k) ?_
              refine own_go T60 m 253 #[.val (.long x0), .second, iv x1, .val (.long x2), .second, .val (.long x3), .second, .val (.long x4), .second, iv x5, iv es1, iv es2, .val (.long v12), .second, iv v14, .val (.long v15), .second, iv kd, rv b4, rv b7, rv b4, iv 1, iv 1, iv 1] [(.int 1)] (fun t k => XS.goto X60.here hx rfl (pc0 := 249) (pc' := 253) rfl (hb hby at_249) (by decide) (by decide) k) ?_
              refine own_retZ X60 hx hlk hret (by decide) (hb hby at_253) (by decide) (by decide) ?_
              exact ⟨rfl, N12⟩
      by_cases hc47_61 : (x5 &&& (4 : Int32)) = (0 : Int32)
      · refine own_go T0 m 54 #[.val (.long x0), .second, iv x1, .val (.long x2), .second, .val (.long x3), .second, .val (.long x4), .second, iv x5, iv es1, iv es2, .val (.long v12), .second, iv v14, .unset, .unset, .unset, .unset, .unset, .unset, .unset, .unset, .unset] [] (fun t k => XS.ifYes X0.here hx rfl (pc0 := 47) (pc' := 54) rfl (hb hby at_47) rfl ((if0 _ _).trans (teq hc47_61).1) (by decide) (by decide) k) ?_
        refine own_go T0 m 56 #[.val (.long x0), .second, iv x1, .val (.long x2), .second, .val (.long x3), .second, .val (.long x4), .second, iv x5, iv es1, iv es2, .val (.long v12), .second, iv v14, .unset, .unset, .unset, .unset, .unset, .unset, .unset, .unset, .unset] [(.long x4)] (fun t k => XS.lload X0.here hx rfl (hb hby at_54) rfl k) ?_
        refine own_go T0 m 58 #[.val (.long x0), .second, iv x1, .val (.long x2), .second, .val (.long x3), .second, .val (.long x4), .second, iv x5, iv es1, iv es2, .val (.long v12), .second, iv v14, .val (.long x4), .second, .unset, .unset, .unset, .unset, .unset, .unset, .unset] [] (fun t k => XS.lstore X0.here hx rfl (hb hby at_56) rfl rfl k) ?_
        exact seg58 x4
      · refine own_go T0 m 50 #[.val (.long x0), .second, iv x1, .val (.long x2), .second, .val (.long x3), .second, .val (.long x4), .second, iv x5, iv es1, iv es2, .val (.long v12), .second, iv v14, .unset, .unset, .unset, .unset, .unset, .unset, .unset, .unset, .unset] [] (fun t k => XS.ifNo X0.here hx rfl (hb hby at_47) rfl ((if0 _ _).trans (feq hc47_61).1) k) ?_
        refine own_go T0 m 51 #[.val (.long x0), .second, iv x1, .val (.long x2), .second, .val (.long x3), .second, .val (.long x4), .second, iv x5, iv es1, iv es2, .val (.long v12), .second, iv v14, .unset, .unset, .unset, .unset, .unset, .unset, .unset, .unset, .unset] [(.long x2)] (fun t k => XS.lloadN X0.here hx rfl (hb hby at_50) rfl k) ?_
        refine own_go T0 m 56 #[.val (.long x0), .second, iv x1, .val (.long x2), .second, .val (.long x3), .second, .val (.long x4), .second, iv x5, iv es1, iv es2, .val (.long v12), .second, iv v14, .unset, .unset, .unset, .unset, .unset, .unset, .unset, .unset, .unset] [(.long x2)] (fun t k => XS.goto X0.here hx rfl (pc0 := 51) (pc' := 56) rfl (hb hby at_51) (by decide) (by decide) k) ?_
        refine own_go T0 m 58 #[.val (.long x0), .second, iv x1, .val (.long x2), .second, .val (.long x3), .second, .val (.long x4), .second, iv x5, iv es1, iv es2, .val (.long v12), .second, iv v14, .val (.long x2), .second, .unset, .unset, .unset, .unset, .unset, .unset, .unset] [] (fun t k => XS.lstore X0.here hx rfl (hb hby at_56) rfl rfl k) ?_
        exact seg58 x2
    by_cases hc31_62 : (x5 &&& (2 : Int32)) = (0 : Int32)
    · refine own_go T0 m 39 #[.val (.long x0), .second, iv x1, .val (.long x2), .second, .val (.long x3), .second, .val (.long x4), .second, iv x5, iv es1, iv es2, .val (.long v12), .second, .unset, .unset, .unset, .unset, .unset, .unset, .unset, .unset, .unset, .unset] [] (fun t k => XS.ifYes X0.here hx rfl (pc0 := 31) (pc' := 39) rfl (hb hby at_31) rfl ((if0 _ _).trans (teq hc31_62).1) (by decide) (by decide) k) ?_
      refine own_go T0 m 41 #[.val (.long x0), .second, iv x1, .val (.long x2), .second, .val (.long x3), .second, .val (.long x4), .second, iv x5, iv es1, iv es2, .val (.long v12), .second, .unset, .unset, .unset, .unset, .unset, .unset, .unset, .unset, .unset, .unset] [(.int es2)] (fun t k => XS.iload X0.here hx rfl (hb hby at_39) rfl k) ?_
      refine own_go T0 m 43 #[.val (.long x0), .second, iv x1, .val (.long x2), .second, .val (.long x3), .second, .val (.long x4), .second, iv x5, iv es1, iv es2, .val (.long v12), .second, iv es2, .unset, .unset, .unset, .unset, .unset, .unset, .unset, .unset, .unset] [] (fun t k => XS.istore X0.here hx rfl (hb hby at_41) rfl rfl k) ?_
      exact seg43 es2 he2
    · refine own_go T0 m 34 #[.val (.long x0), .second, iv x1, .val (.long x2), .second, .val (.long x3), .second, .val (.long x4), .second, iv x5, iv es1, iv es2, .val (.long v12), .second, .unset, .unset, .unset, .unset, .unset, .unset, .unset, .unset, .unset, .unset] [] (fun t k => XS.ifNo X0.here hx rfl (hb hby at_31) rfl ((if0 _ _).trans (feq hc31_62).1) k) ?_
      refine own_go T0 m 36 #[.val (.long x0), .second, iv x1, .val (.long x2), .second, .val (.long x3), .second, .val (.long x4), .second, iv x5, iv es1, iv es2, .val (.long v12), .second, .unset, .unset, .unset, .unset, .unset, .unset, .unset, .unset, .unset, .unset] [(.int es1)] (fun t k => XS.iload X0.here hx rfl (hb hby at_34) rfl k) ?_
      refine own_go T0 m 41 #[.val (.long x0), .second, iv x1, .val (.long x2), .second, .val (.long x3), .second, .val (.long x4), .second, iv x5, iv es1, iv es2, .val (.long v12), .second, .unset, .unset, .unset, .unset, .unset, .unset, .unset, .unset, .unset, .unset] [(.int es1)] (fun t k => XS.goto X0.here hx rfl (pc0 := 36) (pc' := 41) rfl (hb hby at_36) (by decide) (by decide) k) ?_
      refine own_go T0 m 43 #[.val (.long x0), .second, iv x1, .val (.long x2), .second, .val (.long x3), .second, .val (.long x4), .second, iv x5, iv es1, iv es2, .val (.long v12), .second, iv es1, .unset, .unset, .unset, .unset, .unset, .unset, .unset, .unset, .unset] [] (fun t k => XS.istore X0.here hx rfl (hb hby at_41) rfl rfl k) ?_
      exact seg43 es1 he1
  by_cases hc16_63 : (x5 &&& (1 : Int32)) = (0 : Int32)
  · refine own_go T0 m 23 #[.val (.long x0), .second, iv x1, .val (.long x2), .second, .val (.long x3), .second, .val (.long x4), .second, iv x5, iv es1, iv es2, .unset, .unset, .unset, .unset, .unset, .unset, .unset, .unset, .unset, .unset, .unset, .unset] [] (fun t k => XS.ifYes X0.here hx rfl (pc0 := 16) (pc' := 23) rfl (hb hby at_16) rfl ((if0 _ _).trans (teq hc16_63).1) (by decide) (by decide) k) ?_
    refine own_go T0 m 25 #[.val (.long x0), .second, iv x1, .val (.long x2), .second, .val (.long x3), .second, .val (.long x4), .second, iv x5, iv es1, iv es2, .unset, .unset, .unset, .unset, .unset, .unset, .unset, .unset, .unset, .unset, .unset, .unset] [(.long x3)] (fun t k => XS.lload X0.here hx rfl (hb hby at_23) rfl k) ?_
    refine own_go T0 m 27 #[.val (.long x0), .second, iv x1, .val (.long x2), .second, .val (.long x3), .second, .val (.long x4), .second, iv x5, iv es1, iv es2, .val (.long x3), .second, .unset, .unset, .unset, .unset, .unset, .unset, .unset, .unset, .unset, .unset] [] (fun t k => XS.lstore X0.here hx rfl (hb hby at_25) rfl rfl k) ?_
    exact seg27 x3
  · refine own_go T0 m 19 #[.val (.long x0), .second, iv x1, .val (.long x2), .second, .val (.long x3), .second, .val (.long x4), .second, iv x5, iv es1, iv es2, .unset, .unset, .unset, .unset, .unset, .unset, .unset, .unset, .unset, .unset, .unset, .unset] [] (fun t k => XS.ifNo X0.here hx rfl (hb hby at_16) rfl ((if0 _ _).trans (feq hc16_63).1) k) ?_
    refine own_go T0 m 20 #[.val (.long x0), .second, iv x1, .val (.long x2), .second, .val (.long x3), .second, .val (.long x4), .second, iv x5, iv es1, iv es2, .unset, .unset, .unset, .unset, .unset, .unset, .unset, .unset, .unset, .unset, .unset, .unset] [(.long x0)] (fun t k => XS.lloadN X0.here hx rfl (hb hby at_19) rfl k) ?_
    refine own_go T0 m 25 #[.val (.long x0), .second, iv x1, .val (.long x2), .second, .val (.long x3), .second, .val (.long x4), .second, iv x5, iv es1, iv es2, .unset, .unset, .unset, .unset, .unset, .unset, .unset, .unset, .unset, .unset, .unset, .unset] [(.long x0)] (fun t k => XS.goto X0.here hx rfl (pc0 := 20) (pc' := 25) rfl (hb hby at_20) (by decide) (by decide) k) ?_
    refine own_go T0 m 27 #[.val (.long x0), .second, iv x1, .val (.long x2), .second, .val (.long x3), .second, .val (.long x4), .second, iv x5, iv es1, iv es2, .val (.long x0), .second, .unset, .unset, .unset, .unset, .unset, .unset, .unset, .unset, .unset, .unset] [] (fun t k => XS.lstore X0.here hx rfl (hb hby at_25) rfl rfl k) ?_
    exact seg27 x0
set_option maxRecDepth 65536 in
set_option maxHeartbeats 40000000 in
theorem comes_1 {Post : Tables → Env → Array Value → State → Outcome → State → Prop} (hpost : ∀ tb e args s v u, (limb_1_1.after args s (.returned v) u = true ∧ limb_1_2.after args s (.returned v) u = true ∧ True) → FrameEnd s (.returned v) u (Jvm.fieldLocs frame_1_writes args s ++ Jvm.arrayLocs frame_1_arrays args s ++ Jvm.staticLocs frame_1_statics s) 16 128 → Post tb e args s (.returned v) u) :
    ArmFor flags0 classFile x code maxLocals ret World_1 tables_1 room_1 Calls_1 rest_1 Pre_1 Post := by
  intro l hfl _ _ p e ha hc hk s m args below hf hA hF happ hP
  obtain ⟨hcalls, hrest, hpre⟩ := hP
  obtain ⟨-, -, -, hnamed, -, -, -, hat⟩ := (Spec.applies_iff hf).mp happ
  obtain ⟨hg, hn⟩ := and_e (Cond.before_iff.mp (show (Jvm.Cond.and given_1 narrow_1).before args s = true from hpre))
  obtain ⟨gg1, gg2⟩ := and_e hg
  obtain ⟨gg3, gg4⟩ := and_e gg2
  obtain ⟨gg5, gg6⟩ := and_e gg4
  obtain ⟨gg7, gg8⟩ := and_e gg6
  obtain ⟨gg9, gg10⟩ := and_e gg8
  obtain ⟨gg11, gg12⟩ := and_e gg10
  obtain ⟨w0, w1, w2, w3, w4, w5, rfl⟩ : ∃ w0 w1 w2 w3 w4 w5 : Value, args = #[w0, w1, w2, w3, w4, w5] := by
    have hs : args.size = 6 := by simpa [Cond.value, given_1] using gg1
    obtain ⟨L⟩ := args
    match L, hs with
    | [w0, w1, w2, w3, w4, w5], _ => exact ⟨w0, w1, w2, w3, w4, w5, rfl⟩
  have hw := fun d (hd : d ∈ tables_1) => atoms_spec (ws := Jvm.Cond.code x code maxLocals ret :: tables_1) hat d (List.mem_cons_of_mem _ hd)
  have hfit : Fit s := fun {y c} hc i hi => by
    obtain ⟨ha, rfl⟩ := Array.getElem?_eq_some_iff.mp hc
    have q := List.all_eq_true.mp ((Array.all_eq_true_iff_forall_mem.mp hF) _ (Array.getElem_mem ha)) i (List.mem_range.mpr hi)
    simpa [Array.getElem?_eq_getElem hi] using q
  obtain ⟨i0, ei0⟩ := isL_v gg3
  obtain rfl : w0 = (.long i0) := Option.some.inj ei0
  obtain ⟨i1, ei1⟩ := is_v gg5
  obtain rfl : w1 = (.int i1) := Option.some.inj ei1
  obtain ⟨i2, ei2⟩ := isL_v gg7
  obtain rfl : w2 = (.long i2) := Option.some.inj ei2
  obtain ⟨i3, ei3⟩ := isL_v gg9
  obtain rfl : w3 = (.long i3) := Option.some.inj ei3
  obtain ⟨i4, ei4⟩ := isL_v gg11
  obtain rfl : w4 = (.long i4) := Option.some.inj ei4
  obtain ⟨i5, ei5⟩ := is_v gg12
  obtain rfl : w5 = (.int i5) := Option.some.inj ei5
  obtain ⟨n, o, h1, h2, h3, _, L, rfl, ⟨rfl, N⟩, hq⟩ := rm0 l s _ hw tables_1 i0 i1 i2 i3 i4 i5 s.heap s.heap.size (Nat.le_refl _) p e ha hc hk s m _ below hf ((Spec.applies_iff_loose hf).mp happ).1 ⟨rfl, State.Warmed39.refl s, rfl⟩ trivial
  refine ⟨n, _, h1, h2, h3, hpost _ _ _ _ _ _ ⟨Cond.after_iff.mpr rfl, Cond.after_iff.mpr (eq_i res_at (Term.int_eval (1)) rfl), trivial⟩ ⟨hq.1, hq.2.1, (hq.2.2.sift fun y hy => Or.inr (N y hy)).mono (by decide) (by decide)⟩⟩
theorem main_1_1 : Claimed_1_1 := comes_1 fun _ _ _ _ _ _ h hF => ⟨h.1, hF⟩
theorem main_1_2 : Claimed_1_2 := comes_1 fun _ _ _ _ _ _ h hF => ⟨h.2.1, hF⟩
end Jvm.Pilot.@@N@@
namespace Jvm.Pilot.@@N@@
open Jvm Jvm.ClassFile Sem Op Lib Jvm.Free Jvm.Stand Jvm.Pilot.@@N@@.Jvm.D
/-! MADE BY PROGRAM (witnessworld.py) out of the Statement's table words and the real class files: 10 classes; the members and pool entries that the words name. The judged class is class 1, her method 1. -/
namespace start1
open Jvm.ClassFile
def u (s : String) : CpInfo := .utf8 (stringToUtf16 s)
/-- a pool by its gaps: so many unusable entries, then the entry; so many at the end -/
def gap : Nat → List CpInfo → List CpInfo
  | 0, r => r
  | n + 1, r => .unusable :: gap n r
def poolList (es : List (Nat × CpInfo)) (last : Nat) : List CpInfo := es.foldr (fun e r => gap e.1 (e.2 :: r)) (gap last [])
def pool (es : List (Nat × CpInfo)) (last : Nat) : Array CpInfo := ⟨poolList es last⟩
def fileOf (pool : Array CpInfo) (this : Nat) (attrs : Array Attribute := #[]) (ms : Array MethodInfo := #[]) (fl : Nat := 33) (sup : Nat := 0) (ifs : Array Nat := #[]) (fds : Array FieldInfo := #[]) : ClassFile where
  minorVersion := 0
  majorVersion := 65
  constantPool := pool
  accessFlags := fl
  thisClass := this
  superClass := sup
  interfaces := ifs
  fields := fds
  methods := ms
  attributes := attrs
def plain (name : String) (sup : Option ClassId) : Class where
  name := name
  kind := .ordinary
  loader := none
  accessFlags := 33
  super := sup
  interfaces := #[]
  cf := none
  fields := #[]
  methods := #[]
  instanceTypes := #[]
  staticTypes := #[]
  resolved := #[]
  callSites := []
  init := .initialized
  statics := none
  mirror := none

def pool0 : Array CpInfo := pool [(5, u "<init>"), (0, u "()V"), (1, .class_ 10), (1, u "java/lang/Object")] 113

def k0c0 : Code := { maxStack := 0, maxLocals := 1, code := object_method_1_code, exceptionTable := #[], attributes := #[] }
def k0m0 : Method := { name := "<init>", desc := "()V", sig := { parameters := [], returnType := none }, accessFlags := 1, code := some k0c0 }
/-- java/lang/Object -/
def k0 : Class := { plain "java/lang/Object" none with
  accessFlags := 33
  interfaces := #[]
  cf := some (fileOf pool0 8 #[] #[{ accessFlags := 1, nameIndex := 5, descriptorIndex := 6, attributes := #[] }] 33 0 #[] #[])
  fields := #[]
  methods := #[k0m0]
  instanceTypes := #[]
  staticTypes := #[]
  resolved := Array.replicate 124 none
  statics := none }

def pool1 : Array CpInfo := pool [(2, .class_ 4), (1, u "java/lang/Object"), (0, u "<init>"), (0, u "()V"), (0, .class_ 8), (0, u "com/example/semel/semel/log/OpenTransaction"), (0, .methodref 7 10), (0, .nameAndType 5 11), (0, u "(JSJ)V"), (0, .class_ 13), (0, u "com/example/semel/semel/producer/ProducerInstance"), (2, .long 9223372036854775807), (1, .methodref 12 19), (0, .nameAndType 5 20), (0, u "(JS)V"), (0, .methodref 7 22), (0, .nameAndType 23 24), (0, u "equals"), (0, u "(Ljava/lang/Object;)Z"), (0, .class_ 26), (0, u "com/example/semel/semel/log/OpenTransactionEqualsPinLaw"), (2, u "law"), (0, u "(JIJJJI)Z")] 3

def k1m0 : Method := { name := "<init>", desc := "()V", sig := { parameters := [], returnType := none }, accessFlags := 1, code := none }
def k1c1 : Code := { maxStack := 7, maxLocals := 24, code := code, exceptionTable := #[], attributes := #[] }
def k1m1 : Method := { name := "law", desc := "(JIJJJI)Z", sig := { parameters := [.long, .int, .long, .long, .long, .int], returnType := some .boolean }, accessFlags := 9, code := some k1c1 }
/-- com/example/semel/semel/log/OpenTransactionEqualsPinLaw -/
def k1 : Class := { plain "com/example/semel/semel/log/OpenTransactionEqualsPinLaw" (some 0) with
  accessFlags := 49
  interfaces := #[]
  cf := some (fileOf pool1 25 #[] #[{ accessFlags := 1, nameIndex := 5, descriptorIndex := 6, attributes := #[] }, { accessFlags := 9, nameIndex := 29, descriptorIndex := 30, attributes := #[] }] 49 2 #[] #[])
  fields := #[]
  methods := #[k1m0, k1m1]
  instanceTypes := #[]
  staticTypes := #[]
  resolved := Array.replicate 34 none
  statics := none }

def pool2 : Array CpInfo := pool [(1, .methodref 2 3), (0, .class_ 4), (0, .nameAndType 5 6), (0, u "java/lang/Object"), (0, u "<init>"), (0, u "()V"), (0, .fieldref 8 9), (0, .class_ 10), (0, .nameAndType 11 12), (0, u "com/example/semel/semel/log/OpenTransaction"), (0, u "producerId"), (0, u "J"), (0, .fieldref 8 14), (0, .nameAndType 15 16), (0, u "producerEpoch"), (0, u "S"), (0, .fieldref 8 18), (0, .nameAndType 19 12), (0, u "firstOffset"), (30, u "(JSJ)V"), (5, u "equals"), (0, u "(Ljava/lang/Object;)Z")] 21

def k2c0 : Code := { maxStack := 3, maxLocals := 6, code := prog_33_method_1_code, exceptionTable := #[], attributes := #[] }
def k2m0 : Method := { name := "<init>", desc := "(JSJ)V", sig := { parameters := [.long, .short, .long], returnType := none }, accessFlags := 0, code := some k2c0 }
def k2c1 : Code := { maxStack := 4, maxLocals := 3, code := prog_33_method_6_code, exceptionTable := #[], attributes := #[] }
def k2m1 : Method := { name := "equals", desc := "(Ljava/lang/Object;)Z", sig := { parameters := [(.object "java/lang/Object")], returnType := some .boolean }, accessFlags := 1, code := some k2c1 }
/-- com/example/semel/semel/log/OpenTransaction -/
def k2 : Class := { plain "com/example/semel/semel/log/OpenTransaction" (some 0) with
  accessFlags := 49
  interfaces := #[]
  cf := some (fileOf pool2 8 #[] #[{ accessFlags := 0, nameIndex := 5, descriptorIndex := 50, attributes := #[] }, { accessFlags := 1, nameIndex := 56, descriptorIndex := 57, attributes := #[] }] 49 2 #[] #[{ accessFlags := 18, nameIndex := 11, descriptorIndex := 12, attributes := #[] }, { accessFlags := 18, nameIndex := 15, descriptorIndex := 16, attributes := #[] }, { accessFlags := 18, nameIndex := 19, descriptorIndex := 12, attributes := #[] }])
  fields := #[{ name := "producerId", type := .long, accessFlags := 18, slot := 0, constantValue := 0 }, { name := "producerEpoch", type := .short, accessFlags := 18, slot := 1, constantValue := 0 }, { name := "firstOffset", type := .long, accessFlags := 18, slot := 2, constantValue := 0 }]
  methods := #[k2m0, k2m1]
  instanceTypes := #[.long, .short, .long]
  staticTypes := #[]
  resolved := Array.replicate 79 none
  statics := none }

def pool3 : Array CpInfo := pool [(1, .methodref 2 3), (0, .class_ 4), (0, .nameAndType 5 6), (0, u "java/lang/Object"), (0, u "<init>"), (0, u "()V"), (0, .fieldref 8 9), (0, .class_ 10), (0, .nameAndType 11 12), (0, u "com/example/semel/semel/producer/ProducerInstance"), (0, u "producerId"), (0, u "J"), (0, .fieldref 8 14), (0, .nameAndType 15 16), (0, u "epoch"), (0, u "S"), (17, u "(JS)V")] 11

def k3c0 : Code := { maxStack := 3, maxLocals := 4, code := prog_39_method_1_code, exceptionTable := #[], attributes := #[] }
def k3m0 : Method := { name := "<init>", desc := "(JS)V", sig := { parameters := [.long, .short], returnType := none }, accessFlags := 1, code := some k3c0 }
/-- com/example/semel/semel/producer/ProducerInstance -/
def k3 : Class := { plain "com/example/semel/semel/producer/ProducerInstance" (some 0) with
  accessFlags := 49
  interfaces := #[]
  cf := some (fileOf pool3 8 #[] #[{ accessFlags := 1, nameIndex := 5, descriptorIndex := 34, attributes := #[] }] 49 2 #[] #[{ accessFlags := 18, nameIndex := 11, descriptorIndex := 12, attributes := #[] }, { accessFlags := 18, nameIndex := 15, descriptorIndex := 16, attributes := #[] }])
  fields := #[{ name := "producerId", type := .long, accessFlags := 18, slot := 0, constantValue := 0 }, { name := "epoch", type := .short, accessFlags := 18, slot := 1, constantValue := 0 }]
  methods := #[k3m0]
  instanceTypes := #[.long, .short]
  staticTypes := #[]
  resolved := Array.replicate 46 none
  statics := none }

def pool4 : Array CpInfo := pool [(1, u "java/lang/Cloneable"), (0, .class_ 1), (0, u "java/lang/Object"), (0, .class_ 3)] 3

/-- java/lang/Cloneable -/
def k4 : Class := { plain "java/lang/Cloneable" (some 0) with
  accessFlags := 1537
  interfaces := #[]
  cf := some (fileOf pool4 2 #[] #[] 1537 4 #[] #[])
  fields := #[]
  methods := #[]
  instanceTypes := #[]
  staticTypes := #[]
  resolved := Array.replicate 8 none
  statics := none }

def pool5 : Array CpInfo := pool [(1, u "java/io/Serializable"), (0, .class_ 1), (0, u "java/lang/Object"), (0, .class_ 3)] 3

/-- java/io/Serializable -/
def k5 : Class := { plain "java/io/Serializable" (some 0) with
  accessFlags := 1537
  interfaces := #[]
  cf := some (fileOf pool5 2 #[] #[] 1537 4 #[] #[])
  fields := #[]
  methods := #[]
  instanceTypes := #[]
  staticTypes := #[]
  resolved := Array.replicate 8 none
  statics := none }

/-- the primitive byte -/
def k6 : Class := { plain "byte" none with kind := .primitive 'B', accessFlags := 0x411 }
/-- [B -/
def k7 : Class := { plain "[B" (some 0) with kind := .array 6 .byte, interfaces := #[4, 5], accessFlags := 1041 }

/-- the primitive int -/
def k8 : Class := { plain "int" none with kind := .primitive 'I', accessFlags := 0x411 }
/-- [I -/
def k9 : Class := { plain "[I" (some 0) with kind := .array 8 .int, interfaces := #[4, 5], accessFlags := 1041 }

def heap : Heap := #[]
def classes : Array Class := #[k0, k1, k2, k3, k4, k5, k6, k7, k8, k9]
def interned : List (Array UInt16 × Addr) := []
def slotsUsed : Nat := 0
def theMethod : MethodId := ⟨1, 1⟩
def args0 : Array Value := #[.long 0, .int 0, .long 0, .long 0, .long 0, .int 0]
def aboutOver (below : List Frame) : State where
  vm := { classes := classes, interned := interned.toArray }
  heap := heap
  slotsUsed := slotsUsed
  threads := #[{ frames := .invoking theMethod args0 :: below }]
def below0 : List Frame := [.native { method := ⟨0, 0⟩, args := #[] }]
def about1 : State := aboutOver below0
def p0 : Program := .bare "" "" ""
def e0 : Env := launch0.env 0 0 0
theorem w_frames : about1.frames = Frame.invoking theMethod args0 :: below0 := rfl
set_option maxRecDepth 65536 in
theorem w_args : argsFit about1.vm theMethod args0 = true := by decide +kernel
set_option maxRecDepth 65536 in
theorem w_heap : heapFits about1 = true := by decide +kernel
set_option maxRecDepth 65536 in
theorem w_runnable : about1.curStatus? = some .runnable := by decide +kernel
set_option maxRecDepth 65536 in
theorem w_alone : about1.alone = true := by decide +kernel
set_option maxRecDepth 65536 in
theorem w_named : about1.methodNamed? x = some theMethod := by decide +kernel
set_option maxRecDepth 65536 in
theorem w_hears : about1.hears theMethod below0 = true := by decide +kernel
set_option maxRecDepth 65536 in
theorem w_ripe : about1.ripe theMethod args0 below0 = true := by decide +kernel
theorem w_running : about1.status = .running := rfl
set_option maxRecDepth 65536 in
theorem w_room : about1.hasRoom e0.platform room_1 = true :=
  launch0.hasRoom_least _ room_1 (by decide +kernel) (by decide +kernel) (by decide +kernel) (by decide +kernel) (by decide +kernel) (by decide +kernel)
theorem allAtoms_all (ts : List Jvm.Cond) (a : Array Jvm.Value) (st : Jvm.State) : (allAtoms ts).before a st = ts.all (fun c => c.before a st) := by
  induction ts with
  | nil => rfl
  | cons c t ih =>
    show (Jvm.Cond.and c (allAtoms t)).before a st = _
    rw [Jvm.Cond.before_and, ih, List.all_cons]
def words1 : List Jvm.Cond := Jvm.Cond.code x code maxLocals ret :: tables_1
/-- a 'code' word, met by the world's own term for the bytes: nothing is compared byte by byte -/
theorem code_word {y : MethodName} {bytes : ByteArray} {mx : Nat} {rt : Option FieldType} {a : Array Value} {s : State} {m : MethodId} {meth : Method} {c : Code} (h1 : s.methodNamed? y = some m) (h2 : s.vm.method? m = some meth) (h3 : meth.code = some c) (h4 : c.code = bytes)
    (h5 : (c.maxLocals == mx && c.exceptionTable.isEmpty && decide (c.maxStack ≤ mostOperands) && decide (meth.sig.returnType = rt) && !meth.locks && decide (parseMethodDescriptor y.desc = some meth.sig)) = true) : (Jvm.Cond.code y bytes mx rt).before a s = true := by
  simp only [Bool.and_eq_true, beq_iff_eq, Bool.not_eq_true', decide_eq_true_eq] at h5
  obtain ⟨⟨⟨⟨⟨g1, g2⟩, g3⟩, g4⟩, g5⟩, g6⟩ := h5
  simp [Cond.before, Cond.holds, Cond.value, h1, h2, h3, h4, g1, g2, g3, g4, g5, g6]
def isCode : Jvm.Cond → Bool
  | .code _ _ _ _ => true
  | _ => false
theorem all_split {L : List Jvm.Cond} {P : Jvm.Cond → Bool} (h1 : L.all (fun c => isCode c || P c) = true) (h2 : ∀ c ∈ L.filter isCode, P c = true) : L.all P = true := by
  refine List.all_eq_true.mpr fun c hc => ?_
  have h := List.all_eq_true.mp h1 c hc
  rcases Bool.eq_false_or_eq_true (isCode c) with hi | hi
  · exact h2 c (List.mem_filter.mpr ⟨hc, hi⟩)
  · simpa [hi] using h
set_option maxRecDepth 65536 in
theorem w_c0 : (Jvm.Cond.code x code maxLocals ret).before args0 about1 = true := code_word (m := ⟨1, 1⟩) (meth := k1m1) (c := k1c1) (by decide +kernel) rfl rfl rfl (by decide +kernel)
set_option maxRecDepth 65536 in
theorem w_c1 : (Jvm.Cond.code ({ cls := "com/example/semel/semel/log/OpenTransaction", name := "<init>", desc := "(JSJ)V" } : Jvm.MethodName) prog_33_method_1_code (6 : Nat) (Option.none : Option Jvm.ClassFile.FieldType)).before args0 about1 = true := code_word (m := ⟨2, 0⟩) (meth := k2m0) (c := k2c0) (by decide +kernel) rfl rfl rfl (by decide +kernel)
set_option maxRecDepth 65536 in
theorem w_c2 : (Jvm.Cond.code ({ cls := "java/lang/Object", name := "<init>", desc := "()V" } : Jvm.MethodName) object_method_1_code (1 : Nat) (Option.none : Option Jvm.ClassFile.FieldType)).before args0 about1 = true := code_word (m := ⟨0, 0⟩) (meth := k0m0) (c := k0c0) (by decide +kernel) rfl rfl rfl (by decide +kernel)
set_option maxRecDepth 65536 in
theorem w_c3 : (Jvm.Cond.code ({ cls := "com/example/semel/semel/log/OpenTransaction", name := "equals", desc := "(Ljava/lang/Object;)Z" } : Jvm.MethodName) prog_33_method_6_code (3 : Nat) (Option.some Jvm.ClassFile.FieldType.boolean)).before args0 about1 = true := code_word (m := ⟨2, 1⟩) (meth := k2m1) (c := k2c1) (by decide +kernel) rfl rfl rfl (by decide +kernel)
set_option maxRecDepth 65536 in
theorem w_c4 : (Jvm.Cond.code ({ cls := "com/example/semel/semel/producer/ProducerInstance", name := "<init>", desc := "(JS)V" } : Jvm.MethodName) prog_39_method_1_code (4 : Nat) (Option.none : Option Jvm.ClassFile.FieldType)).before args0 about1 = true := code_word (m := ⟨3, 0⟩) (meth := k3m0) (c := k3c0) (by decide +kernel) rfl rfl rfl (by decide +kernel)
def codes1 : List Jvm.Cond := [Jvm.Cond.code x code maxLocals ret, Jvm.Cond.code ({ cls := "com/example/semel/semel/log/OpenTransaction", name := "<init>", desc := "(JSJ)V" } : Jvm.MethodName) prog_33_method_1_code (6 : Nat) (Option.none : Option Jvm.ClassFile.FieldType), Jvm.Cond.code ({ cls := "java/lang/Object", name := "<init>", desc := "()V" } : Jvm.MethodName) object_method_1_code (1 : Nat) (Option.none : Option Jvm.ClassFile.FieldType), Jvm.Cond.code ({ cls := "com/example/semel/semel/log/OpenTransaction", name := "equals", desc := "(Ljava/lang/Object;)Z" } : Jvm.MethodName) prog_33_method_6_code (3 : Nat) (Option.some Jvm.ClassFile.FieldType.boolean), Jvm.Cond.code ({ cls := "com/example/semel/semel/producer/ProducerInstance", name := "<init>", desc := "(JS)V" } : Jvm.MethodName) prog_39_method_1_code (4 : Nat) (Option.none : Option Jvm.ClassFile.FieldType)]
set_option maxRecDepth 65536 in
theorem codes_eq : words1.filter isCode = codes1 := rfl
theorem w_codes : ∀ c ∈ words1.filter isCode, c.before args0 about1 = true := by
  rw [codes_eq]
  intro c hc
  simp only [codes1, List.mem_cons, List.not_mem_nil, or_false] at hc
  rcases hc with rfl | rfl | rfl | rfl | rfl
  · exact w_c0
  · exact w_c1
  · exact w_c2
  · exact w_c3
  · exact w_c4
set_option maxRecDepth 65536 in
theorem w_t1 : (words1.take 24).all (fun c => isCode c || c.before args0 about1) = true := by decide +kernel
set_option maxRecDepth 65536 in
theorem w_t2 : (words1.drop 24).all (fun c => isCode c || c.before args0 about1) = true := by decide +kernel
theorem w_tables : (allAtoms (Jvm.Cond.code x code maxLocals ret :: tables_1)).before args0 about1 = true := by
  rw [allAtoms_all]
  show words1.all (fun c => c.before args0 about1) = true
  refine all_split ?_ w_codes
  rw [← List.take_append_drop 24 words1, List.all_append, w_t1, w_t2]
  rfl
set_option maxRecDepth 65536 in
theorem w_case : (Jvm.Cond.and given_1 narrow_1).before args0 about1 = true := by decide +kernel
theorem w_applies : (headSpec (Jvm.Cond.code x code maxLocals ret :: tables_1) room_1).applies x e0.platform about1 = true :=
  (Spec.applies_iff w_frames).mpr ⟨w_running, w_runnable, w_alone, w_named, w_hears, w_ripe, w_room, w_tables⟩
theorem atStart : AtStart classFile x code maxLocals ret World_1 tables_1 room_1 Calls_1 rest_1 Pre_1 launch0 p0 e0 about1 theMethod args0 below0 :=
  ⟨lists_1, trivial, launch0.admits_env _ _ _, launch0.least_env, fairChoices_fair.cas, fairChoices_fair.clock, w_frames, w_args, w_heap, w_applies, trivial, trivial, w_case⟩
end start1
theorem witness_1 : WitnessClaimed_1 := ⟨start1.p0, start1.e0, start1.about1, start1.theMethod, start1.args0, start1.below0, start1.atStart⟩
end Jvm.Pilot.@@N@@

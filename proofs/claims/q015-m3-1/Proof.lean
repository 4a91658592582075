import JvmDerived
import JvmDerived.Pilot.@@N@@Statement
import JvmDerived.Pilot.@@N@@Code
set_option linter.unusedVariables false
set_option linter.unusedSimpArgs false
@@BLOCK:NumsL.lean.txt@@
namespace Jvm.RoadKit
open Sem ClassFile Op Lib Jvm.Stand Jvm.Free Jvm.LawKit
section New
variable {p : Program} {l : Launch} {e : Env} {R : Room} {s : State} {m : MethodId} {args : Array Value} {below : List Frame} {meth : Method} {c : Code} {T : State} {locs : List Loc} {cells slots : Nat}
theorem retI (X : Stand p l e R s m args below meth c T locs cells slots) (hx : p.tables.exec = Jvm.exec) {pc : Nat} {Ls : Array Slot} {z : Int32} {rest : List Value} (hret : meth.sig.returnType = some .int) (hd : decode c.code pc = .ok (.ireturn, 1)) {fs : List Frame}
    (hl : ∀ (f : JFrame) (acts : List Action), f.method = m → f.locked = none → f.entered = [] → (doReturn e (T.setTop f) acts (some (.int z))).1 = T.setFrames fs) : Steps p.tables e below (T.setTop (mkF m pc Ls (.int z :: rest))) (T.setFrames fs) := by
  have hm' : T.vm.method? m = some meth := X.method'
  have hn : narrow .int (.int z) = .int z := rfl
  show Steps p.tables e below (T.setTop { method := m, pc := pc, locals := Ls, stack := _ :: rest, locked := none }) _
  jvm_step X.here [X.here.top, hx, hd, hm', hret, hn]
  first | (intro acts; rw [hl _ acts rfl rfl rfl]) | rw [hl _ _ rfl rfl rfl]
  exact Steps.refl _
end New
end Jvm.RoadKit
namespace Jvm.Pilot.@@N@@
open Jvm Jvm.ClassFile Sem Op Lib Jvm.Free Jvm.Stand Jvm.LawKit Jvm.RoadKit Bundle Jvm.Pilot.@@N@@.Jvm.D
section OwnLayer
variable {p : Program} {l : Launch} {e : Env} {R : Room} {s : State} {m : MethodId} {args : Array Value} {below : List Frame} {meth : Method} {c : Code} {T T' : State} {h h' : Heap} {n0 ck sk ck' sk' : Nat} {Z : State} {a0 : Array Value} {Post : Outcome → State → Prop} {g g' : JFrame}
/-- from this state and frame the run comes to an end of the invocation of which Post holds -/
def Go (p : Program) (e : Env) (below : List Frame) (Post : Outcome → State → Prop) (T : State) (g : JFrame) : Prop :=
  ∃ s₂ o, Steps p.tables e below (T.setTop g) s₂ ∧ s₂.status = .running ∧ Ended s₂ below o ∧ Post o s₂
theorem Go.st (hs : ∀ t, Steps p.tables e below (T'.setTop g') t → Steps p.tables e below (T.setTop g) t) (k : Go p e below Post T' g') : Go p e below Post T g := by
  obtain ⟨s2, o, h1, h2⟩ := k
  exact ⟨s2, o, hs _ h1, h2⟩
/-- where the walk stands: the heap is h; what was written lies at or above n0; at most ck cells and sk slots were made -/
def Stn (p : Program) (l : Launch) (e : Env) (R : Room) (s : State) (m : MethodId) (args : Array Value) (below : List Frame) (meth : Method) (c : Code) (n0 : Nat) (T : State) (h : Heap) (ck sk : Nat) : Prop :=
  T.heap = h ∧ ∃ locs, Fr n0 locs ∧ Stand p l e R s m args below meth c T locs ck sk
theorem Stn.here (X : Stn p l e R s m args below meth c n0 T h ck sk) : At T m c below := by
  obtain ⟨_, _, _, Y⟩ := X
  exact Y.here
theorem Stn.mono (X : Stn p l e R s m args below meth c n0 T h ck sk) (h1 : ck ≤ ck') (h2 : sk ≤ sk') : Stn p l e R s m args below meth c n0 T h ck' sk' := by
  obtain ⟨e1, L, N, Y⟩ := X
  exact ⟨e1, L, N, Y.more h1 h2⟩
/-- what a body's end says -/
def PostW (s : State) (n0 C S : Nat) (Q : Option Value → Heap → Prop) (o : Outcome) (U : State) : Prop :=
  ∃ v L, o = .returned v ∧ (Fr n0 L ∧ Q v U.heap) ∧ FrameEnd s o U L C S
/-- a body's contract -/
def Con (l : Launch) (y : MethodName) (bytes : ByteArray) (maxL : Nat) (ret : Option FieldType) (rm : Room) (ws : List Jvm.Cond) (Z : State) (n0 : Nat) (as' : Array Value) (h : Heap) (Q : Option Value → Heap → Prop) : Prop :=
  MetFree l y (head1 (Jvm.Cond.code y bytes maxL ret :: ws) rm) (fun a U => a = as' ∧ Z.Warmed39 U.vm ∧ U.heap = h) (fun _ _ _ _ _ => True) (fun _ U o U' => ∃ v L, o = .returned v ∧ (Fr n0 L ∧ Q v U'.heap) ∧ FrameEnd U o U' L rm.cells rm.slots)
theorem Con.body {y : MethodName} {bytes : ByteArray} {maxL : Nat} {ret : Option FieldType} {rm : Room} {ws : List Jvm.Cond} {as' : Array Value} {Q : Option Value → Heap → Prop} (hp : plainFor y = true)
    (k : ∀ (p : Program) (e : Env) (s : State) (m : MethodId) (below : List Frame) (meth : Method) (c : Code) (s₁ : State), p.tables.exec = Jvm.exec → c.code = bytes → c.maxLocals = maxL → s.vm.findClass y.cls = some m.cls → meth.name = y.name → meth.sig.returnType = ret → meth.locks = false → Z.Warmed39 s.vm →
      Stn p l e rm s m as' below meth c n0 s₁ h 0 0 → Go p e below (PostW s n0 rm.cells rm.slots Q) s₁ (entryFrame m as' maxL)) : Con l y bytes maxL ret rm ws Z n0 as' h Q := by
  refine MetFree.of_bodySF hp hisR ?_
  intro p e s m args below meth c s₁ Bd hml0 hP hK
  obtain ⟨rfl, hZ, hh⟩ := hP
  have e0 : s₁.heap = h := by rw [← hh, Bd.state]; rfl
  exact k p e s m below meth c s₁ Bd.exec Bd.bytes hml0 (findClass_of_methodNamed Bd.named) (name_of_methodNamed Bd.named Bd.method).1 Bd.returns Bd.notSynchronized hZ ⟨e0, [], Fr.nil n0, Stand.of_body Bd⟩
theorem Con.mono {y : MethodName} {bytes : ByteArray} {maxL : Nat} {ret : Option FieldType} {rm : Room} {ws : List Jvm.Cond} {as' : Array Value} {Q Q' : Option Value → Heap → Prop} (hM : Con l y bytes maxL ret rm ws Z n0 as' h Q) (hq : ∀ v h', Q v h' → Q' v h') : Con l y bytes maxL ret rm ws Z n0 as' h Q' := by
  intro p e ha hc hk s m args below hf happ hP hK
  obtain ⟨n, o, h1, h2, h3, v, L, h4, ⟨h5, h6⟩, h7⟩ := hM p e ha hc hk s m args below hf happ hP hK
  exact ⟨n, o, h1, h2, h3, v, L, h4, ⟨h5, hq _ _ h6⟩, h7⟩
/-! a long's comparison -/
theorem lcTlt {a b : Int64} (h : a < b) : ifCond.holds .lt (lcmpW a b) = true ∧ ifCond.holds .ge (lcmpW a b) = false := by
  have q : lcmpW a b < 0 := by rw [lcW]; exact (lc_lt a b).mpr h
  exact ⟨(if0 _ _).trans (tlt q).1, (if0 _ _).trans (tlt q).2.1⟩
theorem lcFlt {a b : Int64} (h : ¬ a < b) : ifCond.holds .lt (lcmpW a b) = false ∧ ifCond.holds .ge (lcmpW a b) = true := by
  have q : ¬ lcmpW a b < 0 := fun z => h ((lc_lt a b).mp (by rw [← lcW]; exact z))
  exact ⟨(if0 _ _).trans (flt q).1, (if0 _ _).trans (flt q).2.1⟩
theorem lcTgt {a b : Int64} (h : b < a) : ifCond.holds .gt (lcmpW a b) = true ∧ ifCond.holds .le (lcmpW a b) = false := by
  have q : 0 < lcmpW a b := by rw [lcW]; exact (lc_gt a b).mpr h
  exact ⟨(if0 _ _).trans (tlt q).2.2.1, (if0 _ _).trans (tlt q).2.2.2⟩
theorem lcFgt {a b : Int64} (h : ¬ b < a) : ifCond.holds .gt (lcmpW a b) = false ∧ ifCond.holds .le (lcmpW a b) = true := by
  have q : ¬ 0 < lcmpW a b := fun z => h ((lc_gt a b).mp (by rw [← lcW]; exact z))
  exact ⟨(if0 _ _).trans (flt q).2.2.1, (if0 _ _).trans (flt q).2.2.2⟩
theorem lcTeq {a b : Int64} (h : a = b) : ifCond.holds .eq (lcmpW a b) = true ∧ ifCond.holds .ne (lcmpW a b) = false := by
  have q : lcmpW a b = 0 := by rw [lcW]; exact (lc_eq a b).mpr h
  exact ⟨(if0 _ _).trans (teq q).1, (if0 _ _).trans (teq q).2⟩
theorem lcFeq {a b : Int64} (h : ¬ a = b) : ifCond.holds .eq (lcmpW a b) = false ∧ ifCond.holds .ne (lcmpW a b) = true := by
  have q : ¬ lcmpW a b = 0 := fun z => h ((lc_eq a b).mp (by rw [← lcW]; exact z))
  exact ⟨(if0 _ _).trans (feq q).1, (if0 _ _).trans (feq q).2⟩
theorem acT {a b : Addr} (h : a = b) : if_acmp.holds .eq (some a) (some b) = true ∧ if_acmp.holds .ne (some a) (some b) = false := by subst h; simp [if_acmp.holds]
theorem acF {a b : Addr} (h : ¬ a = b) : if_acmp.holds .eq (some a) (some b) = false ∧ if_acmp.holds .ne (some a) (some b) = true := by simp [if_acmp.holds, h]
/-! returns -/
theorem goRet {v : Option Value} {Q : Option Value → Heap → Prop} {C S : Nat} (X : Stn p l e R s m args below meth c n0 T h ck sk) (hlk : meth.locks = false) (hv : meth.sig.returnType = none → v = none)
    (hst : ∀ locs fs, Stand p l e R s m args below meth c T locs ck sk → (∀ (f : JFrame) (acts : List Action), f.method = m → f.locked = none → f.entered = [] → (doReturn e (T.setTop f) acts v).1 = T.setFrames fs) → Steps p.tables e below (T.setTop g) (T.setFrames fs))
    (hq : Q v h) (h1 : ck ≤ C) (h2 : sk ≤ S) : Go p e below (PostW s n0 C S Q) T g := by
  obtain ⟨eT, locs, N, Y⟩ := X
  obtain ⟨fs, hr, hrun, hended, hW, hsame⟩ := Y.leave hv hlk
  exact ⟨_, _, hst locs fs Y hr, hrun, hended, _, _, rfl, ⟨N, (by show Q v T.heap; rw [eT]; exact hq)⟩, ⟨_, rfl⟩, hW, hsame.mono h1 h2⟩
theorem goRetI {pc : Nat} {Ls : Array Slot} {z : Int32} {rest : List Value} {Q : Option Value → Heap → Prop} {C S : Nat} (X : Stn p l e R s m args below meth c n0 T h ck sk) (hx : p.tables.exec = Jvm.exec) (hlk : meth.locks = false) (hret : meth.sig.returnType = some .int)
    (hd : decode c.code pc = .ok (.ireturn, 1)) (h1 : ck ≤ C) (h2 : sk ≤ S) (hq : Q (some (.int z)) h) : Go p e below (PostW s n0 C S Q) T (mkF m pc Ls (.int z :: rest)) :=
  goRet X hlk (fun h => by rw [hret] at h; cases h) (fun _ _ Y hr => retI Y hx hret hd hr) hq h1 h2
theorem goRetZ {pc : Nat} {Ls : Array Slot} {z : Int32} {rest : List Value} {Q : Option Value → Heap → Prop} {C S : Nat} (X : Stn p l e R s m args below meth c n0 T h ck sk) (hx : p.tables.exec = Jvm.exec) (hlk : meth.locks = false) (hret : meth.sig.returnType = some .boolean)
    (hd : decode c.code pc = .ok (.ireturn, 1)) (h1 : ck ≤ C) (h2 : sk ≤ S) (hz : z = 0 ∨ z = 1) (hq : Q (some (.int z)) h) : Go p e below (PostW s n0 C S Q) T (mkF m pc Ls (.int z :: rest)) := by
  rcases hz with rfl | rfl
  · exact goRet X hlk (fun h => by rw [hret] at h; cases h) (fun _ _ Y hr => retN Y hx (t := .boolean) hret (by simp) hd hr) hq h1 h2
  · exact goRet X hlk (fun h => by rw [hret] at h; cases h) (fun _ _ Y hr => retN Y hx (t := .boolean) hret (by simp) hd hr) hq h1 h2
theorem goRetV {pc : Nat} {Ls : Array Slot} {Q : Option Value → Heap → Prop} {C S : Nat} (X : Stn p l e R s m args below meth c n0 T h ck sk) (hx : p.tables.exec = Jvm.exec) (hlk : meth.locks = false) (hret : meth.sig.returnType = none)
    (hd : decode c.code pc = .ok (.return_, 1)) (h1 : ck ≤ C) (h2 : sk ≤ S) (hq : Q none h) : Go p e below (PostW s n0 C S Q) T (mkF m pc Ls []) :=
  goRet X hlk (fun _ => rfl) (fun _ _ Y hr => Y.returnOut hx hret hd hr) hq h1 h2
theorem goRetL {pc : Nat} {Ls : Array Slot} {z : Int64} {rest : List Value} {Q : Option Value → Heap → Prop} {C S : Nat} (X : Stn p l e R s m args below meth c n0 T h ck sk) (hx : p.tables.exec = Jvm.exec) (hlk : meth.locks = false) (hret : meth.sig.returnType = some .long)
    (hd : decode c.code pc = .ok (.lreturn, 1)) (h1 : ck ≤ C) (h2 : sk ≤ S) (hq : Q (some (.long z)) h) : Go p e below (PostW s n0 C S Q) T (mkF m pc Ls (.long z :: rest)) :=
  goRet X hlk (fun h => by rw [hret] at h; cases h) (fun _ _ Y hr => by
    jvm_step Y.here [Y.here.top, hx, hd, Y.method', hret, narrow]
    first | (intro acts; rw [hr _ acts rfl rfl rfl]) | rw [hr _ _ rfl rfl rfl]
    exact Steps.refl _) hq h1 h2
theorem goRetA {pc : Nat} {Ls : Array Slot} {z : Addr} {rest : List Value} {t : FieldType} {Q : Option Value → Heap → Prop} {C S : Nat} (X : Stn p l e R s m args below meth c n0 T h ck sk) (hx : p.tables.exec = Jvm.exec) (hlk : meth.locks = false) (hret : meth.sig.returnType = some t) (ht : t.isReference = true)
    (hd : decode c.code pc = .ok (.areturn, 1)) (h1 : ck ≤ C) (h2 : sk ≤ S) (hq : Q (some (.ref z)) h) : Go p e below (PostW s n0 C S Q) T (mkF m pc Ls (.ref z :: rest)) :=
  goRet X hlk (fun h => by rw [hret] at h; cases h) (fun _ _ Y hr => by
    jvm_step Y.here [Y.here.top, hx, hd, Y.method', hret, Value.isRef, ht]
    first | (intro acts; rw [hr _ acts rfl rfl rfl]) | rw [hr _ _ rfl rfl rfl]
    exact Steps.refl _) hq h1 h2
/-! fields, objects -/
theorem goGet (X : Stn p l e R s m args below meth c n0 T h ck sk) (hx : p.tables.exec = Jvm.exec) (hZ : Z.Warmed39 s.vm) {own R0 O n d host : String} {index : Nat} (hown : s.vm.findClass own = some m.cls) (w : (Cond.fieldLink own index R0 n d).before a0 Z = true ∨ (Cond.fieldLinkNest own index R0 n d host).before a0 Z = true) (via : Via Z R0 O n d)
    {a : Addr} {v : Value} (F : Fld Z h a O n d v) {pc : Nat} {ls : Array Slot} {rest : List Value} (hd : decode c.code pc = .ok (.getfield index, 3))
    (k : ∀ T', Stn p l e R s m args below meth c n0 T' h ck sk → Go p e below Post T' (mkF m (pc + 3) ls (v :: rest))) : Go p e below Post T (mkF m pc ls (.ref a :: rest)) := by
  obtain ⟨eT, locs, N, Y⟩ := X
  obtain ⟨T', X', e', st⟩ := getF Y hx hZ hown w via eT F (g := mkF m pc ls (.ref a :: rest)) rfl rfl hd
  exact Go.st st (k T' ⟨e', locs, N, X'⟩)
theorem goPut (X : Stn p l e R s m args below meth c n0 T h ck sk) (hx : p.tables.exec = Jvm.exec) (hZ : Z.Warmed39 s.vm) {own R0 O n d host C : String} {index kk : Nat} {ty : FieldType} (hown : s.vm.findClass own = some m.cls) (w : (Cond.fieldLink own index R0 n d).before a0 Z = true ∨ (Cond.fieldLinkNest own index R0 n d host).before a0 Z = true) (via : Via Z R0 O n d)
    {a : Addr} {v old : Value} (F : Fld Z h a O n d old) (E : Exa Z h a C) (L : (Cond.lays C O n d).before a0 Z = true ∨ ((Cond.laysFinal C O n d).before a0 Z = true ∧ own = O ∧ meth.name = "<init>")) (wi : (Cond.instantiable C kk).before a0 Z = true)
    (hty : parseFieldDescriptor d = some ty) (hn : narrow ty v = v) (hf : fits ty v = true) (ha : n0 ≤ a) {pc : Nat} {ls : Array Slot} {rest : List Value} (hd : decode c.code pc = .ok (.putfield index, 3))
    (k : ∀ T' h', Stn p l e R s m args below meth c n0 T' h' ck sk → Wr h h' a (Jvm.RoadKit.slotOf Z O n d) v → Go p e below Post T' (mkF m (pc + 3) ls rest)) : Go p e below Post T (mkF m pc ls (v :: .ref a :: rest)) := by
  obtain ⟨eT, locs, N, Y⟩ := X
  obtain ⟨T', h', X', e', W, st⟩ := putF Y hx hZ hown w via eT F E L wi hty hn hf (g := mkF m pc ls (v :: .ref a :: rest)) rfl rfl hd
  exact Go.st st (k T' h' ⟨e', _, Fr.snoc X' N ha, X'⟩ W)
theorem goPutN (X : Stn p l e R s m args below meth c n0 T h ck sk) (hx : p.tables.exec = Jvm.exec) (hZ : Z.Warmed39 s.vm) {own R0 O n d C : String} {index kk : Nat} {ty : FieldType} (hown : s.vm.findClass own = some m.cls) (w : (Cond.fieldLink own index R0 n d).before a0 Z = true) (via : Via Z R0 O n d)
    {a : Addr} {v v' old : Value} (F : Fld Z h a O n d old) (E : Exa Z h a C) (L : (Cond.lays C O n d).before a0 Z = true ∨ ((Cond.laysFinal C O n d).before a0 Z = true ∧ own = O ∧ meth.name = "<init>")) (wi : (Cond.instantiable C kk).before a0 Z = true)
    (hty : parseFieldDescriptor d = some ty) (hn : narrow ty v = v') (hf : fits ty v' = true) (ha : n0 ≤ a) {pc : Nat} {ls : Array Slot} {rest : List Value} (hd : decode c.code pc = .ok (.putfield index, 3))
    (k : ∀ T' h', Stn p l e R s m args below meth c n0 T' h' ck sk → Wr h h' a (Jvm.RoadKit.slotOf Z O n d) v' → Go p e below Post T' (mkF m (pc + 3) ls rest)) : Go p e below Post T (mkF m pc ls (v :: .ref a :: rest)) := by
  obtain ⟨eT, locs, N, Y⟩ := X
  obtain ⟨T', h', X', e', W, st⟩ := putFN Y hx hZ hown w via eT F E L wi hty hn hf (g := mkF m pc ls (v :: .ref a :: rest)) rfl rfl hd
  exact Go.st st (k T' h' ⟨e', _, Fr.snoc X' N ha, X'⟩ W)
theorem goNew (X : Stn p l e R s m args below meth c n0 T h ck sk) (hx : p.tables.exec = Jvm.exec) (hZ : Z.Warmed39 s.vm) {own C : String} {index n : Nat} (hown : s.vm.findClass own = some m.cls) (w : (Cond.classLink own index C).before a0 Z = true) (wi : (Cond.instantiable C n).before a0 Z = true) (wz : (Cond.initialized C).before a0 Z = true)
    {pc : Nat} {ls : Array Slot} {st : List Value} (hd : decode c.code pc = .ok (.new index, 3)) (hc : ck + 1 ≤ R.cells) (hl : sk + n ≤ R.slots)
    (k : ∀ T' h' a, a = h.size → Stn p l e R s m args below meth c n0 T' h' (ck + 1) (sk + n) → Ext h h' → Exa Z h' a C → (∀ {O nm d : String} {ty : FieldType}, Laid Z a0 C O nm d → parseFieldDescriptor d = some ty → Fld Z h' a O nm d (defaultValue ty)) → Go p e below Post T' (mkF m (pc + 3) ls (.ref a :: st))) : Go p e below Post T (mkF m pc ls st) := by
  obtain ⟨eT, locs, N, Y⟩ := X
  obtain ⟨T', h', X', e', E, A, D, -, stp⟩ := newO Y hx hZ hown w wi wz eT (g := mkF m pc ls st) rfl hd hc hl
  exact Go.st stp (k T' h' _ rfl ⟨e', locs, N, X'⟩ E A D)
theorem goInit (X : Stn p l e R s m args below meth c n0 T h ck sk) (hx : p.tables.exec = Jvm.exec) (hZ : Z.Warmed39 s.vm) {own : String} {idx : Nat} (hown : s.vm.findClass own = some m.cls) (w1 : (Cond.methodLink own idx Lib.objectInit).before a0 Z = true) (w2 : (Cond.instanceMethod Lib.objectInit).before a0 Z = true)
    (w3 : (Cond.code Lib.objectInit object_method_1_code 1 none).before a0 Z = true) {pc : Nat} {ls : Array Slot} {a : Addr} {rest : List Value} (hsize : ls.size = c.maxLocals) (hd : decode c.code pc = .ok (.invokespecial idx, 3))
    (hf : 1 ≤ R.frames) {W : Nat} (hW : (rest.map fun v => v.category).sum ≤ W) (hl : W + 12 ≤ R.locals)
    (k : ∀ T', Stn p l e R s m args below meth c n0 T' h ck sk → Go p e below Post T' (mkF m (pc + 3) ls rest)) : Go p e below Post T (mkF m pc ls (.ref a :: rest)) := by
  obtain ⟨eT, locs, N, Y⟩ := X
  obtain ⟨T', X', e', st⟩ := initO Y hx hZ hown w1 w2 w3 eT (g := mkF m pc ls (.ref a :: rest)) rfl hsize rfl hd hf (W := W) (by show 2 * 0 + _ ≤ _; omega) hl
  exact Go.st st (k T' ⟨e', locs, N, X'⟩)
theorem Stn.ldcI (X : Stn p l e R s m args below meth c n0 T h ck sk) (hx : p.tables.exec = Jvm.exec) (hZ : Z.Warmed39 s.vm) {own : String} {index : Nat} {v : Int32} (hown : s.vm.findClass own = some m.cls) (w : (Cond.constant own index v).before a0 Z = true)
    {pc : Nat} {ls : Array Slot} {st : List Value} (hd : decode c.code pc = .ok (.ldc index, 2)) {t : State} (k : Steps p.tables e below (T.setTop (mkF m (pc + 2) ls (.int v :: st))) t) : Steps p.tables e below (T.setTop (mkF m pc ls st)) t := by
  obtain ⟨eT, locs, N, Y⟩ := X
  exact Y.ldcInt hx hown (mvT hZ w) (g := mkF m pc ls st) rfl hd t k
theorem Stn.ldcJ (X : Stn p l e R s m args below meth c n0 T h ck sk) (hx : p.tables.exec = Jvm.exec) (hZ : Z.Warmed39 s.vm) {own : String} {index : Nat} {v : Int64} (hown : s.vm.findClass own = some m.cls) (w : (Cond.constantLong own index v).before a0 Z = true)
    {pc : Nat} {ls : Array Slot} {st : List Value} (hd : decode c.code pc = .ok (.ldc2_w index, 3)) {t : State} (k : Steps p.tables e below (T.setTop (mkF m (pc + 3) ls (.long v :: st))) t) : Steps p.tables e below (T.setTop (mkF m pc ls st)) t := by
  obtain ⟨eT, locs, N, Y⟩ := X
  exact Y.ldc2Long hx hown (mvT hZ w) (g := mkF m pc ls st) rfl hd t k
/-! arrays: of kind ty, length n, whose places hold f -/
def Ary (Z : State) (h : Heap) (a : Addr) (ty : FieldType) (n : Nat) (f : Nat → Value) : Prop := ∃ cl : Cell, Arr Z h a cl ty ∧ cl.slots.size = n ∧ ∀ i, i < n → cl.slots[i]? = some (f i)
theorem Ary.lt {a : Addr} {ty : FieldType} {n : Nat} {f : Nat → Value} (A : Ary Z h a ty n f) : a < h.size := by obtain ⟨cl, A, -⟩ := A; exact A.lt
theorem Ary.ext {a : Addr} {ty : FieldType} {n : Nat} {f : Nat → Value} (E : Ext h h') (A : Ary Z h a ty n f) : Ary Z h' a ty n f := by obtain ⟨cl, A, r⟩ := A; exact ⟨cl, A.ext E, r⟩
theorem Ary.other {a b : Addr} {ty : FieldType} {n sl : Nat} {f : Nat → Value} {v : Value} (W : Wr h h' b sl v) (A : Ary Z h a ty n f) (q : a ≠ b) : Ary Z h' a ty n f := by obtain ⟨cl, A, r⟩ := A; exact ⟨cl, A.other W q, r⟩
theorem Ary.keep {a : Addr} {ty : FieldType} {n : Nat} {f : Nat → Value} {ws : List Addr} (A : Ary Z h a ty n f) (K : Keep h h' ws) (q : a ∉ ws) : Ary Z h' a ty n f := by obtain ⟨cl, A, r⟩ := A; exact ⟨cl, ⟨K.2.1 a cl A.1 q, A.2⟩, r⟩
theorem Ary.congr {a : Addr} {ty : FieldType} {n : Nat} {f f' : Nat → Value} (A : Ary Z h a ty n f) (q : ∀ i, i < n → f i = f' i) : Ary Z h a ty n f' := by obtain ⟨cl, A, r1, r2⟩ := A; exact ⟨cl, A, r1, fun i hi => by rw [← q i hi]; exact r2 i hi⟩
theorem Ary.set {a : Addr} {ty : FieldType} {n j : Nat} {f : Nat → Value} {v : Value} (A : Ary Z h a ty n f) (W : Wr h h' a j v) : Ary Z h' a ty n (fun i => if i = j then v else f i) := by
  obtain ⟨cl, A, r1, r2⟩ := A
  have A' := A.same W
  obtain ⟨c1, q1, -, q2, -⟩ := W
  cases q1.symm.trans A.1
  refine ⟨_, A', by rw [sz_set]; exact r1, fun i hi => ?_⟩
  by_cases hij : i = j
  · subst hij
    simp [Cell.setSlot, q2]
  · have : j ≠ i := fun z => hij z.symm
    simp [Cell.setSlot, hij, Array.getElem?_setIfInBounds_ne this, r2 i hi]
theorem Ary.new {k : ClassId} {a : Addr} {ty : FieldType} {z : Int32} (A : Arr Z h a (newA k ty z) ty) : Ary Z h a ty z.toNatClampNeg (fun _ => defaultValue ty) :=
  ⟨_, A, sz_new _ _ _, fun i hi => by simp [newA, hi]⟩
theorem ne_ary {a b : Addr} {C : String} {kk n : Nat} {ty : FieldType} {f : Nat → Value} (F : Exa Z h a C) (wi : (Cond.instantiable C kk).before a0 Z = true) (G : Ary Z h b ty n f) : a ≠ b := by
  obtain ⟨cl, A, -⟩ := G
  exact ne_arr F wi A
theorem goNewA (X : Stn p l e R s m args below meth c n0 T h ck sk) (hx : p.tables.exec = Jvm.exec) (hZ : Z.Warmed39 s.vm) {aty : ArrayType} (w : (Cond.arrayClass (newarray.typeOf aty)).before a0 Z = true)
    {pc : Nat} {ls : Array Slot} {n : Int32} {rest : List Value} (hd : decode c.code pc = .ok (.newarray aty, 2)) (hn : ¬ n < 0) {cap : Nat} (hcap : n.toNatClampNeg ≤ cap) (hb : cap * 8 ≤ 536870912) (hc : ck + 1 ≤ R.cells) (hl : sk + cap ≤ R.slots) {ad : String} (had : "[" ++ (newarray.typeOf aty).toString = ad)
    (k : ∀ T' h' a, a = h.size → Stn p l e R s m args below meth c n0 T' h' (ck + 1) (sk + cap) → Ext h h' → Exa Z h' a ad → Ary Z h' a (newarray.typeOf aty) n.toNatClampNeg (fun _ => defaultValue (newarray.typeOf aty)) → Go p e below Post T' (mkF m (pc + 2) ls (.ref a :: rest))) : Go p e below Post T (mkF m pc ls (.int n :: rest)) := by
  obtain ⟨eT, locs, N, Y⟩ := X
  obtain ⟨T', h', cA, X', e', E, A, Ex, st⟩ := newPE Y hx hZ w eT (g := mkF m pc ls (.int n :: rest)) rfl hd rfl hn hcap hb hc hl had
  exact Go.st st (k T' h' _ rfl ⟨e', locs, N, X'⟩ E Ex (Ary.new A))
theorem goClone (X : Stn p l e R s m args below meth c n0 T h ck sk) (hx : p.tables.exec = Jvm.exec) (hZ : Z.Warmed39 s.vm) {own ad : String} {index : Nat} (hown : s.vm.findClass own = some m.cls)
    (w1 : (Cond.methodLink own index ⟨ad, "clone", "()Ljava/lang/Object;"⟩).before a0 Z = true) (w2 : (Cond.sameMethod ad "java/lang/Object" "clone" "()Ljava/lang/Object;").before a0 Z = true) (w3 : (Cond.native ⟨"java/lang/Object", "clone", "()Ljava/lang/Object;"⟩).before a0 Z = true)
    (w4 : (Cond.instanceMethod ⟨"java/lang/Object", "clone", "()Ljava/lang/Object;"⟩).before a0 Z = true) (w5 : (Cond.selects ad ⟨ad, "clone", "()Ljava/lang/Object;"⟩ ⟨"java/lang/Object", "clone", "()Ljava/lang/Object;"⟩).before a0 Z = true) (w6 : (Cond.castable ad "java/lang/Cloneable").before a0 Z = true)
    {a : Addr} {ty : FieldType} {n : Nat} {f : Nat → Value} (A : Ary Z h a ty n f) (E : Exa Z h a ad) (hfit : ∀ i, i < n → fits ty (f i) = true) {pc : Nat} {ls : Array Slot} {rest : List Value} (hsize : ls.size = c.maxLocals) (hd : decode c.code pc = .ok (.invokevirtual index, 3))
    (hf : 1 ≤ R.frames) {W cap : Nat} (hW : (rest.map fun v => v.category).sum = W) (hl : W + 14 ≤ R.locals) (hcap : n ≤ cap) (hc : ck + 1 ≤ R.cells) (hsl : sk + cap ≤ R.slots)
    (k : ∀ T' h' b, b = h.size → Stn p l e R s m args below meth c n0 T' h' (ck + 1) (sk + cap) → Ext h h' → Exa Z h' b ad → Ary Z h' b ty n f → Go p e below Post T' (mkF m (pc + 3) ls (.ref b :: rest))) : Go p e below Post T (mkF m pc ls (.ref a :: rest)) := by
  obtain ⟨eT, locs, N, Y⟩ := X
  obtain ⟨cl, A, r1, r2⟩ := A
  have FC : FitC Z cl := fitC_of A fun i hi v hv => by
    rw [r2 i (r1 ▸ hi)] at hv
    cases hv
    exact hfit i (r1 ▸ hi)
  obtain ⟨T', h', X', e', Ex, A', E', st⟩ := cloneA Y hx hZ hown w1 w2 w3 w4 w5 w6 eT A E FC (g := mkF m pc ls (.ref a :: rest)) rfl hsize rfl hd hf (W := W) (cap := cap) (by show 2 * 0 + _ ≤ _; omega) hl (by rw [r1]; exact hcap) hc hsl
  exact Go.st st (k T' h' _ rfl ⟨e', locs, N, X'⟩ Ex E' ⟨_, A', r1, r2⟩)
theorem goCast (X : Stn p l e R s m args below meth c n0 T h ck sk) (hx : p.tables.exec = Jvm.exec) (hZ : Z.Warmed39 s.vm) {own K : String} {index : Nat} (hown : s.vm.findClass own = some m.cls) (w : (Cond.classLink own index K).before a0 Z = true) {a : Addr} (F : Ins Z h a K true)
    {pc : Nat} {ls : Array Slot} {rest : List Value} (hd : decode c.code pc = .ok (.checkcast index, 3)) (k : ∀ T', Stn p l e R s m args below meth c n0 T' h ck sk → Go p e below Post T' (mkF m (pc + 3) ls (.ref a :: rest))) : Go p e below Post T (mkF m pc ls (.ref a :: rest)) := by
  obtain ⟨eT, locs, N, Y⟩ := X
  obtain ⟨T', X', e', st⟩ := castY Y hx hZ hown w eT F (g := mkF m pc ls (.ref a :: rest)) rfl rfl hd
  exact Go.st st (k T' ⟨e', locs, N, X'⟩)
theorem goLen (X : Stn p l e R s m args below meth c n0 T h ck sk) (hx : p.tables.exec = Jvm.exec) (hZ : Z.Warmed39 s.vm) {a : Addr} {ty : FieldType} {n : Nat} {f : Nat → Value} (A : Ary Z h a ty n f) {pc : Nat} {ls : Array Slot} {rest : List Value} (hd : decode c.code pc = .ok (.arraylength, 1))
    (k : Go p e below Post T (mkF m (pc + 1) ls (.int n.toInt32 :: rest))) : Go p e below Post T (mkF m pc ls (.ref a :: rest)) := by
  obtain ⟨eT, locs, N, Y⟩ := X
  obtain ⟨cl, A, r1, -⟩ := A
  subst r1
  exact Go.st (fun t q => Y.arraylength hx (by rw [eT]; exact A.1) (State.isArrayOf_alike hZ.alike A.2.1) (g := mkF m pc ls (.ref a :: rest)) rfl rfl hd t q) k
theorem goLdI (X : Stn p l e R s m args below meth c n0 T h ck sk) (hx : p.tables.exec = Jvm.exec) (hZ : Z.Warmed39 s.vm) {a : Addr} {n : Nat} {f : Nat → Int32} (A : Ary Z h a .int n (fun i => .int (f i))) {j : Int32} (hj : ¬ (j < 0 ∨ n ≤ j.toNatClampNeg)) {pc : Nat} {ls : Array Slot} {rest : List Value} (hd : decode c.code pc = .ok (.iaload, 1))
    (k : Go p e below Post T (mkF m (pc + 1) ls (.int (f j.toNatClampNeg) :: rest))) : Go p e below Post T (mkF m pc ls (.int j :: .ref a :: rest)) := by
  obtain ⟨eT, locs, N, Y⟩ := X
  obtain ⟨cl, A, r1, r2⟩ := A
  subst r1
  exact Go.st (fun t q => Y.iaload hx (j := j) (v := .int (f j.toNatClampNeg)) (by rw [eT]; exact A.1) (State.isArrayOf_alike hZ.alike A.2.1) A.2.2 hj (r2 _ (by omega)) (g := mkF m pc ls (.int j :: .ref a :: rest)) rfl rfl hd t q) k
theorem goLdJ (X : Stn p l e R s m args below meth c n0 T h ck sk) (hx : p.tables.exec = Jvm.exec) (hZ : Z.Warmed39 s.vm) {a : Addr} {n : Nat} {f : Nat → Int64} (A : Ary Z h a .long n (fun i => .long (f i))) {j : Int32} (hj : ¬ (j < 0 ∨ n ≤ j.toNatClampNeg)) {pc : Nat} {ls : Array Slot} {rest : List Value} (hd : decode c.code pc = .ok (.laload, 1))
    (k : Go p e below Post T (mkF m (pc + 1) ls (.long (f j.toNatClampNeg) :: rest))) : Go p e below Post T (mkF m pc ls (.int j :: .ref a :: rest)) := by
  obtain ⟨eT, locs, N, Y⟩ := X
  obtain ⟨cl, A, r1, r2⟩ := A
  subst r1
  exact Go.st (fun t q => Y.laload hx (j := j) (v := .long (f j.toNatClampNeg)) (by rw [eT]; exact A.1) (State.isArrayOf_alike hZ.alike A.2.1) A.2.2 hj (r2 _ (by omega)) (g := mkF m pc ls (.int j :: .ref a :: rest)) rfl rfl hd t q) k
theorem goStI (X : Stn p l e R s m args below meth c n0 T h ck sk) (hx : p.tables.exec = Jvm.exec) (hZ : Z.Warmed39 s.vm) {a : Addr} {n : Nat} {f : Nat → Int32} (A : Ary Z h a .int n (fun i => .int (f i))) {j x : Int32} (hj : ¬ (j < 0 ∨ n ≤ j.toNatClampNeg)) (ha : n0 ≤ a) {pc : Nat} {ls : Array Slot} {rest : List Value} (hd : decode c.code pc = .ok (.iastore, 1))
    (k : ∀ T' h', Stn p l e R s m args below meth c n0 T' h' ck sk → Wr h h' a j.toNatClampNeg (.int x) → Ary Z h' a .int n (fun i => .int (if i = j.toNatClampNeg then x else f i)) → Go p e below Post T' (mkF m (pc + 1) ls rest)) : Go p e below Post T (mkF m pc ls (.int x :: .int j :: .ref a :: rest)) := by
  obtain ⟨eT, locs, N, Y⟩ := X
  have A0 := A
  obtain ⟨cl, A, r1, r2⟩ := A
  subst r1
  obtain ⟨T', h', X', e', W, st⟩ := stI Y hx hZ eT A hj (g := mkF m pc ls (.int x :: .int j :: .ref a :: rest)) rfl rfl hd
  exact Go.st st (k T' h' ⟨e', _, Fr.snoc X' N ha, X'⟩ W ((A0.set W).congr fun i _ => by split <;> rfl))
theorem goStJ (X : Stn p l e R s m args below meth c n0 T h ck sk) (hx : p.tables.exec = Jvm.exec) (hZ : Z.Warmed39 s.vm) {a : Addr} {n : Nat} {f : Nat → Int64} (A : Ary Z h a .long n (fun i => .long (f i))) {j : Int32} {x : Int64} (hj : ¬ (j < 0 ∨ n ≤ j.toNatClampNeg)) (ha : n0 ≤ a) {pc : Nat} {ls : Array Slot} {rest : List Value} (hd : decode c.code pc = .ok (.lastore, 1))
    (k : ∀ T' h', Stn p l e R s m args below meth c n0 T' h' ck sk → Wr h h' a j.toNatClampNeg (.long x) → Ary Z h' a .long n (fun i => .long (if i = j.toNatClampNeg then x else f i)) → Go p e below Post T' (mkF m (pc + 1) ls rest)) : Go p e below Post T (mkF m pc ls (.long x :: .int j :: .ref a :: rest)) := by
  obtain ⟨eT, locs, N, Y⟩ := X
  have A0 := A
  obtain ⟨cl, A, r1, r2⟩ := A
  subst r1
  obtain ⟨T', h', X', e', W, st⟩ := stJ Y hx hZ eT A hj (g := mkF m pc ls (.long x :: .int j :: .ref a :: rest)) rfl rfl hd
  exact Go.st st (k T' h' ⟨e', _, Fr.snoc X' N ha, X'⟩ W ((A0.set W).congr fun i _ => by split <;> rfl))
/-! calls -/
theorem goStatic (X : Stn p l e R s m args below meth c n0 T h ck sk) (hx : p.tables.exec = Jvm.exec) (hZ : Z.Warmed39 s.vm) {own : String} {index : Nat} {y : MethodName} {bytes : ByteArray} {maxL : Nat} {ret : Option FieldType} {rm : Room} {as' : Array Value} {Q : Option Value → Heap → Prop}
    (hown : s.vm.findClass own = some m.cls) (w1 : (Cond.methodLink own index y).before a0 Z = true) (w2 : (Cond.static y).before a0 Z = true) (w3 : (Cond.initialized y.cls).before a0 Z = true) (w4 : (Cond.code y bytes maxL ret).before a0 Z = true)
    (hy : y.cls ≠ "java/lang/invoke/MethodHandle" ∧ y.cls ≠ "java/lang/invoke/VarHandle") (hM : Con l y bytes maxL ret rm [] Z n0 as' h Q) (W : Nat) (hf : rm.frames + 1 ≤ R.frames) (hl : W + (maxL + 11) + rm.locals ≤ R.locals)
    {pc : Nat} {ls : Array Slot} {stk : List Value} (hsize : ls.size = c.maxLocals) (argsL rest : List Value) (hlen : ∀ sig, parseMethodDescriptor y.desc = some sig → argsL.length = sig.parameters.length) (has : argsL.toArray = as') (hstk : stk = argsL.reverse ++ rest) (hW : (rest.map fun v => v.category).sum = W)
    (hd : decode c.code pc = .ok (.invokestatic index, 3)) (hc : ck + rm.cells ≤ R.cells) (hs : sk + rm.slots ≤ R.slots)
    (k : ∀ v T' h', Stn p l e R s m args below meth c n0 T' h' (ck + rm.cells) (sk + rm.slots) → Q v h' → Go p e below Post T' (mkF m (pc + 3) ls (v.toList ++ rest))) : Go p e below Post T (mkF m pc ls stk) := by
  obtain ⟨eT, locs, N, Y⟩ := X
  obtain ⟨v, _, ⟨T', L', k', n'⟩, -, X', ⟨Lc, ⟨hN, hQ⟩, l', y', z'⟩, st⟩ := Jvm.LawKit.callS Y hx (y := y) hown (mvT hZ w1) (mvT hZ w2) (mvT hZ w3) (mvT hZ w4) hy (backOf (W := W) (Q := fun v h' L => Fr n0 L ∧ Q v h') hM hZ w4 w3 hf hl) (g := mkF m pc ls stk) rfl hsize (argsL := argsL) (rest := rest) hlen hstk (by show 2 * 0 + _ ≤ _; omega) hd (fun _ _ => ⟨has, eT, hc, hs⟩)
  dsimp only [Pt.U, Pt.locs, Pt.cells, Pt.slots] at X' l' y' z' st hQ
  subst l' y' z'
  exact Go.st st (k v T' T'.heap ⟨rfl, _, Fr.app N hN, X'⟩ hQ)
theorem goCtor (X : Stn p l e R s m args below meth c n0 T h ck sk) (hx : p.tables.exec = Jvm.exec) (hZ : Z.Warmed39 s.vm) {own : String} {index : Nat} {y : MethodName} {bytes : ByteArray} {maxL : Nat} {rm : Room} {as' : Array Value} {Q : Option Value → Heap → Prop} (hy1 : y.name = "<init>")
    (hown : s.vm.findClass own = some m.cls) (w1 : (Cond.methodLink own index y).before a0 Z = true) (w2 : (Cond.instanceMethod y).before a0 Z = true) (w3 : (Cond.initialized y.cls).before a0 Z = true) (w4 : (Cond.code y bytes maxL none).before a0 Z = true)
    (hy : y.cls ≠ "java/lang/invoke/MethodHandle" ∧ y.cls ≠ "java/lang/invoke/VarHandle") (hM : Con l y bytes maxL none rm [] Z n0 as' h Q) (W : Nat) (hf : rm.frames + 1 ≤ R.frames) (hl : W + (maxL + 11) + rm.locals ≤ R.locals)
    {pc : Nat} {ls : Array Slot} {stk : List Value} (hsize : ls.size = c.maxLocals) (a : Addr) (argsL rest : List Value) (hlen : ∀ sig, parseMethodDescriptor y.desc = some sig → argsL.length = sig.parameters.length) (has : (.ref a :: argsL).toArray = as') (hstk : stk = argsL.reverse ++ .ref a :: rest) (hW : (rest.map fun v => v.category).sum = W)
    (hd : decode c.code pc = .ok (.invokespecial index, 3)) (hc : ck + rm.cells ≤ R.cells) (hs : sk + rm.slots ≤ R.slots)
    (k : ∀ v T' h', Stn p l e R s m args below meth c n0 T' h' (ck + rm.cells) (sk + rm.slots) → Q v h' → Go p e below Post T' (mkF m (pc + 3) ls (v.toList ++ rest))) : Go p e below Post T (mkF m pc ls stk) := by
  obtain ⟨eT, locs, N, Y⟩ := X
  obtain ⟨v, _, ⟨T', L', k', n'⟩, -, X', ⟨Lc, ⟨hN, hQ⟩, l', y', z'⟩, st⟩ := Y.specialBack hx (y := y) hy1 hown (mvT hZ w1) (mvT hZ w2) (mvT hZ w4) hy (backOf (W := W) (Q := fun v h' L => Fr n0 L ∧ Q v h') hM hZ w4 w3 hf hl) (g := mkF m pc ls stk) rfl hsize (Steps.refl _) (a := a) (argsL := argsL) (rest := rest) hlen hstk (by show 2 * 0 + _ ≤ _; omega) hd (fun _ _ => ⟨has, eT, hc, hs⟩)
  dsimp only [Pt.U, Pt.locs, Pt.cells, Pt.slots] at X' l' y' z' st hQ
  subst l' y' z'
  exact Go.st (fun t q => st.trans q) (k v T' T'.heap ⟨rfl, _, Fr.app N hN, X'⟩ hQ)
theorem goVirt (X : Stn p l e R s m args below meth c n0 T h ck sk) (hx : p.tables.exec = Jvm.exec) (hZ : Z.Warmed39 s.vm) {own C : String} {index : Nat} {y z : MethodName} {bytes : ByteArray} {maxL : Nat} {ret : Option FieldType} {rm : Room} {as' : Array Value} {Q : Option Value → Heap → Prop}
    (hown : s.vm.findClass own = some m.cls) (w1 : (Cond.methodLink own index y).before a0 Z = true) (w2 : (Cond.declares y).before a0 Z = true) (nf : NotFace s y) (w5 : (Cond.selects C y z).before a0 Z = true) (w6 : (Cond.instanceMethod z).before a0 Z = true) (w3 : (Cond.initialized z.cls).before a0 Z = true) (w4 : (Cond.code z bytes maxL ret).before a0 Z = true)
    (hy : y.cls ≠ "java/lang/invoke/MethodHandle" ∧ y.cls ≠ "java/lang/invoke/VarHandle") {a : Addr} (E : Exa Z h a C) (hM : Con l z bytes maxL ret rm [] Z n0 as' h Q) (W : Nat) (hf : rm.frames + 1 ≤ R.frames) (hl : W + (maxL + 11) + rm.locals ≤ R.locals)
    {pc : Nat} {ls : Array Slot} {stk : List Value} (hsize : ls.size = c.maxLocals) (argsL rest : List Value) (hlen : ∀ sig, parseMethodDescriptor y.desc = some sig → argsL.length = sig.parameters.length) (has : (.ref a :: argsL).toArray = as') (hstk : stk = argsL.reverse ++ .ref a :: rest) (hW : (rest.map fun v => v.category).sum = W)
    (hd : decode c.code pc = .ok (.invokevirtual index, 3)) (hc : ck + rm.cells ≤ R.cells) (hs : sk + rm.slots ≤ R.slots)
    (k : ∀ v T' h', Stn p l e R s m args below meth c n0 T' h' (ck + rm.cells) (sk + rm.slots) → Q v h' → Go p e below Post T' (mkF m (pc + 3) ls (v.toList ++ rest))) : Go p e below Post T (mkF m pc ls stk) := by
  obtain ⟨eT, locs, N, Y⟩ := X
  obtain ⟨cq, kq, q1, q2, q3⟩ := isOf hZ eT E
  obtain ⟨v, _, ⟨T', L', k', n'⟩, -, X', ⟨Lc, ⟨hN, hQ⟩, l', y', z'⟩, st⟩ := Y.virtualBack hx (y := y) (z := z) hown (mvT hZ w1) (mvT hZ w2) nf (mvT hZ w5) (mvT hZ w6) hy (backOf (W := W) (Q := fun v h' L => Fr n0 L ∧ Q v h') hM hZ w4 w3 hf hl) q1 q3 (g := mkF m pc ls stk) rfl hsize (Steps.refl _) (argsL := argsL) (rest := rest) hlen hstk (by show 2 * 0 + _ ≤ _; omega) hd (fun _ _ => ⟨has, eT, hc, hs⟩)
  dsimp only [Pt.U, Pt.locs, Pt.cells, Pt.slots] at X' l' y' z' st hQ
  subst l' y' z'
  exact Go.st (fun t q => st.trans q) (k v T' T'.heap ⟨rfl, _, Fr.app N hN, X'⟩ hQ)
theorem goVirtS (X : Stn p l e R s m args below meth c n0 T h ck sk) (hx : p.tables.exec = Jvm.exec) (hZ : Z.Warmed39 s.vm) {own : String} {index : Nat} {y : MethodName} {bytes : ByteArray} {maxL : Nat} {ret : Option FieldType} {rm : Room} {as' : Array Value} {Q : Option Value → Heap → Prop}
    (hown : s.vm.findClass own = some m.cls) (w1 : (Cond.methodLink own index y).before a0 Z = true) (w2 : (Cond.declares y).before a0 Z = true) (w5 : (Cond.selects y.cls y y).before a0 Z = true) (w6 : (Cond.instanceMethod y).before a0 Z = true) (w3 : (Cond.initialized y.cls).before a0 Z = true) (w4 : (Cond.code y bytes maxL ret).before a0 Z = true)
    (hy : y.cls ≠ "java/lang/invoke/MethodHandle" ∧ y.cls ≠ "java/lang/invoke/VarHandle") {a : Addr} (E : Exa Z h a y.cls) (hM : Con l y bytes maxL ret rm [] Z n0 as' h Q) (W : Nat) (hf : rm.frames + 1 ≤ R.frames) (hl : W + (maxL + 11) + rm.locals ≤ R.locals)
    {pc : Nat} {ls : Array Slot} {stk : List Value} (hsize : ls.size = c.maxLocals) (argsL rest : List Value) (hlen : ∀ sig, parseMethodDescriptor y.desc = some sig → argsL.length = sig.parameters.length) (has : (.ref a :: argsL).toArray = as') (hstk : stk = argsL.reverse ++ .ref a :: rest) (hW : (rest.map fun v => v.category).sum = W)
    (hd : decode c.code pc = .ok (.invokevirtual index, 3)) (hc : ck + rm.cells ≤ R.cells) (hs : sk + rm.slots ≤ R.slots)
    (k : ∀ v T' h', Stn p l e R s m args below meth c n0 T' h' (ck + rm.cells) (sk + rm.slots) → Q v h' → Go p e below Post T' (mkF m (pc + 3) ls (v.toList ++ rest))) : Go p e below Post T (mkF m pc ls stk) :=
  goVirt X hx hZ hown w1 w2 (notFace_of_selects (args := #[]) (mvT hZ w5)) w5 w6 w3 w4 hy E hM W hf hl hsize argsL rest hlen has hstk hW hd hc hs k
theorem goPriv (X : Stn p l e R s m args below meth c n0 T h ck sk) (hx : p.tables.exec = Jvm.exec) (hZ : Z.Warmed39 s.vm) {own C : String} {index : Nat} {y : MethodName} {bytes : ByteArray} {maxL : Nat} {ret : Option FieldType} {rm : Room} {as' : Array Value} {Q : Option Value → Heap → Prop}
    (hown : s.vm.findClass own = some m.cls) (w1 : (Cond.methodLink own index y).before a0 Z = true) (w6 : (Cond.instanceMethod y).before a0 Z = true) {kk : Nat} (wi : (Cond.instantiable y.cls kk).before a0 Z = true) (w7 : (Cond.privateMethod y).before a0 Z = true) (w3 : (Cond.initialized y.cls).before a0 Z = true) (w4 : (Cond.code y bytes maxL ret).before a0 Z = true)
    (hy : y.cls ≠ "java/lang/invoke/MethodHandle" ∧ y.cls ≠ "java/lang/invoke/VarHandle") {a : Addr} (E : Exa Z h a C) (hM : Con l y bytes maxL ret rm [] Z n0 as' h Q) (W : Nat) (hf : rm.frames + 1 ≤ R.frames) (hl : W + (maxL + 11) + rm.locals ≤ R.locals)
    {pc : Nat} {ls : Array Slot} {stk : List Value} (hsize : ls.size = c.maxLocals) (argsL rest : List Value) (hlen : ∀ sig, parseMethodDescriptor y.desc = some sig → argsL.length = sig.parameters.length) (has : (.ref a :: argsL).toArray = as') (hstk : stk = argsL.reverse ++ .ref a :: rest) (hW : (rest.map fun v => v.category).sum = W)
    (hd : decode c.code pc = .ok (.invokevirtual index, 3)) (hc : ck + rm.cells ≤ R.cells) (hs : sk + rm.slots ≤ R.slots)
    (k : ∀ v T' h', Stn p l e R s m args below meth c n0 T' h' (ck + rm.cells) (sk + rm.slots) → Q v h' → Go p e below Post T' (mkF m (pc + 3) ls (v.toList ++ rest))) : Go p e below Post T (mkF m pc ls stk) := by
  obtain ⟨eT, locs, N, Y⟩ := X
  obtain ⟨cq, q1, q2⟩ := E.cell
  have hi : (Cond.instantiable y.cls kk).before args s = true := mvT hZ wi
  obtain ⟨ci, ki, i1, i2, -, i4, -⟩ := Cond.instantiable_spec hi
  have i7 : ki.isInterface = false := by
    cases q : ki.isInterface
    · rfl
    · rw [q] at i4; cases i4
  have hsel : (Cond.selects y.cls y y).before args s = true := selects_self_of_private i1 i2 i7 (Cond.privateMethod_at (mvP hZ w7 (args := #[]))) (mvT hZ w6) hy
  obtain ⟨v, _, ⟨T', L', k', n'⟩, -, X', ⟨Lc, ⟨hN, hQ⟩, l', y', z'⟩, st⟩ := Y.privateBack hx (y := y) hown (mvT hZ w1) (mvT hZ w6) hsel (Cond.privateMethod_at (mvP hZ w7 (args := #[]))) (mvT hZ w4) hy (backOf (W := W) (Q := fun v h' L => Fr n0 L ∧ Q v h') hM hZ w4 w3 hf hl) (g := mkF m pc ls stk) rfl hsize (Steps.refl _) (a := a) (by rw [eT]; exact q1) q2 (argsL := argsL) (rest := rest) hlen hstk (by show 2 * 0 + _ ≤ _; omega) hd (fun _ _ => ⟨has, eT, hc, hs⟩)
  dsimp only [Pt.U, Pt.locs, Pt.cells, Pt.slots] at X' l' y' z' st hQ
  subst l' y' z'
  exact Go.st (fun t q => st.trans q) (k v T' T'.heap ⟨rfl, _, Fr.app N hN, X'⟩ hQ)
theorem own_i32_rem (x y : Int32) : x - (x / y) * y = x % y := by
  apply Int32.toInt_inj.mp
  rw [Int32.toInt_mod, Int32.toInt_sub, Int32.toInt_mul, Int32.toInt_div]
  have hb : x.toInt.tmod y.toInt = (x.toInt.tmod y.toInt).bmod (2 ^ 32) := by
    rw [← Int32.toInt_mod]
    exact (Int32.toInt_bmod _).symm
  rw [hb, Int.tmod_def]
  simp [Int.mul_comm]
theorem own_irem {T target : State} (X : At T m c below) (hx : p.tables.exec = Jvm.exec) {pc : Nat} {ls : Array Slot} {x y : Int32} {rest : List Value} (hd : decode c.code pc = .ok (.irem, 1)) (hy : y ≠ 0)
    (hr : Steps p.tables e below (T.setTop (mkF m (pc + 1) ls (.int (x % y) :: rest))) target) : Steps p.tables e below (T.setTop (mkF m pc ls (.int y :: .int x :: rest))) target :=
  XS.irem X hx (g := mkF m pc ls (.int y :: .int x :: rest)) rfl hd rfl hy (by rw [own_i32_rem]; exact hr)
end OwnLayer
section OwnLayer2
variable {p : Program} {l : Launch} {e : Env} {R : Room} {s : State} {m : MethodId} {args : Array Value} {below : List Frame} {meth : Method} {c : Code} {T T' : State} {h h' : Heap} {n0 ck sk : Nat} {Z : State} {a0 : Array Value} {Post : Outcome → State → Prop}
theorem sta_keep {C n d : String} {v : Value} {ws : List Addr} (F : Sta Z h C n d v) (K : Keep h h' ws) (q : ∀ x ∈ ws, ∃ C', Exa Z h x C') : Sta Z h' C n d v := by
  obtain ⟨cf, i, k, f, st, cell, h1, h2, h3, h4, h5, h6, h7⟩ := F
  refine ⟨cf, i, k, f, st, cell, h1, h2, h3, h4, K.2.1 st cell h5 fun z => ?_, h6, h7⟩
  obtain ⟨C', cell', k', e1, -, -, e4, -⟩ := q st z
  cases h5.symm.trans e1
  rw [h6] at e4
  cases e4
theorem goGetS (X : Stn p l e R s m args below meth c n0 T h ck sk) (hx : p.tables.exec = Jvm.exec) (hZ : Z.Warmed39 s.vm) {own R0 O n d host : String} {index : Nat} (hown : s.vm.findClass own = some m.cls) (w : (Cond.fieldLink own index R0 n d).before a0 Z = true ∨ (Cond.fieldLinkNest own index R0 n d host).before a0 Z = true) (via : Via Z R0 O n d)
    {v : Value} (F : Sta Z h O n d v) {pc : Nat} {ls : Array Slot} {st : List Value} (hd : decode c.code pc = .ok (.getstatic index, 3))
    (k : ∀ T', Stn p l e R s m args below meth c n0 T' h ck sk → Go p e below Post T' (mkF m (pc + 3) ls (v :: st))) : Go p e below Post T (mkF m pc ls st) := by
  obtain ⟨eT, locs, N, Y⟩ := X
  obtain ⟨T', X', e', stp⟩ := getS2 Y hx hZ hown w via eT F (g := mkF m pc ls st) rfl hd
  exact Go.st stp (k T' ⟨e', locs, N, X'⟩)
theorem goInstY (X : Stn p l e R s m args below meth c n0 T h ck sk) (hx : p.tables.exec = Jvm.exec) (hZ : Z.Warmed39 s.vm) {own K : String} {index : Nat} (hown : s.vm.findClass own = some m.cls) (w : (Cond.classLink own index K).before a0 Z = true) {a : Addr} (F : Ins Z h a K true)
    {pc : Nat} {ls : Array Slot} {rest : List Value} (hd : decode c.code pc = .ok (.instanceof index, 3)) (k : ∀ T', Stn p l e R s m args below meth c n0 T' h ck sk → Go p e below Post T' (mkF m (pc + 3) ls (.int 1 :: rest))) : Go p e below Post T (mkF m pc ls (.ref a :: rest)) := by
  obtain ⟨eT, locs, N, Y⟩ := X
  obtain ⟨T', X', e', st⟩ := instY Y hx hZ hown w eT F (g := mkF m pc ls (.ref a :: rest)) rfl rfl hd
  exact Go.st st (k T' ⟨e', locs, N, X'⟩)
theorem goInstNo (X : Stn p l e R s m args below meth c n0 T h ck sk) (hx : p.tables.exec = Jvm.exec) (hZ : Z.Warmed39 s.vm) {own K C : String} {index : Nat} (hown : s.vm.findClass own = some m.cls) (w : (Cond.classLink own index K).before a0 Z = true) {a : Addr} (E : Exa Z h a C) (F : ∃ c t, Z.vm.findClass C = some c ∧ Z.vm.findClass K = some t ∧ Z.vm.assignable c t = false)
    {pc : Nat} {ls : Array Slot} {rest : List Value} (hd : decode c.code pc = .ok (.instanceof index, 3)) (k : ∀ T', Stn p l e R s m args below meth c n0 T' h ck sk → Go p e below Post T' (mkF m (pc + 3) ls (.int 0 :: rest))) : Go p e below Post T (mkF m pc ls (.ref a :: rest)) := by
  obtain ⟨eT, locs, N, Y⟩ := X
  obtain ⟨T', X', e', st⟩ := instNo Y hx hZ hown w eT E F (g := mkF m pc ls (.ref a :: rest)) rfl rfl hd
  exact Go.st st (k T' ⟨e', locs, N, X'⟩)
theorem goInstNull (X : Stn p l e R s m args below meth c n0 T h ck sk) (hx : p.tables.exec = Jvm.exec) {index : Nat}
    {pc : Nat} {ls : Array Slot} {rest : List Value} (hd : decode c.code pc = .ok (.instanceof index, 3)) (k : Go p e below Post T (mkF m (pc + 3) ls (.int 0 :: rest))) : Go p e below Post T (mkF m pc ls (.null :: rest)) := by
  obtain ⟨eT, locs, N, Y⟩ := X
  exact Go.st (fun t q => Y.instanceofNull hx (g := mkF m pc ls (.null :: rest)) rfl rfl hd t q) k
/-- no object of the class C (whose superclasses are Object's chain) is one of K -/
theorem ns_root {O K : String} {kk : Nat} (w : (Cond.noSuperclass O).before a0 Z = true) (wk : (Cond.instantiable K kk).before a0 Z = true) (hn : O ≠ K) : NS Z O K := by
  obtain ⟨c, k, h1, h2, h3, -, -⟩ := Cond.noSuperclass_spec w
  obtain ⟨t, kt, g1, g2, -⟩ := Cond.instantiable_spec wk
  have ne := ids_ne h1 g1 hn
  refine ⟨c, t, h1, g1, fun fuel => ?_⟩
  cases fuel with
  | zero => rfl
  | succ f => simp [Vm.isSubclassAux, ne, h2, h3]
theorem ns_no {C S K : String} {kk : Nat} (w : (Cond.superclass C S).before a0 Z = true) (wk : (Cond.instantiable K kk).before a0 Z = true) (n : NS Z C K) (hn : C ≠ K) : ∃ c t, Z.vm.findClass C = some c ∧ Z.vm.findClass K = some t ∧ Z.vm.assignable c t = false := by
  obtain ⟨c, t, h0, g0, n3⟩ := n
  obtain ⟨p, k, kp, h1, h2, h3, h4, h5, -, h7⟩ := Cond.superclass_spec h0 w
  obtain ⟨t', k', g1, g2, g5, g6, -⟩ := Cond.instantiable_spec wk
  cases g0.symm.trans g1
  have g7 : k'.isInterface = false := by
    cases q : k'.isInterface
    · rfl
    · rw [q] at g6; cases g6
  have ne := ids_ne h0 g0 hn
  refine ⟨c, t, h0, g0, ?_⟩
  show Z.vm.assignableAux (255 + 1) c t = false
  simp [Vm.assignableAux, ne, h2, g2, h5, g5, g7, Vm.isSubclass, n3]
/-! arrays of references -/
def AO (Z : State) (h : Heap) (a : Addr) (C : String) : Prop := ∃ cl : Cell, h[a]? = some cl ∧ Ovr Z cl.cls C
theorem AO.ext {a : Addr} {C : String} (E : Ext h h') (F : AO Z h a C) : AO Z h' a C := by obtain ⟨cl, h1, h2⟩ := F; exact ⟨cl, E.2 _ _ h1, h2⟩
theorem AO.wr {a b : Addr} {C : String} {sl : Nat} {v : Value} (W : Wr h h' b sl v) (F : AO Z h a C) : AO Z h' a C := by
  obtain ⟨cl, h1, h2⟩ := F
  obtain ⟨cl', g1, g2, -⟩ := wr_at W h1
  exact ⟨cl', g1, by rw [g2]; exact h2⟩
theorem AO.keep {a : Addr} {C : String} {ws : List Addr} (F : AO Z h a C) (K : Keep h h' ws) : AO Z h' a C := by
  obtain ⟨cl, h1, h2⟩ := F
  obtain ⟨cl', g1, g2, -⟩ := K.2.2 a cl h1
  exact ⟨cl', g1, by rw [g2]; exact h2⟩
theorem goNewR (X : Stn p l e R s m args below meth c n0 T h ck sk) (hx : p.tables.exec = Jvm.exec) (hZ : Z.Warmed39 s.vm) {own C : String} {index : Nat} (hown : s.vm.findClass own = some m.cls) (w1 : (Cond.classLink own index C).before a0 Z = true) (w2 : (Cond.arrayOver (.object C)).before a0 Z = true)
    {pc : Nat} {ls : Array Slot} {n : Int32} {rest : List Value} (hd : decode c.code pc = .ok (.anewarray index, 3)) (hn : ¬ n < 0) {cap : Nat} (hcap : n.toNatClampNeg ≤ cap) (hb : cap * 8 ≤ 536870912) (hc : ck + 1 ≤ R.cells) (hl : sk + cap ≤ R.slots) {ad : String} (had : "[" ++ (FieldType.object C).toString = ad)
    (k : ∀ T' h' a, a = h.size → Stn p l e R s m args below meth c n0 T' h' (ck + 1) (sk + cap) → Ext h h' → Exa Z h' a ad → Ary Z h' a (.object C) n.toNatClampNeg (fun _ => .null) → AO Z h' a C → Go p e below Post T' (mkF m (pc + 3) ls (.ref a :: rest))) : Go p e below Post T (mkF m pc ls (.int n :: rest)) := by
  obtain ⟨eT, locs, N, Y⟩ := X
  obtain ⟨T', h', cA, X', e', E, A, Ex, O, st⟩ := newRE Y hx hZ hown w1 w2 eT (g := mkF m pc ls (.int n :: rest)) rfl hd rfl hn hcap hb hc hl had
  exact Go.st st (k T' h' _ rfl ⟨e', locs, N, X'⟩ E Ex (Ary.new A) ⟨_, A.1, O⟩)
theorem goLdR (X : Stn p l e R s m args below meth c n0 T h ck sk) (hx : p.tables.exec = Jvm.exec) (hZ : Z.Warmed39 s.vm) {a : Addr} {ty : FieldType} {n : Nat} {f : Nat → Value} (A : Ary Z h a ty n f) (hty : ty.isReference = true) {j : Int32} (hj : ¬ (j < 0 ∨ n ≤ j.toNatClampNeg)) {pc : Nat} {ls : Array Slot} {rest : List Value} (hd : decode c.code pc = .ok (.aaload, 1))
    (k : Go p e below Post T (mkF m (pc + 1) ls (f j.toNatClampNeg :: rest))) : Go p e below Post T (mkF m pc ls (.int j :: .ref a :: rest)) := by
  obtain ⟨eT, locs, N, Y⟩ := X
  obtain ⟨cl, A, r1, r2⟩ := A
  subst r1
  exact Go.st (fun t q => Y.aaload hx (j := j) (v := f j.toNatClampNeg) (by rw [eT]; exact A.1) (State.isArrayOf_alike hZ.alike A.2.1) hty A.2.2 hj (r2 _ (by omega)) (g := mkF m pc ls (.int j :: .ref a :: rest)) rfl rfl hd t q) k
theorem goStR (X : Stn p l e R s m args below meth c n0 T h ck sk) (hx : p.tables.exec = Jvm.exec) (hZ : Z.Warmed39 s.vm) {a y : Addr} {ty : FieldType} {n : Nat} {f : Nat → Value} {C : String} (A : Ary Z h a ty n f) (hty : ty.isReference = true) (O : AO Z h a C) (I : Ins Z h y C true) {j : Int32} (hj : ¬ (j < 0 ∨ n ≤ j.toNatClampNeg)) (ha : n0 ≤ a) {pc : Nat} {ls : Array Slot} {rest : List Value} (hd : decode c.code pc = .ok (.aastore, 1))
    (k : ∀ T' h', Stn p l e R s m args below meth c n0 T' h' ck sk → Wr h h' a j.toNatClampNeg (.ref y) → Ary Z h' a ty n (fun i => if i = j.toNatClampNeg then .ref y else f i) → Go p e below Post T' (mkF m (pc + 1) ls rest)) : Go p e below Post T (mkF m pc ls (.ref y :: .int j :: .ref a :: rest)) := by
  obtain ⟨eT, locs, N, Y⟩ := X
  have A0 := A
  obtain ⟨cl, A, r1, r2⟩ := A
  obtain ⟨cl2, o1, o2⟩ := O
  cases A.1.symm.trans o1
  subst r1
  obtain ⟨T', h', X', e', W, st⟩ := stR Y hx hZ eT A hj hty (Sto.of A o2 I) (g := mkF m pc ls (.ref y :: .int j :: .ref a :: rest)) rfl rfl hd
  exact Go.st st (k T' h' ⟨e', _, Fr.snoc X' N ha, X'⟩ W (A0.set W))
end OwnLayer2

section OwnLayer4
variable {p : Program} {l : Launch} {e : Env} {R : Room} {s : State} {m : MethodId} {args : Array Value} {below : List Frame} {meth : Method} {c : Code} {T T' : State} {h h' : Heap} {n0 ck sk ck' sk' : Nat} {Z : State} {a0 : Array Value} {Post : Outcome → State → Prop}
theorem goLdC (X : Stn p l e R s m args below meth c n0 T h ck sk) (hx : p.tables.exec = Jvm.exec) (hZ : Z.Warmed39 s.vm) {a : Addr} {n : Nat} {f : Nat → Int32} (A : Ary Z h a .char n (fun i => .int (f i))) {j : Int32} (hj : ¬ (j < 0 ∨ n ≤ j.toNatClampNeg)) {pc : Nat} {ls : Array Slot} {rest : List Value} (hd : decode c.code pc = .ok (.caload, 1))
    (k : Go p e below Post T (mkF m (pc + 1) ls (.int (f j.toNatClampNeg) :: rest))) : Go p e below Post T (mkF m pc ls (.int j :: .ref a :: rest)) := by
  obtain ⟨eT, locs, N, Y⟩ := X
  obtain ⟨cl, A, r1, r2⟩ := A
  subst r1
  exact Go.st (fun t q => Y.caload hx (j := j) (v := .int (f j.toNatClampNeg)) (by rw [eT]; exact A.1) (State.isArrayOf_alike hZ.alike A.2.1) A.2.2 hj (r2 _ (by omega)) (g := mkF m pc ls (.int j :: .ref a :: rest)) rfl rfl hd t q) k
theorem goStB (X : Stn p l e R s m args below meth c n0 T h ck sk) (hx : p.tables.exec = Jvm.exec) (hZ : Z.Warmed39 s.vm) {a : Addr} {n : Nat} {f : Nat → Int32} (A : Ary Z h a .byte n (fun i => .int (f i))) {j x : Int32} (hj : ¬ (j < 0 ∨ n ≤ j.toNatClampNeg)) (ha : n0 ≤ a) {pc : Nat} {ls : Array Slot} {rest : List Value} (hd : decode c.code pc = .ok (.bastore, 1))
    (k : ∀ T' h', Stn p l e R s m args below meth c n0 T' h' ck sk → Wr h h' a j.toNatClampNeg (.int (nar .byte x)) → Ary Z h' a .byte n (fun i => .int (if i = j.toNatClampNeg then nar .byte x else f i)) → Go p e below Post T' (mkF m (pc + 1) ls rest)) : Go p e below Post T (mkF m pc ls (.int x :: .int j :: .ref a :: rest)) := by
  obtain ⟨eT, locs, N, Y⟩ := X
  have A0 := A
  obtain ⟨cl, A, r1, r2⟩ := A
  subst r1
  obtain ⟨T', h', X', e', W, st⟩ := stB Y hx hZ eT A hj (g := mkF m pc ls (.int x :: .int j :: .ref a :: rest)) rfl rfl hd
  exact Go.st st (k T' h' ⟨e', _, Fr.snoc X' N ha, X'⟩ W ((A0.set W).congr fun i _ => by split <;> rfl))
theorem goRetB {pc : Nat} {Ls : Array Slot} {z z' : Int32} {rest : List Value} {Q : Option Value → Heap → Prop} {C S : Nat} (X : Stn p l e R s m args below meth c n0 T h ck sk) (hx : p.tables.exec = Jvm.exec) (hlk : meth.locks = false) (hret : meth.sig.returnType = some .byte)
    (hd : decode c.code pc = .ok (.ireturn, 1)) (h1 : ck ≤ C) (h2 : sk ≤ S) (hz : nar .byte z = z') (hq : Q (some (.int z')) h) : Go p e below (PostW s n0 C S Q) T (mkF m pc Ls (.int z :: rest)) := by
  subst hz
  exact goRet X hlk (fun h => by rw [hret] at h; cases h) (fun _ _ Y hr => retN Y hx (t := .byte) hret (by simp) hd hr) hq h1 h2
end OwnLayer4

section OwnLayerS
/-! the walk of a body that may load a String constant (the tables may gain an interned pair): as in the first layer, over the start with later tables vm0 -/
variable {p : Program} {l : Launch} {e : Env} {R : Room} {s : State} {m : MethodId} {args : Array Value} {below : List Frame} {meth : Method} {c : Code} {T T' : State} {h h' : Heap} {n0 n1 ck sk ck' sk' : Nat} {Z : State} {a0 : Array Value} {Post : Outcome → State → Prop} {vm0 : Vm} {k0 : Nat} {own : String}
def S_Stn (vm0 : Vm) (p : Program) (l : Launch) (e : Env) (R : Room) (s : State) (m : MethodId) (args : Array Value) (below : List Frame) (meth : Method) (c : Code) (n0 : Nat) (T : State) (h : Heap) (ck sk : Nat) : Prop :=
  T.heap = h ∧ ∃ (k0 : Nat) (locs : List Loc), s.Since vm0 k0 ∧ k0 ≤ h.size ∧ Fr n0 locs ∧ Stand p l e R (s.setVm vm0) m args below meth c T locs ck sk
theorem S_Stn.here (X : S_Stn vm0 p l e R s m args below meth c n0 T h ck sk) : At T m c below := by
  obtain ⟨_, _, _, _, _, _, Y⟩ := X
  exact Y.here
theorem S_Stn.mono (X : S_Stn vm0 p l e R s m args below meth c n0 T h ck sk) (h1 : ck ≤ ck') (h2 : sk ≤ sk') : S_Stn vm0 p l e R s m args below meth c n0 T h ck' sk' := by
  obtain ⟨e1, k, L, a, b, N, Y⟩ := X
  exact ⟨e1, k, L, a, b, N, Y.more h1 h2⟩
theorem S_Stn.low (X : S_Stn vm0 p l e R s m args below meth c n1 T h ck sk) (h1 : n0 ≤ n1) : S_Stn vm0 p l e R s m args below meth c n0 T h ck sk := by
  obtain ⟨e1, k, L, a, b, N, Y⟩ := X
  exact ⟨e1, k, L, a, b, fun y hy => Nat.le_trans h1 (N y hy), Y⟩
theorem S_base (hZ : Z.Warmed39 s.vm) (hSi : s.Since vm0 k0) : Z.Warmed39 (s.setVm vm0).vm := State.Warmed39.trans hZ hSi.1
theorem S_own (hown : s.vm.findClass own = some m.cls) (hSi : s.Since vm0 k0) : (s.setVm vm0).vm.findClass own = some m.cls := by
  show vm0.findClass own = _
  rw [hSi.1.alike.findClass]
  exact hown
def S_PostW (s : State) (n0 C S : Nat) (Q : Option Value → Heap → Vm → Prop) (o : Outcome) (U : State) : Prop :=
  ∃ v L, o = .returned v ∧ (Fr n0 L ∧ Q v U.heap U.vm) ∧ ReturnedEndW s o U L C S
def S_Con (l : Launch) (y : MethodName) (bytes : ByteArray) (maxL : Nat) (ret : Option FieldType) (rm : Room) (ws : List Jvm.Cond) (Z : State) (J : Vm → Prop) (n0 : Nat) (as' : Array Value) (h : Heap) (Q : Option Value → Heap → Vm → Prop) : Prop :=
  MetFree l y (head1 (Jvm.Cond.code y bytes maxL ret :: ws) rm) (fun a U => a = as' ∧ Z.Warmed39 U.vm ∧ U.heap = h ∧ J U.vm) (fun _ _ _ _ _ => True) (fun _ U o U' => ∃ v L, o = .returned v ∧ (Fr n0 L ∧ Q v U'.heap U'.vm) ∧ ReturnedEndW U o U' L rm.cells rm.slots)
theorem S_Con.body {J : Vm → Prop} {y : MethodName} {bytes : ByteArray} {maxL : Nat} {ret : Option FieldType} {rm : Room} {ws : List Jvm.Cond} {as' : Array Value} {Q : Option Value → Heap → Vm → Prop} (hp : plainFor y = true)
    (k : ∀ (p : Program) (e : Env) (s : State) (m : MethodId) (below : List Frame) (meth : Method) (c : Code) (s₁ : State), p.tables.exec = Jvm.exec → c.code = bytes → c.maxLocals = maxL → s.vm.findClass y.cls = some m.cls → meth.name = y.name → meth.sig.returnType = ret → meth.locks = false → Z.Warmed39 s.vm → s.heap = h → J s.vm →
      (∀ n0, S_Stn s.vm p l e rm s m as' below meth c n0 s₁ h 0 0) → Go p e below (S_PostW s n0 rm.cells rm.slots Q) s₁ (entryFrame m as' maxL)) : S_Con l y bytes maxL ret rm ws Z J n0 as' h Q := by
  refine MetFree.of_bodySF hp hisR ?_
  intro p e s m args below meth c s₁ Bd hml0 hP hK
  obtain ⟨rfl, hZ, hh, hj⟩ := hP
  have e0 : s₁.heap = h := by rw [← hh, Bd.state]; rfl
  exact k p e s m below meth c s₁ Bd.exec Bd.bytes hml0 (findClass_of_methodNamed Bd.named) (name_of_methodNamed Bd.named Bd.method).1 Bd.returns Bd.notSynchronized hZ hh hj (fun n => ⟨e0, 0, [], (State.WarmedH.refl s).since 0, Nat.zero_le _, Fr.nil n, Stand.of_body Bd⟩)
theorem S_goRet {g : JFrame} {v : Option Value} {Q : Option Value → Heap → Vm → Prop} {C S : Nat} (X : S_Stn vm0 p l e R s m args below meth c n0 T h ck sk) (hlk : meth.locks = false) (hv : meth.sig.returnType = none → v = none)
    (hst : ∀ locs fs, Stand p l e R (s.setVm vm0) m args below meth c T locs ck sk → (∀ (f : JFrame) (acts : List Action), f.method = m → f.locked = none → f.entered = [] → (doReturn e (T.setTop f) acts v).1 = T.setFrames fs) → Steps p.tables e below (T.setTop g) (T.setFrames fs))
    (hq : ∀ vm, (s.setVm vm0).WarmedH vm → Q v h vm) (h1 : ck ≤ C) (h2 : sk ≤ S) : Go p e below (S_PostW s n0 C S Q) T g := by
  obtain ⟨eT, k0, locs, hSi, hk, N, Y⟩ := X
  obtain ⟨fs, hr, hrun, hended, hW, hsame⟩ := Y.leave hv hlk
  have hn : k0 ≤ (T.setFrames fs).heap.size := by show k0 ≤ T.heap.size; rw [eT]; exact hk
  obtain ⟨b1, b2, b3⟩ := hSi.ended hW hn hsame
  exact ⟨_, _, hst locs fs Y hr, hrun, hended, _, _, rfl, ⟨N, (by show Q v T.heap _; rw [eT]; exact hq _ hW)⟩, ⟨_, rfl⟩, b1, b2, b3.mono h1 h2⟩
theorem S_goRetZ {pc : Nat} {Ls : Array Slot} {z : Int32} {rest : List Value} {Q : Option Value → Heap → Vm → Prop} {C S : Nat} (X : S_Stn vm0 p l e R s m args below meth c n0 T h ck sk) (hx : p.tables.exec = Jvm.exec) (hlk : meth.locks = false) (hret : meth.sig.returnType = some .boolean)
    (hd : decode c.code pc = .ok (.ireturn, 1)) (h1 : ck ≤ C) (h2 : sk ≤ S) (hz : z = 0 ∨ z = 1) (hq : ∀ vm, (s.setVm vm0).WarmedH vm → Q (some (.int z)) h vm) : Go p e below (S_PostW s n0 C S Q) T (mkF m pc Ls (.int z :: rest)) := by
  rcases hz with rfl | rfl
  · exact S_goRet X hlk (fun h => by rw [hret] at h; cases h) (fun _ _ Y hr => retN Y hx (t := .boolean) hret (by simp) hd hr) hq h1 h2
  · exact S_goRet X hlk (fun h => by rw [hret] at h; cases h) (fun _ _ Y hr => retN Y hx (t := .boolean) hret (by simp) hd hr) hq h1 h2
theorem S_goRetV {pc : Nat} {Ls : Array Slot} {Q : Option Value → Heap → Vm → Prop} {C S : Nat} (X : S_Stn vm0 p l e R s m args below meth c n0 T h ck sk) (hx : p.tables.exec = Jvm.exec) (hlk : meth.locks = false) (hret : meth.sig.returnType = none)
    (hd : decode c.code pc = .ok (.return_, 1)) (h1 : ck ≤ C) (h2 : sk ≤ S) (hq : ∀ vm, (s.setVm vm0).WarmedH vm → Q none h vm) : Go p e below (S_PostW s n0 C S Q) T (mkF m pc Ls []) :=
  S_goRet X hlk (fun _ => rfl) (fun _ _ Y hr => Y.returnOut hx hret hd hr) hq h1 h2
theorem S_goRetA {pc : Nat} {Ls : Array Slot} {z : Addr} {rest : List Value} {t : FieldType} {Q : Option Value → Heap → Vm → Prop} {C S : Nat} (X : S_Stn vm0 p l e R s m args below meth c n0 T h ck sk) (hx : p.tables.exec = Jvm.exec) (hlk : meth.locks = false) (hret : meth.sig.returnType = some t) (ht : t.isReference = true)
    (hd : decode c.code pc = .ok (.areturn, 1)) (h1 : ck ≤ C) (h2 : sk ≤ S) (hq : ∀ vm, (s.setVm vm0).WarmedH vm → Q (some (.ref z)) h vm) : Go p e below (S_PostW s n0 C S Q) T (mkF m pc Ls (.ref z :: rest)) :=
  S_goRet X hlk (fun h => by rw [hret] at h; cases h) (fun _ _ Y hr => by
    jvm_step Y.here [Y.here.top, hx, hd, Y.method', hret, Value.isRef, ht]
    first | (intro acts; rw [hr _ acts rfl rfl rfl]) | rw [hr _ _ rfl rfl rfl]
    exact Steps.refl _) hq h1 h2
theorem S_goNew (X : S_Stn vm0 p l e R s m args below meth c n0 T h ck sk) (hx : p.tables.exec = Jvm.exec) (hZ : Z.Warmed39 s.vm) {C : String} {index n : Nat} (hown : s.vm.findClass own = some m.cls) (w : (Cond.classLink own index C).before a0 Z = true) (wi : (Cond.instantiable C n).before a0 Z = true) (wz : (Cond.initialized C).before a0 Z = true)
    {pc : Nat} {ls : Array Slot} {st : List Value} (hd : decode c.code pc = .ok (.new index, 3)) (hc : ck + 1 ≤ R.cells) (hl : sk + n ≤ R.slots)
    (k : ∀ T' h' a, a = h.size → S_Stn vm0 p l e R s m args below meth c n0 T' h' (ck + 1) (sk + n) → Ext h h' → Exa Z h' a C → (∀ {O nm d : String} {ty : FieldType}, Laid Z a0 C O nm d → parseFieldDescriptor d = some ty → Fld Z h' a O nm d (defaultValue ty)) → Go p e below Post T' (mkF m (pc + 3) ls (.ref a :: st))) : Go p e below Post T (mkF m pc ls st) := by
  obtain ⟨eT, k0, locs, hSi, hk, N, Y⟩ := X
  obtain ⟨T', h', X', e', E, A, D, -, stp⟩ := newO Y hx (S_base hZ hSi) (S_own hown hSi) w wi wz eT (g := mkF m pc ls st) rfl hd hc hl
  exact Go.st stp (k T' h' _ rfl ⟨e', k0, locs, hSi, Nat.le_trans hk E.1, N, X'⟩ E A D)
theorem S_goNewA (X : S_Stn vm0 p l e R s m args below meth c n0 T h ck sk) (hx : p.tables.exec = Jvm.exec) (hZ : Z.Warmed39 s.vm) {aty : ArrayType} (w : (Cond.arrayClass (newarray.typeOf aty)).before a0 Z = true)
    {pc : Nat} {ls : Array Slot} {n : Int32} {rest : List Value} (hd : decode c.code pc = .ok (.newarray aty, 2)) (hn : ¬ n < 0) {cap : Nat} (hcap : n.toNatClampNeg ≤ cap) (hb : cap * 8 ≤ 536870912) (hc : ck + 1 ≤ R.cells) (hl : sk + cap ≤ R.slots) {ad : String} (had : "[" ++ (newarray.typeOf aty).toString = ad)
    (k : ∀ T' h' a, a = h.size → S_Stn vm0 p l e R s m args below meth c n0 T' h' (ck + 1) (sk + cap) → Ext h h' → Exa Z h' a ad → Ary Z h' a (newarray.typeOf aty) n.toNatClampNeg (fun _ => defaultValue (newarray.typeOf aty)) → Go p e below Post T' (mkF m (pc + 2) ls (.ref a :: rest))) : Go p e below Post T (mkF m pc ls (.int n :: rest)) := by
  obtain ⟨eT, k0, locs, hSi, hk, N, Y⟩ := X
  obtain ⟨T', h', cA, X', e', E, A, Ex, st⟩ := newPE Y hx (S_base hZ hSi) w eT (g := mkF m pc ls (.int n :: rest)) rfl hd rfl hn hcap hb hc hl had
  exact Go.st st (k T' h' _ rfl ⟨e', k0, locs, hSi, Nat.le_trans hk E.1, N, X'⟩ E Ex (Ary.new A))
theorem S_goInit (X : S_Stn vm0 p l e R s m args below meth c n0 T h ck sk) (hx : p.tables.exec = Jvm.exec) (hZ : Z.Warmed39 s.vm) {idx : Nat} (hown : s.vm.findClass own = some m.cls) (w1 : (Cond.methodLink own idx Lib.objectInit).before a0 Z = true) (w2 : (Cond.instanceMethod Lib.objectInit).before a0 Z = true)
    (w3 : (Cond.code Lib.objectInit object_method_1_code 1 none).before a0 Z = true) {pc : Nat} {ls : Array Slot} {a : Addr} {rest : List Value} (hsize : ls.size = c.maxLocals) (hd : decode c.code pc = .ok (.invokespecial idx, 3))
    (hf : 1 ≤ R.frames) {W : Nat} (hW : (rest.map fun v => v.category).sum ≤ W) (hl : W + 12 ≤ R.locals)
    (k : ∀ T', S_Stn vm0 p l e R s m args below meth c n0 T' h ck sk → Go p e below Post T' (mkF m (pc + 3) ls rest)) : Go p e below Post T (mkF m pc ls (.ref a :: rest)) := by
  obtain ⟨eT, k0, locs, hSi, hk, N, Y⟩ := X
  obtain ⟨T', X', e', st⟩ := initO Y hx (S_base hZ hSi) (S_own hown hSi) w1 w2 w3 eT (g := mkF m pc ls (.ref a :: rest)) rfl hsize rfl hd hf (W := W) (by show 2 * 0 + _ ≤ _; omega) hl
  exact Go.st st (k T' ⟨e', k0, locs, hSi, hk, N, X'⟩)
theorem S_goGet (X : S_Stn vm0 p l e R s m args below meth c n0 T h ck sk) (hx : p.tables.exec = Jvm.exec) (hZ : Z.Warmed39 s.vm) {R0 O n d host : String} {index : Nat} (hown : s.vm.findClass own = some m.cls) (w : (Cond.fieldLink own index R0 n d).before a0 Z = true ∨ (Cond.fieldLinkNest own index R0 n d host).before a0 Z = true) (via : Via Z R0 O n d)
    {a : Addr} {v : Value} (F : Fld Z h a O n d v) {pc : Nat} {ls : Array Slot} {rest : List Value} (hd : decode c.code pc = .ok (.getfield index, 3))
    (k : ∀ T', S_Stn vm0 p l e R s m args below meth c n0 T' h ck sk → Go p e below Post T' (mkF m (pc + 3) ls (v :: rest))) : Go p e below Post T (mkF m pc ls (.ref a :: rest)) := by
  obtain ⟨eT, k0, locs, hSi, hk, N, Y⟩ := X
  obtain ⟨T', X', e', st⟩ := getF Y hx (S_base hZ hSi) (S_own hown hSi) w via eT F (g := mkF m pc ls (.ref a :: rest)) rfl rfl hd
  exact Go.st st (k T' ⟨e', k0, locs, hSi, hk, N, X'⟩)
theorem S_goPut (X : S_Stn vm0 p l e R s m args below meth c n0 T h ck sk) (hx : p.tables.exec = Jvm.exec) (hZ : Z.Warmed39 s.vm) {R0 O n d host C : String} {index kk : Nat} {ty : FieldType} (hown : s.vm.findClass own = some m.cls) (w : (Cond.fieldLink own index R0 n d).before a0 Z = true ∨ (Cond.fieldLinkNest own index R0 n d host).before a0 Z = true) (via : Via Z R0 O n d)
    {a : Addr} {v old : Value} (F : Fld Z h a O n d old) (E : Exa Z h a C) (L : (Cond.lays C O n d).before a0 Z = true ∨ ((Cond.laysFinal C O n d).before a0 Z = true ∧ own = O ∧ meth.name = "<init>")) (wi : (Cond.instantiable C kk).before a0 Z = true)
    (hty : parseFieldDescriptor d = some ty) (hn : narrow ty v = v) (hf : fits ty v = true) (ha : n0 ≤ a) {pc : Nat} {ls : Array Slot} {rest : List Value} (hd : decode c.code pc = .ok (.putfield index, 3))
    (k : ∀ T' h', S_Stn vm0 p l e R s m args below meth c n0 T' h' ck sk → Wr h h' a (Jvm.RoadKit.slotOf Z O n d) v → Go p e below Post T' (mkF m (pc + 3) ls rest)) : Go p e below Post T (mkF m pc ls (v :: .ref a :: rest)) := by
  obtain ⟨eT, k0, locs, hSi, hk, N, Y⟩ := X
  obtain ⟨T', h', X', e', W, st⟩ := putF Y hx (S_base hZ hSi) (S_own hown hSi) w via eT F E L wi hty hn hf (g := mkF m pc ls (v :: .ref a :: rest)) rfl rfl hd
  exact Go.st st (k T' h' ⟨e', k0, _, hSi, Nat.le_trans hk (Keep.of_wr W).1, Fr.snoc X' N ha, X'⟩ W)
theorem S_goPutN (X : S_Stn vm0 p l e R s m args below meth c n0 T h ck sk) (hx : p.tables.exec = Jvm.exec) (hZ : Z.Warmed39 s.vm) {R0 O n d C : String} {index kk : Nat} {ty : FieldType} (hown : s.vm.findClass own = some m.cls) (w : (Cond.fieldLink own index R0 n d).before a0 Z = true) (via : Via Z R0 O n d)
    {a : Addr} {v v' old : Value} (F : Fld Z h a O n d old) (E : Exa Z h a C) (L : (Cond.lays C O n d).before a0 Z = true ∨ ((Cond.laysFinal C O n d).before a0 Z = true ∧ own = O ∧ meth.name = "<init>")) (wi : (Cond.instantiable C kk).before a0 Z = true)
    (hty : parseFieldDescriptor d = some ty) (hn : narrow ty v = v') (hf : fits ty v' = true) (ha : n0 ≤ a) {pc : Nat} {ls : Array Slot} {rest : List Value} (hd : decode c.code pc = .ok (.putfield index, 3))
    (k : ∀ T' h', S_Stn vm0 p l e R s m args below meth c n0 T' h' ck sk → Wr h h' a (Jvm.RoadKit.slotOf Z O n d) v' → Go p e below Post T' (mkF m (pc + 3) ls rest)) : Go p e below Post T (mkF m pc ls (v :: .ref a :: rest)) := by
  obtain ⟨eT, k0, locs, hSi, hk, N, Y⟩ := X
  obtain ⟨T', h', X', e', W, st⟩ := putFN Y hx (S_base hZ hSi) (S_own hown hSi) w via eT F E L wi hty hn hf (g := mkF m pc ls (v :: .ref a :: rest)) rfl rfl hd
  exact Go.st st (k T' h' ⟨e', k0, _, hSi, Nat.le_trans hk (Keep.of_wr W).1, Fr.snoc X' N ha, X'⟩ W)
theorem S_goStC (X : S_Stn vm0 p l e R s m args below meth c n0 T h ck sk) (hx : p.tables.exec = Jvm.exec) (hZ : Z.Warmed39 s.vm) {a : Addr} {n : Nat} {f : Nat → Int32} (A : Ary Z h a .char n (fun i => .int (f i))) {j x : Int32} (hj : ¬ (j < 0 ∨ n ≤ j.toNatClampNeg)) (ha : n0 ≤ a) {pc : Nat} {ls : Array Slot} {rest : List Value} (hd : decode c.code pc = .ok (.castore, 1))
    (k : ∀ T' h', S_Stn vm0 p l e R s m args below meth c n0 T' h' ck sk → Wr h h' a j.toNatClampNeg (.int (nar .char x)) → Ary Z h' a .char n (fun i => .int (if i = j.toNatClampNeg then nar .char x else f i)) → Go p e below Post T' (mkF m (pc + 1) ls rest)) : Go p e below Post T (mkF m pc ls (.int x :: .int j :: .ref a :: rest)) := by
  obtain ⟨eT, k0, locs, hSi, hk, N, Y⟩ := X
  have A0 := A
  obtain ⟨cl, A, r1, r2⟩ := A
  subst r1
  obtain ⟨T', h', X', e', W, st⟩ := stC Y hx (S_base hZ hSi) eT A hj (g := mkF m pc ls (.int x :: .int j :: .ref a :: rest)) rfl rfl hd
  exact Go.st st (k T' h' ⟨e', k0, _, hSi, Nat.le_trans hk (Keep.of_wr W).1, Fr.snoc X' N ha, X'⟩ W ((A0.set W).congr fun i _ => by split <;> rfl))
theorem S_goLen (X : S_Stn vm0 p l e R s m args below meth c n0 T h ck sk) (hx : p.tables.exec = Jvm.exec) (hZ : Z.Warmed39 s.vm) {a : Addr} {ty : FieldType} {n : Nat} {f : Nat → Value} (A : Ary Z h a ty n f) {pc : Nat} {ls : Array Slot} {rest : List Value} (hd : decode c.code pc = .ok (.arraylength, 1))
    (k : Go p e below Post T (mkF m (pc + 1) ls (.int n.toInt32 :: rest))) : Go p e below Post T (mkF m pc ls (.ref a :: rest)) := by
  obtain ⟨eT, k0, locs, hSi, hk, N, Y⟩ := X
  obtain ⟨cl, A, r1, -⟩ := A
  subst r1
  exact Go.st (fun t q => Y.arraylength hx (by rw [eT]; exact A.1) (State.isArrayOf_alike (S_base hZ hSi).alike A.2.1) (g := mkF m pc ls (.ref a :: rest)) rfl rfl hd t q) k
/-! String constants -/
/-- the constant's entry is booked to this object -/
def S_lit (Z : State) (own : String) (index : Nat) (a : Addr) (vm : Vm) : Prop := (Z.setVm vm).resolvedAt? own index = some (.string a)
theorem S_goLdcS (X : S_Stn vm0 p l e R s m args below meth c n0 T h ck sk) (hx : p.tables.exec = Jvm.exec) (hZ : Z.Warmed39 s.vm) {text : String} {index : Nat} (hown : s.vm.findClass own = some m.cls) (w : (Cond.stringLink own index text).before a0 Z = true) (wS : ∀ a ∈ Bundle.stringAtoms, a.before a0 Z = true)
    {pc : Nat} {ls : Array Slot} {st : List Value} (hd : decode c.code pc = .ok (.ldc index, 2)) (n : Nat) (hn : 4 * text.toList.length ≤ n) (hbig : n ≤ 536870912) (hc : ck + 2 ≤ R.cells) (hl : sk + (n + 4) ≤ R.slots)
    (k : ∀ a T' h' vm1, S_Stn vm1 p l e R s m args below meth c n0 T' h' (ck + 2) (sk + (n + 4)) → Ext h h' → Go p e below Post T' (mkF m (pc + 2) ls (.ref a :: st))) : Go p e below Post T (mkF m pc ls st) := by
  obtain ⟨eT, k0, locs, hSi, hk, N, Y⟩ := X
  obtain ⟨a, T', h', k1, X', e', E, hS', hk', -, -, stp⟩ := ldcS Y hx (S_base hZ hSi) (S_own hown hSi) w wS eT hSi hk (g := mkF m pc ls st) rfl hd hn hbig hc hl
  exact Go.st (fun t q => stp t q) (k a T' h' T'.vm ⟨e', k1, locs, hS', hk', N, X'⟩ E)
theorem S_goLdcE (X : S_Stn vm0 p l e R s m args below meth c n0 T h ck sk) (hx : p.tables.exec = Jvm.exec) (hZ : Z.Warmed39 s.vm) {text : String} {index : Nat} (hown : s.vm.findClass own = some m.cls) (w : (Cond.stringLink own index text).before a0 Z = true) (wS : ∀ a ∈ Bundle.stringAtoms, a.before a0 Z = true) (hn0 : s.heap.size ≤ n0)
    (hkeep : ∀ (b : Addr) (cl : Cell), Z.heap[b]? = some cl → s.heap[b]? = some cl) {Ts : List String} (I : IB Z vm0 Ts) (hnot : text ∉ Ts) (hh : Jvm.Lit.constHeld Z own index) (hcw : Jvm.Lit.compactW.before a0 Z = true)
    {vs : List Value} {z : Int32} (ht : (∀ c ∈ text.toList, c.toNat < 256) ∧ text.toList.map (fun c => Value.int (Jvm.Lit.byteI c.toNat.toUInt16)) = vs) (hz : ¬ z < 0) (hl2 : z.toNatClampNeg = vs.length)
    {pc : Nat} {ls : Array Slot} {st : List Value} (hd : decode c.code pc = .ok (.ldc index, 2)) (n : Nat) (hn : 4 * text.toList.length ≤ n) (hbig : n ≤ 536870912) (hc : ck + 2 ≤ R.cells) (hl : sk + (n + 4) ≤ R.slots)
    (k : ∀ a b T' h' vm1, S_Stn vm1 p l e R s m args below meth c n0 T' h' (ck + 2) (sk + (n + 4)) → Ext h h' → Exa Z h' a "java/lang/String" → Fld Z h' a "java/lang/String" "coder" "B" (.int 0) → Fld Z h' a "java/lang/String" "value" "[B" (.ref b) → S_lit Z own index a vm1 → Go p e below Post T' (mkF m (pc + 2) ls (.ref a :: st))) : Go p e below Post T (mkF m pc ls st) := by
  obtain ⟨eT, k0, locs, hSi, hk, N, Y⟩ := X
  obtain ⟨a, T', h', k1, b, kb, X', e', E, hS', hk', hZ1, -, A, F1, F2, -, -, -, -, L, stp⟩ := ldcSVL Y hx (S_base hZ hSi) (S_own hown hSi) w wS eT hSi hk (fun y hy => Nat.le_trans hn0 (N y hy)) hkeep I hnot hh hcw ht hz hl2 (g := mkF m pc ls st) rfl hd hn hbig hc hl
  exact Go.st (fun t q => stp t q) (k a b T' h' T'.vm ⟨e', k1, locs, hS', hk', N, X'⟩ E A F1 F2 L)
theorem S_goLdcL (X : S_Stn vm0 p l e R s m args below meth c n0 T h ck sk) (hx : p.tables.exec = Jvm.exec) (hZ : Z.Warmed39 s.vm) {text : String} {index : Nat} (hown : s.vm.findClass own = some m.cls) (w : (Cond.stringLink own index text).before a0 Z = true) {a : Addr} (L : S_lit Z own index a vm0)
    {pc : Nat} {ls : Array Slot} {st : List Value} (hd : decode c.code pc = .ok (.ldc index, 2)) (k : Go p e below Post T (mkF m (pc + 2) ls (.ref a :: st))) : Go p e below Post T (mkF m pc ls st) := by
  obtain ⟨eT, k0, locs, hSi, hk, N, Y⟩ := X
  exact Go.st (fun t q => ldcAgain Y hx (S_base hZ hSi) (S_own hown hSi) w (a := a) L (g := mkF m pc ls st) rfl hd t q) k
theorem S_lit.stays {index : Nat} {a : Addr} {vm1 : Vm} (L : S_lit Z own index a vm0) (hW : (s.setVm vm0).WarmedH vm1) : S_lit Z own index a vm1 := Lit.stays (s := s) (vm0 := vm0) L hW.wide
theorem S_ib {Ts : List String} {vm1 : Vm} (I : IB Z vm0 Ts) (hW : (s.setVm vm0).WarmedH vm1) : IB Z vm1 Ts := by
  obtain ⟨more, e1, e2⟩ := I
  exact ⟨more, by rw [hW.1]; exact e1, e2⟩
/-! calls of bodies that load no constant -/
theorem S_goStatic (X : S_Stn vm0 p l e R s m args below meth c n0 T h ck sk) (hx : p.tables.exec = Jvm.exec) (hZ : Z.Warmed39 s.vm) {index : Nat} {y : MethodName} {bytes : ByteArray} {maxL : Nat} {ret : Option FieldType} {rm : Room} {as' : Array Value} {Q : Option Value → Heap → Prop}
    (hown : s.vm.findClass own = some m.cls) (w1 : (Cond.methodLink own index y).before a0 Z = true) (w2 : (Cond.static y).before a0 Z = true) (w3 : (Cond.initialized y.cls).before a0 Z = true) (w4 : (Cond.code y bytes maxL ret).before a0 Z = true)
    (hy : y.cls ≠ "java/lang/invoke/MethodHandle" ∧ y.cls ≠ "java/lang/invoke/VarHandle") (hM : Con l y bytes maxL ret rm [] Z n0 as' h Q) (hgrow : ∀ v h', Q v h' → h.size ≤ h'.size) (W : Nat) (hf : rm.frames + 1 ≤ R.frames) (hl : W + (maxL + 11) + rm.locals ≤ R.locals)
    {pc : Nat} {ls : Array Slot} {stk : List Value} (hsize : ls.size = c.maxLocals) (argsL rest : List Value) (hlen : ∀ sig, parseMethodDescriptor y.desc = some sig → argsL.length = sig.parameters.length) (has : argsL.toArray = as') (hstk : stk = argsL.reverse ++ rest) (hW : (rest.map fun v => v.category).sum = W)
    (hd : decode c.code pc = .ok (.invokestatic index, 3)) (hc : ck + rm.cells ≤ R.cells) (hs : sk + rm.slots ≤ R.slots)
    (k : ∀ v T' h', S_Stn vm0 p l e R s m args below meth c n0 T' h' (ck + rm.cells) (sk + rm.slots) → Q v h' → Go p e below Post T' (mkF m (pc + 3) ls (v.toList ++ rest))) : Go p e below Post T (mkF m pc ls stk) := by
  obtain ⟨eT, k0, locs, hSi, hk, N, Y⟩ := X
  have hZ' := S_base hZ hSi
  obtain ⟨v, _, ⟨T', L', k', n'⟩, -, X', ⟨Lc, ⟨hN, hQ⟩, l', y', z'⟩, st⟩ := Jvm.LawKit.callS Y hx (y := y) (S_own hown hSi) (mvT hZ' w1) (mvT hZ' w2) (mvT hZ' w3) (mvT hZ' w4) hy (backOf (W := W) (Q := fun v h' L => Fr n0 L ∧ Q v h') hM hZ' w4 w3 hf hl) (g := mkF m pc ls stk) rfl hsize (argsL := argsL) (rest := rest) hlen hstk (by show 2 * 0 + _ ≤ _; omega) hd (fun _ _ => ⟨has, eT, hc, hs⟩)
  dsimp only [Pt.U, Pt.locs, Pt.cells, Pt.slots] at X' l' y' z' st hQ
  subst l' y' z'
  exact Go.st st (k v T' T'.heap ⟨rfl, k0, _, hSi, Nat.le_trans hk (hgrow _ _ hQ), Fr.app N hN, X'⟩ hQ)
theorem S_goCtor (X : S_Stn vm0 p l e R s m args below meth c n0 T h ck sk) (hx : p.tables.exec = Jvm.exec) (hZ : Z.Warmed39 s.vm) {index : Nat} {y : MethodName} {bytes : ByteArray} {maxL : Nat} {rm : Room} {as' : Array Value} {Q : Option Value → Heap → Prop} (hy1 : y.name = "<init>")
    (hown : s.vm.findClass own = some m.cls) (w1 : (Cond.methodLink own index y).before a0 Z = true) (w2 : (Cond.instanceMethod y).before a0 Z = true) (w3 : (Cond.initialized y.cls).before a0 Z = true) (w4 : (Cond.code y bytes maxL none).before a0 Z = true)
    (hy : y.cls ≠ "java/lang/invoke/MethodHandle" ∧ y.cls ≠ "java/lang/invoke/VarHandle") (hM : Con l y bytes maxL none rm [] Z n0 as' h Q) (hgrow : ∀ v h', Q v h' → h.size ≤ h'.size) (W : Nat) (hf : rm.frames + 1 ≤ R.frames) (hl : W + (maxL + 11) + rm.locals ≤ R.locals)
    {pc : Nat} {ls : Array Slot} {stk : List Value} (hsize : ls.size = c.maxLocals) (a : Addr) (argsL rest : List Value) (hlen : ∀ sig, parseMethodDescriptor y.desc = some sig → argsL.length = sig.parameters.length) (has : (.ref a :: argsL).toArray = as') (hstk : stk = argsL.reverse ++ .ref a :: rest) (hW : (rest.map fun v => v.category).sum = W)
    (hd : decode c.code pc = .ok (.invokespecial index, 3)) (hc : ck + rm.cells ≤ R.cells) (hs : sk + rm.slots ≤ R.slots)
    (k : ∀ v T' h', S_Stn vm0 p l e R s m args below meth c n0 T' h' (ck + rm.cells) (sk + rm.slots) → Q v h' → Go p e below Post T' (mkF m (pc + 3) ls (v.toList ++ rest))) : Go p e below Post T (mkF m pc ls stk) := by
  obtain ⟨eT, k0, locs, hSi, hk, N, Y⟩ := X
  have hZ' := S_base hZ hSi
  obtain ⟨v, _, ⟨T', L', k', n'⟩, -, X', ⟨Lc, ⟨hN, hQ⟩, l', y', z'⟩, st⟩ := Y.specialBack hx (y := y) hy1 (S_own hown hSi) (mvT hZ' w1) (mvT hZ' w2) (mvT hZ' w4) hy (backOf (W := W) (Q := fun v h' L => Fr n0 L ∧ Q v h') hM hZ' w4 w3 hf hl) (g := mkF m pc ls stk) rfl hsize (Steps.refl _) (a := a) (argsL := argsL) (rest := rest) hlen hstk (by show 2 * 0 + _ ≤ _; omega) hd (fun _ _ => ⟨has, eT, hc, hs⟩)
  dsimp only [Pt.U, Pt.locs, Pt.cells, Pt.slots] at X' l' y' z' st hQ
  subst l' y' z'
  exact Go.st (fun t q => st.trans q) (k v T' T'.heap ⟨rfl, k0, _, hSi, Nat.le_trans hk (hgrow _ _ hQ), Fr.app N hN, X'⟩ hQ)
theorem S_goVirtS (X : S_Stn vm0 p l e R s m args below meth c n0 T h ck sk) (hx : p.tables.exec = Jvm.exec) (hZ : Z.Warmed39 s.vm) {index : Nat} {y : MethodName} {bytes : ByteArray} {maxL : Nat} {ret : Option FieldType} {rm : Room} {as' : Array Value} {Q : Option Value → Heap → Prop}
    (hown : s.vm.findClass own = some m.cls) (w1 : (Cond.methodLink own index y).before a0 Z = true) (w2 : (Cond.declares y).before a0 Z = true) (w5 : (Cond.selects y.cls y y).before a0 Z = true) (w6 : (Cond.instanceMethod y).before a0 Z = true) (w3 : (Cond.initialized y.cls).before a0 Z = true) (w4 : (Cond.code y bytes maxL ret).before a0 Z = true)
    (hy : y.cls ≠ "java/lang/invoke/MethodHandle" ∧ y.cls ≠ "java/lang/invoke/VarHandle") {a : Addr} (E : Exa Z h a y.cls) (hM : Con l y bytes maxL ret rm [] Z n0 as' h Q) (hgrow : ∀ v h', Q v h' → h.size ≤ h'.size) (W : Nat) (hf : rm.frames + 1 ≤ R.frames) (hl : W + (maxL + 11) + rm.locals ≤ R.locals)
    {pc : Nat} {ls : Array Slot} {stk : List Value} (hsize : ls.size = c.maxLocals) (argsL rest : List Value) (hlen : ∀ sig, parseMethodDescriptor y.desc = some sig → argsL.length = sig.parameters.length) (has : (.ref a :: argsL).toArray = as') (hstk : stk = argsL.reverse ++ .ref a :: rest) (hW : (rest.map fun v => v.category).sum = W)
    (hd : decode c.code pc = .ok (.invokevirtual index, 3)) (hc : ck + rm.cells ≤ R.cells) (hs : sk + rm.slots ≤ R.slots)
    (k : ∀ v T' h', S_Stn vm0 p l e R s m args below meth c n0 T' h' (ck + rm.cells) (sk + rm.slots) → Q v h' → Go p e below Post T' (mkF m (pc + 3) ls (v.toList ++ rest))) : Go p e below Post T (mkF m pc ls stk) := by
  obtain ⟨eT, k0, locs, hSi, hk, N, Y⟩ := X
  have hZ' := S_base hZ hSi
  obtain ⟨cq, kq, q1, q2, q3⟩ := isOf hZ' eT E
  obtain ⟨v, _, ⟨T', L', k', n'⟩, -, X', ⟨Lc, ⟨hN, hQ⟩, l', y', z'⟩, st⟩ := Y.virtualBack hx (y := y) (z := y) (S_own hown hSi) (mvT hZ' w1) (mvT hZ' w2) (notFace_of_selects (args := #[]) (mvT hZ' w5)) (mvT hZ' w5) (mvT hZ' w6) hy (backOf (W := W) (Q := fun v h' L => Fr n0 L ∧ Q v h') hM hZ' w4 w3 hf hl) q1 q3 (g := mkF m pc ls stk) rfl hsize (Steps.refl _) (argsL := argsL) (rest := rest) hlen hstk (by show 2 * 0 + _ ≤ _; omega) hd (fun _ _ => ⟨has, eT, hc, hs⟩)
  dsimp only [Pt.U, Pt.locs, Pt.cells, Pt.slots] at X' l' y' z' st hQ
  subst l' y' z'
  exact Go.st (fun t q => st.trans q) (k v T' T'.heap ⟨rfl, k0, _, hSi, Nat.le_trans hk (hgrow _ _ hQ), Fr.app N hN, X'⟩ hQ)
/-! calls of bodies that may load one -/
theorem S_backOf {y : MethodName} {bytes : ByteArray} {maxL : Nat} {ret : Option FieldType} {rm : Room} {len W : Nat} {as' : Array Value} {J : Vm → Prop} {Q : Option Value → Heap → Vm → Prop}
    (hM : S_Con l y bytes maxL ret rm [] Z J n0 as' h Q) (hZ : Z.Warmed39 s.vm) (hJ : ∀ vm, s.WarmedH vm → J vm) (wc : (Cond.code y bytes maxL ret).before a0 Z = true) (wz : (Cond.initialized y.cls).before a0 Z = true) (hf : rm.frames + 1 ≤ R.frames) (hl : W + (maxL + 11) + rm.locals ≤ R.locals) :
    BackS l R p e below s args y len W (fun A a => a = as' ∧ A.U.heap = h ∧ A.cells + rm.cells ≤ R.cells ∧ A.slots + rm.slots ≤ R.slots)
      (fun A _ v B => ∃ L, (Fr n0 L ∧ Q v B.U.heap B.U.vm) ∧ B.locs = A.locs ++ L ∧ B.cells = A.cells + rm.cells ∧ B.slots = A.slots + rm.slots) :=
  BackS.of_freeW (bytes := bytes) (maxL := maxL) (ret := ret) (E := fun _ _ o t L k n => k = rm.cells ∧ n = rm.slots ∧ ∃ v, o = .returned v ∧ (Fr n0 L ∧ Q v t.heap t.vm)) hM hf hl
    (fun m meth c A a Y hp => have hU : Z.Warmed39 A.U.vm := wtrans hZ Y.warmed
      ⟨by show (Cond.and _ .tt).before a A.U = true; rw [Cond.before_and, mv hU wc]; rfl, mv hU wc, mv hU wz, hp.2.2.1, hp.2.2.2⟩)
    (fun m meth c A a g mk Y hp => ⟨hp.1, wtrans hZ Y.warmed, hp.2.1, hJ _ Y.warmed⟩) (fun _ _ _ _ _ _ _ _ _ => trivial)
    (fun _ _ _ _ ⟨v, L, h1, h2, h3⟩ => ⟨L, _, _, h3, rfl, rfl, v, h1, h2⟩)
    (fun m meth c A a g mk v t L k n Y hp _ _ ⟨e1, e2, v', e3, e4⟩ => by cases e3; subst e1 e2; exact ⟨L, e4, rfl, rfl, rfl⟩)
theorem S_goStaticS (X : S_Stn vm0 p l e R s m args below meth c n0 T h ck sk) (hx : p.tables.exec = Jvm.exec) (hZ : Z.Warmed39 s.vm) {index : Nat} {y : MethodName} {bytes : ByteArray} {maxL : Nat} {ret : Option FieldType} {rm : Room} {as' : Array Value} {J : Vm → Prop} {Q : Option Value → Heap → Vm → Prop}
    (hown : s.vm.findClass own = some m.cls) (w1 : (Cond.methodLink own index y).before a0 Z = true) (w2 : (Cond.static y).before a0 Z = true) (w3 : (Cond.initialized y.cls).before a0 Z = true) (w4 : (Cond.code y bytes maxL ret).before a0 Z = true)
    (hy : y.cls ≠ "java/lang/invoke/MethodHandle" ∧ y.cls ≠ "java/lang/invoke/VarHandle") (hM : S_Con l y bytes maxL ret rm [] Z J n0 as' h Q) (hJ : ∀ vm, (s.setVm vm0).WarmedH vm → J vm) (W : Nat) (hf : rm.frames + 1 ≤ R.frames) (hl : W + (maxL + 11) + rm.locals ≤ R.locals)
    {pc : Nat} {ls : Array Slot} {stk : List Value} (hsize : ls.size = c.maxLocals) (argsL rest : List Value) (hlen : ∀ sig, parseMethodDescriptor y.desc = some sig → argsL.length = sig.parameters.length) (has : argsL.toArray = as') (hstk : stk = argsL.reverse ++ rest) (hW : (rest.map fun v => v.category).sum = W)
    (hd : decode c.code pc = .ok (.invokestatic index, 3)) (hc : ck + rm.cells ≤ R.cells) (hs : sk + rm.slots ≤ R.slots)
    (k : ∀ v T' h' vm1, S_Stn vm1 p l e R s m args below meth c n0 T' h' (ck + rm.cells) (sk + rm.slots) → Q v h' vm1 → Go p e below Post T' (mkF m (pc + 3) ls (v.toList ++ rest))) : Go p e below Post T (mkF m pc ls stk) := by
  obtain ⟨eT, k0, locs, hSi, hk, N, Y⟩ := X
  have hZ' := S_base hZ hSi
  obtain ⟨v, _, ⟨T', L', k', n'⟩, -, X', hS2, hg2, ⟨Lc, ⟨hN, hQ⟩, l', y', z'⟩, st⟩ := callSS Y hx (y := y) (S_own hown hSi) (mvT hZ' w1) (mvT hZ' w2) (mvT hZ' w3) (mvT hZ' w4) hy (S_backOf (W := W) hM hZ' hJ w4 w3 hf hl) (g := mkF m pc ls stk) rfl hsize (argsL := argsL) (rest := rest) hlen hstk (by show 2 * 0 + _ ≤ _; omega) hd (fun _ _ => ⟨has, eT, hc, hs⟩)
  dsimp only [Pt.U, Pt.locs, Pt.cells, Pt.slots] at X' l' y' z' st hQ hS2 hg2
  subst l' y' z'
  exact Go.st (fun t q => st.trans q) (k v T' T'.heap T'.vm ⟨rfl, T'.heap.size, _, hSi.trans hS2 (Nat.le_trans hk (eT ▸ hg2)), Nat.le_refl _, Fr.app N hN, X'⟩ hQ)
theorem S_goCtorS (X : S_Stn vm0 p l e R s m args below meth c n0 T h ck sk) (hx : p.tables.exec = Jvm.exec) (hZ : Z.Warmed39 s.vm) {index : Nat} {y : MethodName} {bytes : ByteArray} {maxL : Nat} {rm : Room} {as' : Array Value} {J : Vm → Prop} {Q : Option Value → Heap → Vm → Prop} (hy1 : y.name = "<init>")
    (hown : s.vm.findClass own = some m.cls) (w1 : (Cond.methodLink own index y).before a0 Z = true) (w2 : (Cond.instanceMethod y).before a0 Z = true) (w3 : (Cond.initialized y.cls).before a0 Z = true) (w4 : (Cond.code y bytes maxL none).before a0 Z = true)
    (hy : y.cls ≠ "java/lang/invoke/MethodHandle" ∧ y.cls ≠ "java/lang/invoke/VarHandle") (hM : S_Con l y bytes maxL none rm [] Z J n0 as' h Q) (hJ : ∀ vm, (s.setVm vm0).WarmedH vm → J vm) (W : Nat) (hf : rm.frames + 1 ≤ R.frames) (hl : W + (maxL + 11) + rm.locals ≤ R.locals)
    {pc : Nat} {ls : Array Slot} {stk : List Value} (hsize : ls.size = c.maxLocals) (a : Addr) (argsL rest : List Value) (hlen : ∀ sig, parseMethodDescriptor y.desc = some sig → argsL.length = sig.parameters.length) (has : (.ref a :: argsL).toArray = as') (hstk : stk = argsL.reverse ++ .ref a :: rest) (hW : (rest.map fun v => v.category).sum = W)
    (hd : decode c.code pc = .ok (.invokespecial index, 3)) (hc : ck + rm.cells ≤ R.cells) (hs : sk + rm.slots ≤ R.slots)
    (k : ∀ v T' h' vm1, S_Stn vm1 p l e R s m args below meth c n0 T' h' (ck + rm.cells) (sk + rm.slots) → Q v h' vm1 → Go p e below Post T' (mkF m (pc + 3) ls (v.toList ++ rest))) : Go p e below Post T (mkF m pc ls stk) := by
  obtain ⟨eT, k0, locs, hSi, hk, N, Y⟩ := X
  have hZ' := S_base hZ hSi
  obtain ⟨v, _, ⟨T', L', k', n'⟩, -, X', hS2, hg2, ⟨Lc, ⟨hN, hQ⟩, l', y', z'⟩, st⟩ := Y.specialBackS hx (y := y) hy1 (S_own hown hSi) (mvT hZ' w1) (mvT hZ' w2) (mvT hZ' w4) hy (S_backOf (W := W) hM hZ' hJ w4 w3 hf hl) (g := mkF m pc ls stk) rfl hsize (Steps.refl _) (a := a) (argsL := argsL) (rest := rest) hlen hstk (by show 2 * 0 + _ ≤ _; omega) hd (fun _ _ => ⟨has, eT, hc, hs⟩)
  dsimp only [Pt.U, Pt.locs, Pt.cells, Pt.slots] at X' l' y' z' st hQ hS2 hg2
  subst l' y' z'
  exact Go.st (fun t q => st.trans q) (k v T' T'.heap T'.vm ⟨rfl, T'.heap.size, _, hSi.trans hS2 (Nat.le_trans hk (eT ▸ hg2)), Nat.le_refl _, Fr.app N hN, X'⟩ hQ)
end OwnLayerS


/-- the empty text's constant: not loaded yet since the start, or booked to a String of known fields -/
def LitOk (Z : State) (h : Heap) (vm : Vm) : Prop := IB Z vm [] ∨ ∃ ae be, S_lit Z "java/lang/String" 7 ae vm ∧ Exa Z h ae "java/lang/String" ∧ Fld Z h ae "java/lang/String" "coder" "B" (.int 0) ∧ Fld Z h ae "java/lang/String" "value" "[B" (.ref be)
theorem LitOk.ext {Z : State} {h h' : Heap} {vm : Vm} (J : LitOk Z h vm) (E : Ext h h') : LitOk Z h' vm := by
  rcases J with I | ⟨ae, be, L, E1, F1, F2⟩
  · exact Or.inl I
  · exact Or.inr ⟨ae, be, L, E1.ext E, F1.ext E, F2.ext E⟩
theorem LitOk.keep {Z : State} {h h' : Heap} {vm : Vm} {ws : List Addr} (J : LitOk Z h vm) (K : Keep h h' ws) (q : ∀ ae be, Exa Z h ae "java/lang/String" → Fld Z h ae "java/lang/String" "value" "[B" (.ref be) → ae ∉ ws) : LitOk Z h' vm := by
  rcases J with I | ⟨ae, be, L, E1, F1, F2⟩
  · exact Or.inl I
  · exact Or.inr ⟨ae, be, L, E1.keep K, F1.keep K (q _ _ E1 F2), F2.keep K (q _ _ E1 F2)⟩
theorem LitOk.vm {Z s : State} {h : Heap} {vm0 vm1 : Vm} (J : LitOk Z h vm0) (hW : (s.setVm vm0).WarmedH vm1) : LitOk Z h vm1 := by
  rcases J with I | ⟨ae, be, L, r⟩
  · exact Or.inl (S_ib I hW)
  · exact Or.inr ⟨ae, be, S_lit.stays L hW, r⟩
theorem fld_ne {Z : State} {h : Heap} {a b : Addr} {O n d : String} {v w : Value} (F : Fld Z h a O n d v) (G : Fld Z h b O n d w) (q : v ≠ w) : a ≠ b := by
  rintro rfl
  obtain ⟨c1, x1, y1, z1, f1, p1, p2, -, -, -, -, p3⟩ := F
  obtain ⟨c2, x2, y2, z2, f2, q1, q2, -, -, -, -, q3⟩ := G
  cases p1.symm.trans q1
  cases p2.symm.trans q2
  exact q (Option.some.inj (p3.symm.trans q3))
theorem own_sw {Z : State} {a0 : Array Value} (hw : ∀ d ∈ tables_1, d.before a0 Z = true) : ∀ a ∈ Bundle.stringAtoms, a.before a0 Z = true := by
  intro a ha
  simp only [Bundle.stringAtoms, List.mem_cons, List.not_mem_nil, or_false] at ha
  rcases ha with rfl | rfl | rfl | rfl | rfl | rfl | rfl
  · exact hw _ (List.mem_of_getElem? (i := 24) rfl)
  · exact hw _ (List.mem_of_getElem? (i := 25) rfl)
  · exact hw _ (List.mem_of_getElem? (i := 26) rfl)
  · exact hw _ (List.mem_of_getElem? (i := 27) rfl)
  · exact hw _ (List.mem_of_getElem? (i := 28) rfl)
  · exact hw _ (List.mem_of_getElem? (i := 29) rfl)
  · exact hw _ (List.mem_of_getElem? (i := 30) rfl)
theorem own_andor (a b c : Int32) : a &&& (b ||| c) = (a &&& b) ||| (a &&& c) := by
  apply Int32.toBitVec_inj.mp
  simp only [Int32.toBitVec_and, Int32.toBitVec_or]
  ext i hi
  simp [Bool.and_or_distrib_left]
theorem own_7 (x : Int32) : x &&& 7 = 0 ↔ x &&& 1 = 0 ∧ x &&& 2 = 0 ∧ x &&& 4 = 0 := by
  constructor
  · intro h
    have k : ∀ y : Int32, (7 : Int32) &&& y = y → x &&& y = 0 := fun y hy => by
      rw [← hy, ← Int32.and_assoc, h]
      exact Int32.zero_and
    exact ⟨k 1 (by decide), k 2 (by decide), k 4 (by decide)⟩
  · rintro ⟨h1, h2, h3⟩
    have e : (7 : Int32) = 1 ||| (2 ||| 4) := by decide
    rw [e, own_andor, own_andor, h1, h2, h3]
    decide
theorem own_255 (x : Int32) : ¬ (255 : Int32) < nar .char ((x &&& 255).toUInt32.toUInt16.toUInt32.toInt32) := by
  have h1 : ∀ u : UInt16, (u.toUInt32.toInt32).toInt = u.toNat := fun u => by
    have hu := u.toNat_lt
    show ((u.toUInt32).toBitVec).toInt = _
    have hm : (u.toUInt32).toBitVec.toNat = u.toNat := by
      show (u.toUInt32).toNat = _
      simp
    rw [BitVec.toInt_eq_toNat_cond, hm, if_pos (by omega)]
  show ¬ (255 : Int32) < ((x &&& 255).toUInt32.toUInt16.toUInt32.toInt32).toUInt32.toUInt16.toUInt32.toInt32
  rw [Int32.lt_iff_toInt_lt, h1]
  have h2 : ((x &&& 255).toUInt32.toUInt16.toUInt32.toInt32).toUInt32.toUInt16.toNat ≤ 255 := by
    have h3 : (x &&& 255).toUInt32.toNat ≤ 255 := by
      show (x.toBitVec &&& (255#32)).toNat ≤ 255
      rw [BitVec.toNat_and]
      exact Nat.and_le_right
    generalize x &&& 255 = w at *
    simp
    omega
  have e2 : (255 : Int32).toInt = 255 := by decide
  omega

theorem d15_0 : decode jdk_31_method_10_code 0 = .ok (.aload_n 0, 1) := by decide +kernel
theorem d15_1 : decode jdk_31_method_10_code 1 = .ok (.ifnonnull 11, 3) := by decide +kernel
theorem d15_12 : decode jdk_31_method_10_code 12 = .ok (.aload_n 0, 1) := by decide +kernel
theorem d15_13 : decode jdk_31_method_10_code 13 = .ok (.areturn, 1) := by decide +kernel
theorem pn_15 : plainFor (⟨"java/util/Objects", "requireNonNull", "(Ljava/lang/Object;)Ljava/lang/Object;"⟩ : MethodName) = true := plainFor_of_name (by first | (simp [plainName, overriddenIn]; done) | decide +kernel)
theorem ef_rm15 (m : MethodId) (x0 : Addr) : entryFrame m #[(.ref x0)] 1 = mkF m 0 #[.val (.ref x0)] [] := by first | (simp [entryFrame, mkF, argsToLocals, Value.category]; done) | rfl
def Q15 (Z : State) (n0 : Nat) (h0 : Heap) (a : Addr) (v : Option Value) (h : Heap) : Prop := v = some (.ref a) ∧ h = h0
set_option maxRecDepth 65536 in
set_option maxHeartbeats 40000000 in
theorem rm15 (l : Launch) (Z : State) (a0 : Array Value) (hw : ∀ d ∈ tables_1, d.before a0 Z = true) (ws : List Jvm.Cond) (n0 : Nat) (h0 : Heap) (a : Addr) (sz0 : n0 ≤ h0.size) :
    Con l (⟨"java/util/Objects", "requireNonNull", "(Ljava/lang/Object;)Ljava/lang/Object;"⟩ : MethodName) jdk_31_method_10_code 1 (some (.object "java/lang/Object")) ({ frames := 0, cells := 0, slots := 0, locals := 0 } : Room) ws Z n0 #[(.ref a)] h0 (Q15 Z n0 h0 a) := by
  refine Con.body pn_15 ?_
  intro p e s m below meth c s₁ hx hby hml hown hnm hret hlk hZ X0
  have hown : s.vm.findClass "java/util/Objects" = some m.cls := hown
  have hnm : meth.name = "requireNonNull" := hnm
  rw [show entryFrame m #[(.ref a)] 1 = mkF m 0 #[.val (.ref a)] [] from ef_rm15 m a]
  show Go p e below (PostW s n0 (0 : Nat) (0 : Nat) (Q15 Z n0 h0 a)) s₁ (mkF m 0 #[.val (.ref a)] [])
  refine Go.st (T' := s₁) (g' := (mkF m 1 #[.val (.ref a)] [(.ref a)])) (fun t_ k_ => XS.aloadN X0.here hx rfl (hb hby d15_0) rfl rfl k_) ?_
  refine Go.st (T' := s₁) (g' := (mkF m 12 #[.val (.ref a)] [])) (fun t_ k_ => XS.ifnonnullYes X0.here hx rfl (pc0 := 1) (pc' := 12) rfl (hb hby d15_1) rfl (by decide) (by decide) k_) ?_
  refine Go.st (T' := s₁) (g' := (mkF m 13 #[.val (.ref a)] [(.ref a)])) (fun t_ k_ => XS.aloadN X0.here hx rfl (hb hby d15_12) rfl rfl k_) ?_
  refine goRetA X0 hx hlk hret rfl (hb hby d15_13) (by decide) (by decide) ?_
  refine ⟨rfl, rfl⟩
theorem d6_0 : decode jdk_31_method_11_code 0 = .ok (.aload_n 0, 1) := by decide +kernel
theorem d6_1 : decode jdk_31_method_11_code 1 = .ok (.ifnonnull 12, 3) := by decide +kernel
theorem d6_13 : decode jdk_31_method_11_code 13 = .ok (.aload_n 0, 1) := by decide +kernel
theorem d6_14 : decode jdk_31_method_11_code 14 = .ok (.areturn, 1) := by decide +kernel
theorem pn_6 : plainFor (⟨"java/util/Objects", "requireNonNull", "(Ljava/lang/Object;Ljava/lang/String;)Ljava/lang/Object;"⟩ : MethodName) = true := plainFor_of_name (by first | (simp [plainName, overriddenIn]; done) | decide +kernel)
theorem ef_rm6 (m : MethodId) (x0 : Addr) (x1 : Addr) : entryFrame m #[(.ref x0), (.ref x1)] 2 = mkF m 0 #[.val (.ref x0), .val (.ref x1)] [] := by first | (simp [entryFrame, mkF, argsToLocals, Value.category]; done) | rfl
def Q6 (Z : State) (n0 : Nat) (h0 : Heap) (a : Addr) (b : Addr) (v : Option Value) (h : Heap) : Prop := v = some (.ref a) ∧ h = h0
set_option maxRecDepth 65536 in
set_option maxHeartbeats 40000000 in
theorem rm6 (l : Launch) (Z : State) (a0 : Array Value) (hw : ∀ d ∈ tables_1, d.before a0 Z = true) (ws : List Jvm.Cond) (n0 : Nat) (h0 : Heap) (a : Addr) (b : Addr) (sz0 : n0 ≤ h0.size) :
    Con l (⟨"java/util/Objects", "requireNonNull", "(Ljava/lang/Object;Ljava/lang/String;)Ljava/lang/Object;"⟩ : MethodName) jdk_31_method_11_code 2 (some (.object "java/lang/Object")) ({ frames := 0, cells := 0, slots := 0, locals := 0 } : Room) ws Z n0 #[(.ref a), (.ref b)] h0 (Q6 Z n0 h0 a b) := by
  refine Con.body pn_6 ?_
  intro p e s m below meth c s₁ hx hby hml hown hnm hret hlk hZ X0
  have hown : s.vm.findClass "java/util/Objects" = some m.cls := hown
  have hnm : meth.name = "requireNonNull" := hnm
  rw [show entryFrame m #[(.ref a), (.ref b)] 2 = mkF m 0 #[.val (.ref a), .val (.ref b)] [] from ef_rm6 m a b]
  show Go p e below (PostW s n0 (0 : Nat) (0 : Nat) (Q6 Z n0 h0 a b)) s₁ (mkF m 0 #[.val (.ref a), .val (.ref b)] [])
  refine Go.st (T' := s₁) (g' := (mkF m 1 #[.val (.ref a), .val (.ref b)] [(.ref a)])) (fun t_ k_ => XS.aloadN X0.here hx rfl (hb hby d6_0) rfl rfl k_) ?_
  refine Go.st (T' := s₁) (g' := (mkF m 13 #[.val (.ref a), .val (.ref b)] [])) (fun t_ k_ => XS.ifnonnullYes X0.here hx rfl (pc0 := 1) (pc' := 13) rfl (hb hby d6_1) rfl (by decide) (by decide) k_) ?_
  refine Go.st (T' := s₁) (g' := (mkF m 14 #[.val (.ref a), .val (.ref b)] [(.ref a)])) (fun t_ k_ => XS.aloadN X0.here hx rfl (hb hby d6_13) rfl rfl k_) ?_
  refine goRetA X0 hx hlk hret rfl (hb hby d6_14) (by decide) (by decide) ?_
  refine ⟨rfl, rfl⟩
theorem d16_0 : decode jdk_32_method_2_code 0 = .ok (.aload_n 0, 1) := by decide +kernel
theorem d16_1 : decode jdk_32_method_2_code 1 = .ok (.invokespecial 7, 3) := by decide +kernel
theorem d16_4 : decode jdk_32_method_2_code 4 = .ok (.aload_n 0, 1) := by decide +kernel
theorem d16_5 : decode jdk_32_method_2_code 5 = .ok (.aload_n 1, 1) := by decide +kernel
theorem d16_6 : decode jdk_32_method_2_code 6 = .ok (.putfield 13, 3) := by decide +kernel
theorem d16_9 : decode jdk_32_method_2_code 9 = .ok (.return_, 1) := by decide +kernel
theorem pn_16 : plainFor (⟨"java/util/Optional", "<init>", "(Ljava/lang/Object;)V"⟩ : MethodName) = true := plainFor_of_name (by first | (simp [plainName, overriddenIn]; done) | decide +kernel)
theorem ef_rm16 (m : MethodId) (x0 : Addr) (x1 : Addr) : entryFrame m #[(.ref x0), (.ref x1)] 2 = mkF m 0 #[.val (.ref x0), .val (.ref x1)] [] := by first | (simp [entryFrame, mkF, argsToLocals, Value.category]; done) | rfl
def Q16 (Z : State) (n0 : Nat) (h0 : Heap) (o : Addr) (a : Addr) (v : Option Value) (h : Heap) : Prop := v = none ∧ Keep h0 h [o] ∧ Fld Z h o "java/util/Optional" "value" "Ljava/lang/Object;" (.ref a)
set_option maxRecDepth 65536 in
set_option maxHeartbeats 40000000 in
theorem rm16 (l : Launch) (Z : State) (a0 : Array Value) (hw : ∀ d ∈ tables_1, d.before a0 Z = true) (ws : List Jvm.Cond) (n0 : Nat) (h0 : Heap) (o : Addr) (a : Addr) (sz0 : n0 ≤ h0.size) (g0 : Exa Z h0 o "java/util/Optional") (g1 : Fld Z h0 o "java/util/Optional" "value" "Ljava/lang/Object;" .null) (g2 : n0 ≤ o) :
    Con l (⟨"java/util/Optional", "<init>", "(Ljava/lang/Object;)V"⟩ : MethodName) jdk_32_method_2_code 2 none ({ frames := 1, cells := 0, slots := 0, locals := 12 } : Room) ws Z n0 #[(.ref o), (.ref a)] h0 (Q16 Z n0 h0 o a) := by
  refine Con.body pn_16 ?_
  intro p e s m below meth c s₁ hx hby hml hown hnm hret hlk hZ X0
  have hown : s.vm.findClass "java/util/Optional" = some m.cls := hown
  have hnm : meth.name = "<init>" := hnm
  have K0 : Keep h0 h0 [o] := Keep.refl _ _
  rw [show entryFrame m #[(.ref o), (.ref a)] 2 = mkF m 0 #[.val (.ref o), .val (.ref a)] [] from ef_rm16 m o a]
  show Go p e below (PostW s n0 (0 : Nat) (0 : Nat) (Q16 Z n0 h0 o a)) s₁ (mkF m 0 #[.val (.ref o), .val (.ref a)] [])
  refine Go.st (T' := s₁) (g' := (mkF m 1 #[.val (.ref o), .val (.ref a)] [(.ref o)])) (fun t_ k_ => XS.aloadN X0.here hx rfl (hb hby d16_0) rfl rfl k_) ?_
  refine goInit X0 hx hZ hown (hw _ (List.mem_of_getElem? (i := 90) rfl)) (hw _ (List.mem_of_getElem? (i := 21) rfl)) (hw _ (List.mem_of_getElem? (i := 22) rfl)) (by rw [hml]; rfl) (hb hby d16_1) (by decide) (W := 0) (Nat.le_of_eq rfl) (by decide) fun T1 X1 => ?_
  show Go p e below _ T1 (mkF m 4 #[.val (.ref o), .val (.ref a)] [])
  refine Go.st (T' := T1) (g' := (mkF m 5 #[.val (.ref o), .val (.ref a)] [(.ref o)])) (fun t_ k_ => XS.aloadN X1.here hx rfl (hb hby d16_4) rfl rfl k_) ?_
  refine Go.st (T' := T1) (g' := (mkF m 6 #[.val (.ref o), .val (.ref a)] [(.ref a), (.ref o)])) (fun t_ k_ => XS.aloadN X1.here hx rfl (hb hby d16_5) rfl rfl k_) ?_
  refine goPut X1 hx hZ hown (host := "") (Or.inl (hw _ (List.mem_of_getElem? (i := 53) rfl))) Via.refl g1 g0 (Or.inr ⟨(hw _ (List.mem_of_getElem? (i := 54) rfl)), rfl, hnm⟩) (hw _ (List.mem_of_getElem? (i := 82) rfl)) (ty := (.object "java/lang/Object")) (by decide) rfl rfl g2 (hb hby d16_6) fun T2 h2 X2 W2 => ?_
  have Fw2 := g1.same W2
  have f2_0 : Exa Z h2 o "java/util/Optional" := g0.wr W2
  have sz2 : n0 ≤ h2.size := Nat.le_trans sz0 (Keep.of_wr W2).1
  have K2 : Keep h0 h2 [o] := K0.wr W2 (Or.inl (List.mem_of_getElem? (i := 0) rfl))
  show Go p e below _ T2 (mkF m 9 #[.val (.ref o), .val (.ref a)] [])
  refine goRetV X2 hx hlk hret (hb hby d16_9) (by decide) (by decide) ?_
  refine ⟨rfl, K2, Fw2⟩
theorem d14_0 : decode jdk_32_method_3_code 0 = .ok (.new 2, 3) := by decide +kernel
theorem d14_3 : decode jdk_32_method_3_code 3 = .ok (.dup, 1) := by decide +kernel
theorem d14_4 : decode jdk_32_method_3_code 4 = .ok (.aload_n 0, 1) := by decide +kernel
theorem d14_5 : decode jdk_32_method_3_code 5 = .ok (.invokestatic 17, 3) := by decide +kernel
theorem d14_8 : decode jdk_32_method_3_code 8 = .ok (.invokespecial 23, 3) := by decide +kernel
theorem d14_11 : decode jdk_32_method_3_code 11 = .ok (.areturn, 1) := by decide +kernel
theorem pn_14 : plainFor (⟨"java/util/Optional", "of", "(Ljava/lang/Object;)Ljava/util/Optional;"⟩ : MethodName) = true := plainFor_of_name (by first | (simp [plainName, overriddenIn]; done) | decide +kernel)
theorem pd_8f3f96f4 : parseMethodDescriptor "(Ljava/lang/Object;)Ljava/lang/Object;" = some ⟨[(.object "java/lang/Object")], some (.object "java/lang/Object")⟩ := by decide +kernel
theorem pd_c026d73f : parseMethodDescriptor "(Ljava/lang/Object;)V" = some ⟨[(.object "java/lang/Object")], none⟩ := by decide +kernel
theorem ef_rm14 (m : MethodId) (x0 : Addr) : entryFrame m #[(.ref x0)] 1 = mkF m 0 #[.val (.ref x0)] [] := by first | (simp [entryFrame, mkF, argsToLocals, Value.category]; done) | rfl
def Q14 (Z : State) (n0 : Nat) (h0 : Heap) (a : Addr) (v : Option Value) (h : Heap) : Prop := ∃ (o : Addr), v = some (.ref o) ∧ Keep h0 h [] ∧ h0.size ≤ o ∧ Exa Z h o "java/util/Optional" ∧ Fld Z h o "java/util/Optional" "value" "Ljava/lang/Object;" (.ref a)
set_option maxRecDepth 65536 in
set_option maxHeartbeats 40000000 in
theorem rm14 (l : Launch) (Z : State) (a0 : Array Value) (hw : ∀ d ∈ tables_1, d.before a0 Z = true) (ws : List Jvm.Cond) (n0 : Nat) (h0 : Heap) (a : Addr) (sz0 : n0 ≤ h0.size) :
    Con l (⟨"java/util/Optional", "of", "(Ljava/lang/Object;)Ljava/util/Optional;"⟩ : MethodName) jdk_32_method_3_code 1 (some (.object "java/util/Optional")) ({ frames := 2, cells := 1, slots := 1, locals := 26 } : Room) ws Z n0 #[(.ref a)] h0 (Q14 Z n0 h0 a) := by
  refine Con.body pn_14 ?_
  intro p e s m below meth c s₁ hx hby hml hown hnm hret hlk hZ X0
  have hown : s.vm.findClass "java/util/Optional" = some m.cls := hown
  have hnm : meth.name = "of" := hnm
  have K0 : Keep h0 h0 [] := Keep.refl _ _
  rw [show entryFrame m #[(.ref a)] 1 = mkF m 0 #[.val (.ref a)] [] from ef_rm14 m a]
  show Go p e below (PostW s n0 (1 : Nat) (1 : Nat) (Q14 Z n0 h0 a)) s₁ (mkF m 0 #[.val (.ref a)] [])
  refine goNew X0 hx hZ hown (hw _ (List.mem_of_getElem? (i := 81) rfl)) (hw _ (List.mem_of_getElem? (i := 82) rfl)) (hw _ (List.mem_of_getElem? (i := 9) rfl)) (hb hby d14_0) (by decide) (by decide) fun T1 h1 b1 gb1 X1 E1 A1 D1 => ?_
  have ge1 : n0 ≤ b1 := gb1 ▸ sz0
  have fr1 : h0.size ≤ b1 := gb1 ▸ K0.1
  have sz1 : n0 ≤ h1.size := Nat.le_trans sz0 E1.1
  have K1 : Keep h0 h1 [] := K0.ext E1
  have F1_value : Fld Z h1 b1 "java/util/Optional" "value" "Ljava/lang/Object;" .null := D1 (Or.inr (hw _ (List.mem_of_getElem? (i := 54) rfl))) (ty := (.object "java/lang/Object")) (by decide)
  show Go p e below _ T1 (mkF m 3 #[.val (.ref a)] [(.ref b1)])
  refine Go.st (T' := T1) (g' := (mkF m 4 #[.val (.ref a)] [(.ref b1), (.ref b1)])) (fun t_ k_ => XS.dup X1.here hx rfl (hb hby d14_3) rfl rfl k_) ?_
  refine Go.st (T' := T1) (g' := (mkF m 5 #[.val (.ref a)] [(.ref a), (.ref b1), (.ref b1)])) (fun t_ k_ => XS.aloadN X1.here hx rfl (hb hby d14_4) rfl rfl k_) ?_
  refine goStatic X1 hx hZ (y := (⟨"java/util/Objects", "requireNonNull", "(Ljava/lang/Object;)Ljava/lang/Object;"⟩ : MethodName)) hown (hw _ (List.mem_of_getElem? (i := 83) rfl)) (hw _ (List.mem_of_getElem? (i := 84) rfl)) (hw _ (List.mem_of_getElem? (i := 33) rfl)) (hw _ (List.mem_of_getElem? (i := 85) rfl)) (by decide) (rm15 l Z a0 hw [] n0 h1 a sz1) 2 (by decide) (by decide) (by rw [hml]; rfl) [(.ref a)] [(.ref b1), (.ref b1)] (lenOf pd_8f3f96f4 rfl) rfl rfl rfl (hb hby d14_5) (by decide) (by decide) fun v2 T2 h2 X2 hq2 => ?_
  obtain ⟨rfl, eh2⟩ := hq2
  rw [eh2] at X2
  show Go p e below _ T2 (mkF m 8 #[.val (.ref a)] [(.ref a), (.ref b1), (.ref b1)])
  refine goCtor X2 hx hZ (y := (⟨"java/util/Optional", "<init>", "(Ljava/lang/Object;)V"⟩ : MethodName)) rfl hown (hw _ (List.mem_of_getElem? (i := 86) rfl)) (hw _ (List.mem_of_getElem? (i := 87) rfl)) (hw _ (List.mem_of_getElem? (i := 9) rfl)) (hw _ (List.mem_of_getElem? (i := 89) rfl)) (by decide) (rm16 l Z a0 hw [] n0 h1 b1 a sz1 A1 F1_value ge1) 1 (by decide) (by decide) (by rw [hml]; rfl) b1 [(.ref a)] [(.ref b1)] (lenOf pd_c026d73f rfl) rfl rfl rfl (hb hby d14_8) (by decide) (by decide) fun v3 T3 h3 X3 hq3 => ?_
  obtain ⟨rfl, K3c, p3_0⟩ := hq3
  have f3_2 : Exa Z h3 b1 "java/util/Optional" := A1.keep K3c
  have sz3 : n0 ≤ h3.size := Nat.le_trans sz1 K3c.1
  have K3 : Keep h0 h3 [] := K1.trans K3c (allS (Or.inr fr1) all0)
  show Go p e below _ T3 (mkF m 11 #[.val (.ref a)] [(.ref b1)])
  refine goRetA X3 hx hlk hret rfl (hb hby d14_11) (by decide) (by decide) ?_
  refine ⟨b1, rfl, K3, fr1, f3_2, p3_0⟩
theorem d2_0 : decode jdk_32_method_1_code 0 = .ok (.getstatic 1, 3) := by decide +kernel
theorem d2_3 : decode jdk_32_method_1_code 3 = .ok (.astore_n 0, 1) := by decide +kernel
theorem d2_4 : decode jdk_32_method_1_code 4 = .ok (.aload_n 0, 1) := by decide +kernel
theorem d2_5 : decode jdk_32_method_1_code 5 = .ok (.areturn, 1) := by decide +kernel
theorem pn_2 : plainFor (⟨"java/util/Optional", "empty", "()Ljava/util/Optional;"⟩ : MethodName) = true := plainFor_of_name (by first | (simp [plainName, overriddenIn]; done) | decide +kernel)
theorem ef_rm2 (m : MethodId)  : entryFrame m #[] 1 = mkF m 0 #[.unset] [] := by first | (simp [entryFrame, mkF, argsToLocals, Value.category]; done) | rfl
def Q2 (Z : State) (n0 : Nat) (h0 : Heap) (ea : Addr) (v : Option Value) (h : Heap) : Prop := v = some (.ref ea) ∧ h = h0
set_option maxRecDepth 65536 in
set_option maxHeartbeats 40000000 in
theorem rm2 (l : Launch) (Z : State) (a0 : Array Value) (hw : ∀ d ∈ tables_1, d.before a0 Z = true) (ws : List Jvm.Cond) (n0 : Nat) (h0 : Heap) (ea : Addr) (sz0 : n0 ≤ h0.size) (g0 : Sta Z h0 "java/util/Optional" "EMPTY" "Ljava/util/Optional;" (.ref ea)) :
    Con l (⟨"java/util/Optional", "empty", "()Ljava/util/Optional;"⟩ : MethodName) jdk_32_method_1_code 1 (some (.object "java/util/Optional")) ({ frames := 0, cells := 0, slots := 0, locals := 0 } : Room) ws Z n0 #[] h0 (Q2 Z n0 h0 ea) := by
  refine Con.body pn_2 ?_
  intro p e s m below meth c s₁ hx hby hml hown hnm hret hlk hZ X0
  have hown : s.vm.findClass "java/util/Optional" = some m.cls := hown
  have hnm : meth.name = "empty" := hnm
  rw [show entryFrame m #[] 1 = mkF m 0 #[.unset] [] from ef_rm2 m ]
  show Go p e below (PostW s n0 (0 : Nat) (0 : Nat) (Q2 Z n0 h0 ea)) s₁ (mkF m 0 #[.unset] [])
  refine goGetS X0 hx hZ hown (host := "") (Or.inl (hw _ (List.mem_of_getElem? (i := 11) rfl))) Via.refl g0 (hb hby d2_0) fun T1 X1 => ?_
  show Go p e below _ T1 (mkF m 3 #[.unset] [(.ref ea)])
  refine Go.st (T' := T1) (g' := (mkF m 4 #[.val (.ref ea)] [])) (fun t_ k_ => XS.astoreN X1.here hx rfl (hb hby d2_3) rfl rfl (l' := #[.val (.ref ea)]) rfl k_) ?_
  refine Go.st (T' := T1) (g' := (mkF m 5 #[.val (.ref ea)] [(.ref ea)])) (fun t_ k_ => XS.aloadN X1.here hx rfl (hb hby d2_4) rfl rfl k_) ?_
  refine goRetA X1 hx hlk hret rfl (hb hby d2_5) (by decide) (by decide) ?_
  refine ⟨rfl, rfl⟩
theorem d4_0 : decode jdk_30_method_1_code 0 = .ok (.aload_n 0, 1) := by decide +kernel
theorem d4_1 : decode jdk_30_method_1_code 1 = .ok (.invokespecial 1, 3) := by decide +kernel
theorem d4_4 : decode jdk_30_method_1_code 4 = .ok (.return_, 1) := by decide +kernel
theorem pn_4 : plainFor (⟨"java/lang/Record", "<init>", "()V"⟩ : MethodName) = true := plainFor_of_name (by first | (simp [plainName, overriddenIn]; done) | decide +kernel)
theorem ef_rm4 (m : MethodId) (x0 : Addr) : entryFrame m #[(.ref x0)] 1 = mkF m 0 #[.val (.ref x0)] [] := by first | (simp [entryFrame, mkF, argsToLocals, Value.category]; done) | rfl
def Q4 (Z : State) (n0 : Nat) (h0 : Heap) (a : Addr) (v : Option Value) (h : Heap) : Prop := v = none ∧ h = h0
set_option maxRecDepth 65536 in
set_option maxHeartbeats 40000000 in
theorem rm4 (l : Launch) (Z : State) (a0 : Array Value) (hw : ∀ d ∈ tables_1, d.before a0 Z = true) (ws : List Jvm.Cond) (n0 : Nat) (h0 : Heap) (a : Addr) (sz0 : n0 ≤ h0.size) :
    Con l (⟨"java/lang/Record", "<init>", "()V"⟩ : MethodName) jdk_30_method_1_code 1 none ({ frames := 1, cells := 0, slots := 0, locals := 12 } : Room) ws Z n0 #[(.ref a)] h0 (Q4 Z n0 h0 a) := by
  refine Con.body pn_4 ?_
  intro p e s m below meth c s₁ hx hby hml hown hnm hret hlk hZ X0
  have hown : s.vm.findClass "java/lang/Record" = some m.cls := hown
  have hnm : meth.name = "<init>" := hnm
  rw [show entryFrame m #[(.ref a)] 1 = mkF m 0 #[.val (.ref a)] [] from ef_rm4 m a]
  show Go p e below (PostW s n0 (0 : Nat) (0 : Nat) (Q4 Z n0 h0 a)) s₁ (mkF m 0 #[.val (.ref a)] [])
  refine Go.st (T' := s₁) (g' := (mkF m 1 #[.val (.ref a)] [(.ref a)])) (fun t_ k_ => XS.aloadN X0.here hx rfl (hb hby d4_0) rfl rfl k_) ?_
  refine goInit X0 hx hZ hown (hw _ (List.mem_of_getElem? (i := 20) rfl)) (hw _ (List.mem_of_getElem? (i := 21) rfl)) (hw _ (List.mem_of_getElem? (i := 22) rfl)) (by rw [hml]; rfl) (hb hby d4_1) (by decide) (W := 0) (Nat.le_of_eq rfl) (by decide) fun T1 X1 => ?_
  show Go p e below _ T1 (mkF m 4 #[.val (.ref a)] [])
  refine goRetV X1 hx hlk hret (hb hby d4_4) (by decide) (by decide) ?_
  refine ⟨rfl, rfl⟩
theorem d8_0 : decode jdk_32_method_7_code 0 = .ok (.aload_n 0, 1) := by decide +kernel
theorem d8_1 : decode jdk_32_method_7_code 1 = .ok (.getfield 13, 3) := by decide +kernel
theorem d8_4 : decode jdk_32_method_7_code 4 = .ok (.ifnonnull 7, 3) := by decide +kernel
theorem d8_7 : decode jdk_32_method_7_code 7 = .ok (.iconst 1, 1) := by decide +kernel
theorem d8_8 : decode jdk_32_method_7_code 8 = .ok (.goto 4, 3) := by decide +kernel
theorem d8_11 : decode jdk_32_method_7_code 11 = .ok (.iconst 0, 1) := by decide +kernel
theorem d8_12 : decode jdk_32_method_7_code 12 = .ok (.ireturn, 1) := by decide +kernel
theorem pn_8 : plainFor (⟨"java/util/Optional", "isEmpty", "()Z"⟩ : MethodName) = true := plainFor_of_name (by first | (simp [plainName, overriddenIn]; done) | decide +kernel)
theorem ef_rm8 (m : MethodId) (x0 : Addr) : entryFrame m #[(.ref x0)] 1 = mkF m 0 #[.val (.ref x0)] [] := by first | (simp [entryFrame, mkF, argsToLocals, Value.category]; done) | rfl
def Q8 (Z : State) (n0 : Nat) (h0 : Heap) (o : Addr) (w : Value) (v : Option Value) (h : Heap) : Prop := ∃ (r : Int32), v = some (.int r) ∧ h = h0 ∧ ((r = 1 ∧ w = .null) ∨ (r = 0 ∧ w ≠ .null))
set_option maxRecDepth 65536 in
set_option maxHeartbeats 40000000 in
theorem rm8 (l : Launch) (Z : State) (a0 : Array Value) (hw : ∀ d ∈ tables_1, d.before a0 Z = true) (ws : List Jvm.Cond) (n0 : Nat) (h0 : Heap) (o : Addr) (w : Value) (sz0 : n0 ≤ h0.size) (g0 : Exa Z h0 o "java/util/Optional") (g1 : Fld Z h0 o "java/util/Optional" "value" "Ljava/lang/Object;" w) (hv : w = .null ∨ ∃ a, w = .ref a) :
    Con l (⟨"java/util/Optional", "isEmpty", "()Z"⟩ : MethodName) jdk_32_method_7_code 1 (some .boolean) ({ frames := 0, cells := 0, slots := 0, locals := 0 } : Room) ws Z n0 #[(.ref o)] h0 (Q8 Z n0 h0 o w) := by
  refine Con.body pn_8 ?_
  intro p e s m below meth c s₁ hx hby hml hown hnm hret hlk hZ X0
  have hown : s.vm.findClass "java/util/Optional" = some m.cls := hown
  have hnm : meth.name = "isEmpty" := hnm
  rw [show entryFrame m #[(.ref o)] 1 = mkF m 0 #[.val (.ref o)] [] from ef_rm8 m o]
  show Go p e below (PostW s n0 (0 : Nat) (0 : Nat) (Q8 Z n0 h0 o w)) s₁ (mkF m 0 #[.val (.ref o)] [])
  refine Go.st (T' := s₁) (g' := (mkF m 1 #[.val (.ref o)] [(.ref o)])) (fun t_ k_ => XS.aloadN X0.here hx rfl (hb hby d8_0) rfl rfl k_) ?_
  refine goGet X0 hx hZ hown (host := "") (Or.inl (hw _ (List.mem_of_getElem? (i := 53) rfl))) Via.refl g1 (hb hby d8_1) fun T1 X1 => ?_
  show Go p e below _ T1 (mkF m 4 #[.val (.ref o)] [w])
  rcases hv with rfl | ⟨va, rfl⟩
  · skip
    refine Go.st (T' := T1) (g' := (mkF m 7 #[.val (.ref o)] [])) (fun t_ k_ => XS.ifnonnullNo X1.here hx rfl (hb hby d8_4) rfl k_) ?_
    refine Go.st (T' := T1) (g' := (mkF m 8 #[.val (.ref o)] [(.int (1 : Int32))])) (fun t_ k_ => XS.iconst X1.here hx rfl (hb hby d8_7) k_) ?_
    refine Go.st (T' := T1) (g' := (mkF m 12 #[.val (.ref o)] [(.int (1 : Int32))])) (fun t_ k_ => XS.goto X1.here hx rfl (pc0 := 8) (pc' := 12) rfl (hb hby d8_8) (by decide) (by decide) k_) ?_
    refine goRetZ X1 hx hlk hret (hb hby d8_12) (by decide) (by decide) (Or.inr rfl) ?_
    refine ⟨(1 : Int32), rfl, rfl, ?_⟩
    · first | exact Or.inl ⟨rfl, rfl⟩ | exact Or.inr ⟨rfl, by intro q; cases q⟩
  · skip
    refine Go.st (T' := T1) (g' := (mkF m 11 #[.val (.ref o)] [])) (fun t_ k_ => XS.ifnonnullYes X1.here hx rfl (pc0 := 4) (pc' := 11) rfl (hb hby d8_4) rfl (by decide) (by decide) k_) ?_
    refine Go.st (T' := T1) (g' := (mkF m 12 #[.val (.ref o)] [(.int (0 : Int32))])) (fun t_ k_ => XS.iconst X1.here hx rfl (hb hby d8_11) k_) ?_
    refine goRetZ X1 hx hlk hret (hb hby d8_12) (by decide) (by decide) (Or.inl rfl) ?_
    refine ⟨(0 : Int32), rfl, rfl, ?_⟩
    · first | exact Or.inl ⟨rfl, rfl⟩ | exact Or.inr ⟨rfl, by intro q; cases q⟩

theorem own_yn {r : Int32} {v : Value} (t : (r = 1 ∧ v = .null) ∨ (r = 0 ∧ v ≠ .null)) (h : ¬ r = 0) : v = .null := t.elim (·.2) (fun q => absurd q.1 h)
theorem own_nn {r : Int32} {v : Value} (t : (r = 1 ∧ v = .null) ∨ (r = 0 ∧ v ≠ .null)) (h : r = 0) : v ≠ .null := t.elim (fun q => absurd (q.1.symm.trans h) (by decide)) (·.2)
theorem d7_0 : decode prog_18_method_2_code 0 = .ok (.aload_n 0, 1) := by decide +kernel
theorem d7_1 : decode prog_18_method_2_code 1 = .ok (.getfield 19, 3) := by decide +kernel
theorem d7_4 : decode prog_18_method_2_code 4 = .ok (.invokevirtual 28, 3) := by decide +kernel
theorem d7_7 : decode prog_18_method_2_code 7 = .ok (.ifCond .eq 27, 3) := by decide +kernel
theorem d7_10 : decode prog_18_method_2_code 10 = .ok (.aload_n 0, 1) := by decide +kernel
theorem d7_11 : decode prog_18_method_2_code 11 = .ok (.getfield 24, 3) := by decide +kernel
theorem d7_14 : decode prog_18_method_2_code 14 = .ok (.invokevirtual 28, 3) := by decide +kernel
theorem d7_17 : decode prog_18_method_2_code 17 = .ok (.ifCond .eq 17, 3) := by decide +kernel
theorem d7_20 : decode prog_18_method_2_code 20 = .ok (.aload_n 0, 1) := by decide +kernel
theorem d7_21 : decode prog_18_method_2_code 21 = .ok (.getfield 26, 3) := by decide +kernel
theorem d7_24 : decode prog_18_method_2_code 24 = .ok (.invokevirtual 28, 3) := by decide +kernel
theorem d7_27 : decode prog_18_method_2_code 27 = .ok (.ifCond .eq 7, 3) := by decide +kernel
theorem d7_30 : decode prog_18_method_2_code 30 = .ok (.iconst 1, 1) := by decide +kernel
theorem d7_31 : decode prog_18_method_2_code 31 = .ok (.goto 4, 3) := by decide +kernel
theorem d7_34 : decode prog_18_method_2_code 34 = .ok (.iconst 0, 1) := by decide +kernel
theorem d7_35 : decode prog_18_method_2_code 35 = .ok (.ireturn, 1) := by decide +kernel
theorem pn_7 : plainFor (⟨"com/example/security_target_reader/securitytargetreader/Identification", "isEmpty", "()Z"⟩ : MethodName) = true := plainFor_of_name (by first | (simp [plainName, overriddenIn]; done) | decide +kernel)
theorem pd_06e7e94b : parseMethodDescriptor "()Z" = some ⟨[], some .boolean⟩ := by decide +kernel
theorem ef_rm7 (m : MethodId) (x0 : Addr) : entryFrame m #[(.ref x0)] 1 = mkF m 0 #[.val (.ref x0)] [] := by first | (simp [entryFrame, mkF, argsToLocals, Value.category]; done) | rfl
def Q7 (Z : State) (n0 : Nat) (h0 : Heap) (d : Addr) (o1 : Addr) (o2 : Addr) (o3 : Addr) (v1 : Value) (v2 : Value) (v3 : Value) (v : Option Value) (h : Heap) : Prop := ∃ (r : Int32), v = some (.int r) ∧ h = h0 ∧ ((r = 1 ∧ v1 = .null ∧ v2 = .null ∧ v3 = .null) ∨ (r = 0 ∧ ¬ (v1 = .null ∧ v2 = .null ∧ v3 = .null)))
set_option maxRecDepth 65536 in
set_option maxHeartbeats 40000000 in
theorem rm7 (l : Launch) (Z : State) (a0 : Array Value) (hw : ∀ d ∈ tables_1, d.before a0 Z = true) (ws : List Jvm.Cond) (n0 : Nat) (h0 : Heap) (d : Addr) (o1 : Addr) (o2 : Addr) (o3 : Addr) (v1 : Value) (v2 : Value) (v3 : Value) (sz0 : n0 ≤ h0.size) (g0 : Exa Z h0 d "com/example/security_target_reader/securitytargetreader/Identification") (g1 : Fld Z h0 d "com/example/security_target_reader/securitytargetreader/Identification" "title" "Ljava/util/Optional;" (.ref o1)) (g2 : Fld Z h0 d "com/example/security_target_reader/securitytargetreader/Identification" "version" "Ljava/util/Optional;" (.ref o2)) (g3 : Fld Z h0 d "com/example/security_target_reader/securitytargetreader/Identification" "date" "Ljava/util/Optional;" (.ref o3)) (g4 : Exa Z h0 o1 "java/util/Optional") (g5 : Exa Z h0 o2 "java/util/Optional") (g6 : Exa Z h0 o3 "java/util/Optional") (g7 : Fld Z h0 o1 "java/util/Optional" "value" "Ljava/lang/Object;" v1) (g8 : Fld Z h0 o2 "java/util/Optional" "value" "Ljava/lang/Object;" v2) (g9 : Fld Z h0 o3 "java/util/Optional" "value" "Ljava/lang/Object;" v3) (hv1 : v1 = .null ∨ ∃ a, v1 = .ref a) (hv2 : v2 = .null ∨ ∃ a, v2 = .ref a) (hv3 : v3 = .null ∨ ∃ a, v3 = .ref a) :
    Con l (⟨"com/example/security_target_reader/securitytargetreader/Identification", "isEmpty", "()Z"⟩ : MethodName) prog_18_method_2_code 1 (some .boolean) ({ frames := 1, cells := 0, slots := 0, locals := 12 } : Room) ws Z n0 #[(.ref d)] h0 (Q7 Z n0 h0 d o1 o2 o3 v1 v2 v3) := by
  refine Con.body pn_7 ?_
  intro p e s m below meth c s₁ hx hby hml hown hnm hret hlk hZ X0
  have hown : s.vm.findClass "com/example/security_target_reader/securitytargetreader/Identification" = some m.cls := hown
  have hnm : meth.name = "isEmpty" := hnm
  rw [show entryFrame m #[(.ref d)] 1 = mkF m 0 #[.val (.ref d)] [] from ef_rm7 m d]
  show Go p e below (PostW s n0 (0 : Nat) (0 : Nat) (Q7 Z n0 h0 d o1 o2 o3 v1 v2 v3)) s₁ (mkF m 0 #[.val (.ref d)] [])
  refine Go.st (T' := s₁) (g' := (mkF m 1 #[.val (.ref d)] [(.ref d)])) (fun t_ k_ => XS.aloadN X0.here hx rfl (hb hby d7_0) rfl rfl k_) ?_
  refine goGet X0 hx hZ hown (host := "") (Or.inl (hw _ (List.mem_of_getElem? (i := 37) rfl))) Via.refl g1 (hb hby d7_1) fun T1 X1 => ?_
  show Go p e below _ T1 (mkF m 4 #[.val (.ref d)] [(.ref o1)])
  refine goVirtS X1 hx hZ (y := (⟨"java/util/Optional", "isEmpty", "()Z"⟩ : MethodName)) hown (hw _ (List.mem_of_getElem? (i := 48) rfl)) (hw _ (List.mem_of_getElem? (i := 49) rfl)) (hw _ (List.mem_of_getElem? (i := 51) rfl)) (hw _ (List.mem_of_getElem? (i := 50) rfl)) (hw _ (List.mem_of_getElem? (i := 9) rfl)) (hw _ (List.mem_of_getElem? (i := 52) rfl)) (by decide) g4 (rm8 l Z a0 hw [] n0 h0 o1 v1 sz0 g4 g7 (hv1)) 0 (by decide) (by decide) (by rw [hml]; rfl) [] [] (lenOf pd_06e7e94b rfl) rfl rfl rfl (hb hby d7_4) (by decide) (by decide) fun v2 T2 h2 X2 hq2 => ?_
  obtain ⟨r1, rfl, eh2, t1⟩ := hq2
  rw [eh2] at X2
  show Go p e below _ T2 (mkF m 7 #[.val (.ref d)] [(.int r1)])
  by_cases hc7 : r1 = (0 : Int32)
  · skip
    refine Go.st (T' := T2) (g' := (mkF m 34 #[.val (.ref d)] [])) (fun t_ k_ => XS.ifYes X2.here hx rfl (pc0 := 7) (pc' := 34) rfl (hb hby d7_7) rfl ((if0 _ _).trans (teq hc7).1) (by decide) (by decide) k_) ?_
    refine Go.st (T' := T2) (g' := (mkF m 35 #[.val (.ref d)] [(.int (0 : Int32))])) (fun t_ k_ => XS.iconst X2.here hx rfl (hb hby d7_34) k_) ?_
    refine goRetZ X2 hx hlk hret (hb hby d7_35) (by decide) (by decide) (Or.inl rfl) ?_
    refine ⟨(0 : Int32), rfl, rfl, ?_⟩
    · first | exact Or.inl ⟨rfl, (own_yn t1 hc7), (own_yn t2 hc17), (own_yn t3 hc27)⟩ | exact Or.inr ⟨rfl, fun q => own_nn t1 hc7 q.1⟩ | exact Or.inr ⟨rfl, fun q => own_nn t2 hc17 q.2.1⟩ | exact Or.inr ⟨rfl, fun q => own_nn t3 hc27 q.2.2⟩
  · skip
    refine Go.st (T' := T2) (g' := (mkF m 10 #[.val (.ref d)] [])) (fun t_ k_ => XS.ifNo X2.here hx rfl (hb hby d7_7) rfl ((if0 _ _).trans (feq hc7).1) k_) ?_
    refine Go.st (T' := T2) (g' := (mkF m 11 #[.val (.ref d)] [(.ref d)])) (fun t_ k_ => XS.aloadN X2.here hx rfl (hb hby d7_10) rfl rfl k_) ?_
    refine goGet X2 hx hZ hown (host := "") (Or.inl (hw _ (List.mem_of_getElem? (i := 39) rfl))) Via.refl g2 (hb hby d7_11) fun T3 X3 => ?_
    show Go p e below _ T3 (mkF m 14 #[.val (.ref d)] [(.ref o2)])
    refine goVirtS X3 hx hZ (y := (⟨"java/util/Optional", "isEmpty", "()Z"⟩ : MethodName)) hown (hw _ (List.mem_of_getElem? (i := 48) rfl)) (hw _ (List.mem_of_getElem? (i := 49) rfl)) (hw _ (List.mem_of_getElem? (i := 51) rfl)) (hw _ (List.mem_of_getElem? (i := 50) rfl)) (hw _ (List.mem_of_getElem? (i := 9) rfl)) (hw _ (List.mem_of_getElem? (i := 52) rfl)) (by decide) g5 (rm8 l Z a0 hw [] n0 h0 o2 v2 sz0 g5 g8 (hv2)) 0 (by decide) (by decide) (by rw [hml]; rfl) [] [] (lenOf pd_06e7e94b rfl) rfl rfl rfl (hb hby d7_14) (by decide) (by decide) fun v4 T4 h4 X4 hq4 => ?_
    obtain ⟨r2, rfl, eh4, t2⟩ := hq4
    rw [eh4] at X4
    show Go p e below _ T4 (mkF m 17 #[.val (.ref d)] [(.int r2)])
    by_cases hc17 : r2 = (0 : Int32)
    · skip
      refine Go.st (T' := T4) (g' := (mkF m 34 #[.val (.ref d)] [])) (fun t_ k_ => XS.ifYes X4.here hx rfl (pc0 := 17) (pc' := 34) rfl (hb hby d7_17) rfl ((if0 _ _).trans (teq hc17).1) (by decide) (by decide) k_) ?_
      refine Go.st (T' := T4) (g' := (mkF m 35 #[.val (.ref d)] [(.int (0 : Int32))])) (fun t_ k_ => XS.iconst X4.here hx rfl (hb hby d7_34) k_) ?_
      refine goRetZ X4 hx hlk hret (hb hby d7_35) (by decide) (by decide) (Or.inl rfl) ?_
      refine ⟨(0 : Int32), rfl, rfl, ?_⟩
      · first | exact Or.inl ⟨rfl, (own_yn t1 hc7), (own_yn t2 hc17), (own_yn t3 hc27)⟩ | exact Or.inr ⟨rfl, fun q => own_nn t1 hc7 q.1⟩ | exact Or.inr ⟨rfl, fun q => own_nn t2 hc17 q.2.1⟩ | exact Or.inr ⟨rfl, fun q => own_nn t3 hc27 q.2.2⟩
    · skip
      refine Go.st (T' := T4) (g' := (mkF m 20 #[.val (.ref d)] [])) (fun t_ k_ => XS.ifNo X4.here hx rfl (hb hby d7_17) rfl ((if0 _ _).trans (feq hc17).1) k_) ?_
      refine Go.st (T' := T4) (g' := (mkF m 21 #[.val (.ref d)] [(.ref d)])) (fun t_ k_ => XS.aloadN X4.here hx rfl (hb hby d7_20) rfl rfl k_) ?_
      refine goGet X4 hx hZ hown (host := "") (Or.inl (hw _ (List.mem_of_getElem? (i := 41) rfl))) Via.refl g3 (hb hby d7_21) fun T5 X5 => ?_
      show Go p e below _ T5 (mkF m 24 #[.val (.ref d)] [(.ref o3)])
      refine goVirtS X5 hx hZ (y := (⟨"java/util/Optional", "isEmpty", "()Z"⟩ : MethodName)) hown (hw _ (List.mem_of_getElem? (i := 48) rfl)) (hw _ (List.mem_of_getElem? (i := 49) rfl)) (hw _ (List.mem_of_getElem? (i := 51) rfl)) (hw _ (List.mem_of_getElem? (i := 50) rfl)) (hw _ (List.mem_of_getElem? (i := 9) rfl)) (hw _ (List.mem_of_getElem? (i := 52) rfl)) (by decide) g6 (rm8 l Z a0 hw [] n0 h0 o3 v3 sz0 g6 g9 (hv3)) 0 (by decide) (by decide) (by rw [hml]; rfl) [] [] (lenOf pd_06e7e94b rfl) rfl rfl rfl (hb hby d7_24) (by decide) (by decide) fun v6 T6 h6 X6 hq6 => ?_
      obtain ⟨r3, rfl, eh6, t3⟩ := hq6
      rw [eh6] at X6
      show Go p e below _ T6 (mkF m 27 #[.val (.ref d)] [(.int r3)])
      by_cases hc27 : r3 = (0 : Int32)
      · skip
        refine Go.st (T' := T6) (g' := (mkF m 34 #[.val (.ref d)] [])) (fun t_ k_ => XS.ifYes X6.here hx rfl (pc0 := 27) (pc' := 34) rfl (hb hby d7_27) rfl ((if0 _ _).trans (teq hc27).1) (by decide) (by decide) k_) ?_
        refine Go.st (T' := T6) (g' := (mkF m 35 #[.val (.ref d)] [(.int (0 : Int32))])) (fun t_ k_ => XS.iconst X6.here hx rfl (hb hby d7_34) k_) ?_
        refine goRetZ X6 hx hlk hret (hb hby d7_35) (by decide) (by decide) (Or.inl rfl) ?_
        refine ⟨(0 : Int32), rfl, rfl, ?_⟩
        · first | exact Or.inl ⟨rfl, (own_yn t1 hc7), (own_yn t2 hc17), (own_yn t3 hc27)⟩ | exact Or.inr ⟨rfl, fun q => own_nn t1 hc7 q.1⟩ | exact Or.inr ⟨rfl, fun q => own_nn t2 hc17 q.2.1⟩ | exact Or.inr ⟨rfl, fun q => own_nn t3 hc27 q.2.2⟩
      · skip
        refine Go.st (T' := T6) (g' := (mkF m 30 #[.val (.ref d)] [])) (fun t_ k_ => XS.ifNo X6.here hx rfl (hb hby d7_27) rfl ((if0 _ _).trans (feq hc27).1) k_) ?_
        refine Go.st (T' := T6) (g' := (mkF m 31 #[.val (.ref d)] [(.int (1 : Int32))])) (fun t_ k_ => XS.iconst X6.here hx rfl (hb hby d7_30) k_) ?_
        refine Go.st (T' := T6) (g' := (mkF m 35 #[.val (.ref d)] [(.int (1 : Int32))])) (fun t_ k_ => XS.goto X6.here hx rfl (pc0 := 31) (pc' := 35) rfl (hb hby d7_31) (by decide) (by decide) k_) ?_
        refine goRetZ X6 hx hlk hret (hb hby d7_35) (by decide) (by decide) (Or.inr rfl) ?_
        refine ⟨(1 : Int32), rfl, rfl, ?_⟩
        · first | exact Or.inl ⟨rfl, (own_yn t1 hc7), (own_yn t2 hc17), (own_yn t3 hc27)⟩ | exact Or.inr ⟨rfl, fun q => own_nn t1 hc7 q.1⟩ | exact Or.inr ⟨rfl, fun q => own_nn t2 hc17 q.2.1⟩ | exact Or.inr ⟨rfl, fun q => own_nn t3 hc27 q.2.2⟩
theorem d12_0 : decode jdk_52_method_21_code 0 = .ok (.iconst 0, 1) := by decide +kernel
theorem d12_1 : decode jdk_52_method_21_code 1 = .ok (.istore 5, 2) := by decide +kernel
theorem d12_3 : decode jdk_52_method_21_code 3 = .ok (.iload 5, 2) := by decide +kernel
theorem d12_5 : decode jdk_52_method_21_code 5 = .ok (.iload 4, 2) := by decide +kernel
theorem d12_7 : decode jdk_52_method_21_code 7 = .ok (.if_icmp .ge 37, 3) := by decide +kernel
theorem d12_10 : decode jdk_52_method_21_code 10 = .ok (.aload_n 0, 1) := by decide +kernel
theorem d12_11 : decode jdk_52_method_21_code 11 = .ok (.iload_n 1, 1) := by decide +kernel
theorem d12_12 : decode jdk_52_method_21_code 12 = .ok (.caload, 1) := by decide +kernel
theorem d12_13 : decode jdk_52_method_21_code 13 = .ok (.istore 6, 2) := by decide +kernel
theorem d12_15 : decode jdk_52_method_21_code 15 = .ok (.iload 6, 2) := by decide +kernel
theorem d12_17 : decode jdk_52_method_21_code 17 = .ok (.sipush 255, 3) := by decide +kernel
theorem d12_20 : decode jdk_52_method_21_code 20 = .ok (.if_icmp .le 6, 3) := by decide +kernel
theorem d12_26 : decode jdk_52_method_21_code 26 = .ok (.aload_n 2, 1) := by decide +kernel
theorem d12_27 : decode jdk_52_method_21_code 27 = .ok (.iload_n 3, 1) := by decide +kernel
theorem d12_28 : decode jdk_52_method_21_code 28 = .ok (.iload 6, 2) := by decide +kernel
theorem d12_30 : decode jdk_52_method_21_code 30 = .ok (.i2b, 1) := by decide +kernel
theorem d12_31 : decode jdk_52_method_21_code 31 = .ok (.bastore, 1) := by decide +kernel
theorem d12_32 : decode jdk_52_method_21_code 32 = .ok (.iinc 1 1, 3) := by decide +kernel
theorem d12_35 : decode jdk_52_method_21_code 35 = .ok (.iinc 3 1, 3) := by decide +kernel
theorem d12_38 : decode jdk_52_method_21_code 38 = .ok (.iinc 5 1, 3) := by decide +kernel
theorem d12_41 : decode jdk_52_method_21_code 41 = .ok (.goto (-38), 3) := by decide +kernel
theorem d12_44 : decode jdk_52_method_21_code 44 = .ok (.iload 4, 2) := by decide +kernel
theorem d12_46 : decode jdk_52_method_21_code 46 = .ok (.ireturn, 1) := by decide +kernel
theorem pn_12 : plainFor (⟨"java/lang/StringUTF16", "compress", "([CI[BII)I"⟩ : MethodName) = true := plainFor_of_name (by first | (simp [plainName, overriddenIn]; done) | decide +kernel)
theorem ef_rm12 (m : MethodId) (x0 : Addr) (x1 : Int32) (x2 : Addr) (x3 : Int32) (x4 : Int32) : entryFrame m #[(.ref x0), (.int x1), (.ref x2), (.int x3), (.int x4)] 7 = mkF m 0 #[.val (.ref x0), .val (.int x1), .val (.ref x2), .val (.int x3), .val (.int x4), .unset, .unset] [] := by first | (simp [entryFrame, mkF, argsToLocals, Value.category]; done) | rfl
def Q12 (Z : State) (n0 : Nat) (h0 : Heap) (b : Addr) (t : Addr) (f : Nat → Int32) (g : Nat → Int32) (v : Option Value) (h : Heap) : Prop := ∃ (gg : Nat → Int32), v = some (.int (1 : Int32)) ∧ Keep h0 h [t] ∧ Ary Z h t .byte 1 (fun i => .int (gg i))
set_option maxRecDepth 65536 in
set_option maxHeartbeats 40000000 in
theorem rm12 (l : Launch) (Z : State) (a0 : Array Value) (hw : ∀ d ∈ tables_1, d.before a0 Z = true) (ws : List Jvm.Cond) (n0 : Nat) (h0 : Heap) (b : Addr) (t : Addr) (f : Nat → Int32) (g : Nat → Int32) (sz0 : n0 ≤ h0.size) (g0 : Ary Z h0 b .char 1 (fun i => .int (f i))) (g1 : Ary Z h0 t .byte 1 (fun i => .int (g i))) (g2 : n0 ≤ t) (hf : ¬ (255 : Int32) < f 0) :
    Con l (⟨"java/lang/StringUTF16", "compress", "([CI[BII)I"⟩ : MethodName) jdk_52_method_21_code 7 (some .int) ({ frames := 0, cells := 0, slots := 0, locals := 0 } : Room) ws Z n0 #[(.ref b), (.int (0 : Int32)), (.ref t), (.int (0 : Int32)), (.int (1 : Int32))] h0 (Q12 Z n0 h0 b t f g) := by
  refine Con.body pn_12 ?_
  intro p e s m below meth c s₁ hx hby hml hown hnm hret hlk hZ X0
  have hown : s.vm.findClass "java/lang/StringUTF16" = some m.cls := hown
  have hnm : meth.name = "compress" := hnm
  have K0 : Keep h0 h0 [t] := Keep.refl _ _
  rw [show entryFrame m #[(.ref b), (.int (0 : Int32)), (.ref t), (.int (0 : Int32)), (.int (1 : Int32))] 7 = mkF m 0 #[.val (.ref b), .val (.int (0 : Int32)), .val (.ref t), .val (.int (0 : Int32)), .val (.int (1 : Int32)), .unset, .unset] [] from ef_rm12 m b (0 : Int32) t (0 : Int32) (1 : Int32)]
  show Go p e below (PostW s n0 (0 : Nat) (0 : Nat) (Q12 Z n0 h0 b t f g)) s₁ (mkF m 0 #[.val (.ref b), .val (.int (0 : Int32)), .val (.ref t), .val (.int (0 : Int32)), .val (.int (1 : Int32)), .unset, .unset] [])
  refine Go.st (T' := s₁) (g' := (mkF m 1 #[.val (.ref b), .val (.int (0 : Int32)), .val (.ref t), .val (.int (0 : Int32)), .val (.int (1 : Int32)), .unset, .unset] [(.int (0 : Int32))])) (fun t_ k_ => XS.iconst X0.here hx rfl (hb hby d12_0) k_) ?_
  refine Go.st (T' := s₁) (g' := (mkF m 3 #[.val (.ref b), .val (.int (0 : Int32)), .val (.ref t), .val (.int (0 : Int32)), .val (.int (1 : Int32)), .val (.int (0 : Int32)), .unset] [])) (fun t_ k_ => XS.istore X0.here hx rfl (hb hby d12_1) rfl (l' := #[.val (.ref b), .val (.int (0 : Int32)), .val (.ref t), .val (.int (0 : Int32)), .val (.int (1 : Int32)), .val (.int (0 : Int32)), .unset]) rfl k_) ?_
  refine Go.st (T' := s₁) (g' := (mkF m 5 #[.val (.ref b), .val (.int (0 : Int32)), .val (.ref t), .val (.int (0 : Int32)), .val (.int (1 : Int32)), .val (.int (0 : Int32)), .unset] [(.int (0 : Int32))])) (fun t_ k_ => XS.iload X0.here hx rfl (hb hby d12_3) rfl k_) ?_
  refine Go.st (T' := s₁) (g' := (mkF m 7 #[.val (.ref b), .val (.int (0 : Int32)), .val (.ref t), .val (.int (0 : Int32)), .val (.int (1 : Int32)), .val (.int (0 : Int32)), .unset] [(.int (1 : Int32)), (.int (0 : Int32))])) (fun t_ k_ => XS.iload X0.here hx rfl (hb hby d12_5) rfl k_) ?_
  refine Go.st (T' := s₁) (g' := (mkF m 10 #[.val (.ref b), .val (.int (0 : Int32)), .val (.ref t), .val (.int (0 : Int32)), .val (.int (1 : Int32)), .val (.int (0 : Int32)), .unset] [])) (fun t_ k_ => XS.icmpNo X0.here hx rfl (hb hby d12_7) rfl (by decide) k_) ?_
  refine Go.st (T' := s₁) (g' := (mkF m 11 #[.val (.ref b), .val (.int (0 : Int32)), .val (.ref t), .val (.int (0 : Int32)), .val (.int (1 : Int32)), .val (.int (0 : Int32)), .unset] [(.ref b)])) (fun t_ k_ => XS.aloadN X0.here hx rfl (hb hby d12_10) rfl rfl k_) ?_
  refine Go.st (T' := s₁) (g' := (mkF m 12 #[.val (.ref b), .val (.int (0 : Int32)), .val (.ref t), .val (.int (0 : Int32)), .val (.int (1 : Int32)), .val (.int (0 : Int32)), .unset] [(.int (0 : Int32)), (.ref b)])) (fun t_ k_ => XS.iloadN X0.here hx rfl (hb hby d12_11) rfl k_) ?_
  refine goLdC X0 hx hZ (f := (fun i => (f i))) g0 (j := (0 : Int32)) (by decide) (hb hby d12_12) ?_
  show Go p e below _ s₁ (mkF m 13 #[.val (.ref b), .val (.int (0 : Int32)), .val (.ref t), .val (.int (0 : Int32)), .val (.int (1 : Int32)), .val (.int (0 : Int32)), .unset] [(.int (f ((0 : Int32)).toNatClampNeg))])
  refine Go.st (T' := s₁) (g' := (mkF m 15 #[.val (.ref b), .val (.int (0 : Int32)), .val (.ref t), .val (.int (0 : Int32)), .val (.int (1 : Int32)), .val (.int (0 : Int32)), .val (.int (f ((0 : Int32)).toNatClampNeg))] [])) (fun t_ k_ => XS.istore X0.here hx rfl (hb hby d12_13) rfl (l' := #[.val (.ref b), .val (.int (0 : Int32)), .val (.ref t), .val (.int (0 : Int32)), .val (.int (1 : Int32)), .val (.int (0 : Int32)), .val (.int (f ((0 : Int32)).toNatClampNeg))]) rfl k_) ?_
  refine Go.st (T' := s₁) (g' := (mkF m 17 #[.val (.ref b), .val (.int (0 : Int32)), .val (.ref t), .val (.int (0 : Int32)), .val (.int (1 : Int32)), .val (.int (0 : Int32)), .val (.int (f ((0 : Int32)).toNatClampNeg))] [(.int (f ((0 : Int32)).toNatClampNeg))])) (fun t_ k_ => XS.iload X0.here hx rfl (hb hby d12_15) rfl k_) ?_
  refine Go.st (T' := s₁) (g' := (mkF m 20 #[.val (.ref b), .val (.int (0 : Int32)), .val (.ref t), .val (.int (0 : Int32)), .val (.int (1 : Int32)), .val (.int (0 : Int32)), .val (.int (f ((0 : Int32)).toNatClampNeg))] [(.int (255 : Int32)), (.int (f ((0 : Int32)).toNatClampNeg))])) (fun t_ k_ => XS.sipush X0.here hx rfl (hb hby d12_17) k_) ?_
  have hc20 : ¬ ((255 : Int32) < (f ((0 : Int32)).toNatClampNeg)) := by rw [show ((0 : Int32)).toNatClampNeg = 0 from by decide]; exact hf
  refine Go.st (T' := s₁) (g' := (mkF m 26 #[.val (.ref b), .val (.int (0 : Int32)), .val (.ref t), .val (.int (0 : Int32)), .val (.int (1 : Int32)), .val (.int (0 : Int32)), .val (.int (f ((0 : Int32)).toNatClampNeg))] [])) (fun t_ k_ => XS.icmpYes X0.here hx rfl (pc0 := 20) (pc' := 26) rfl (hb hby d12_20) rfl (flt hc20).2.2.2 (by decide) (by decide) k_) ?_
  refine Go.st (T' := s₁) (g' := (mkF m 27 #[.val (.ref b), .val (.int (0 : Int32)), .val (.ref t), .val (.int (0 : Int32)), .val (.int (1 : Int32)), .val (.int (0 : Int32)), .val (.int (f ((0 : Int32)).toNatClampNeg))] [(.ref t)])) (fun t_ k_ => XS.aloadN X0.here hx rfl (hb hby d12_26) rfl rfl k_) ?_
  refine Go.st (T' := s₁) (g' := (mkF m 28 #[.val (.ref b), .val (.int (0 : Int32)), .val (.ref t), .val (.int (0 : Int32)), .val (.int (1 : Int32)), .val (.int (0 : Int32)), .val (.int (f ((0 : Int32)).toNatClampNeg))] [(.int (0 : Int32)), (.ref t)])) (fun t_ k_ => XS.iloadN X0.here hx rfl (hb hby d12_27) rfl k_) ?_
  refine Go.st (T' := s₁) (g' := (mkF m 30 #[.val (.ref b), .val (.int (0 : Int32)), .val (.ref t), .val (.int (0 : Int32)), .val (.int (1 : Int32)), .val (.int (0 : Int32)), .val (.int (f ((0 : Int32)).toNatClampNeg))] [(.int (f ((0 : Int32)).toNatClampNeg)), (.int (0 : Int32)), (.ref t)])) (fun t_ k_ => XS.iload X0.here hx rfl (hb hby d12_28) rfl k_) ?_
  refine Go.st (T' := s₁) (g' := (mkF m 31 #[.val (.ref b), .val (.int (0 : Int32)), .val (.ref t), .val (.int (0 : Int32)), .val (.int (1 : Int32)), .val (.int (0 : Int32)), .val (.int (f ((0 : Int32)).toNatClampNeg))] [(.int ((f ((0 : Int32)).toNatClampNeg).toInt8.toInt32)), (.int (0 : Int32)), (.ref t)])) (fun t_ k_ => XS.i2b X0.here hx rfl (hb hby d12_30) rfl k_) ?_
  refine goStB X0 hx hZ (f := (fun i => (g i))) g1 (j := (0 : Int32)) (by decide) g2 (hb hby d12_31) fun T1 h1 X1 W1 A1 => ?_
  have sz1 : n0 ≤ h1.size := Nat.le_trans sz0 (Keep.of_wr W1).1
  have K1 : Keep h0 h1 [t] := K0.wr W1 (Or.inl (List.mem_of_getElem? (i := 0) rfl))
  show Go p e below _ T1 (mkF m 32 #[.val (.ref b), .val (.int (0 : Int32)), .val (.ref t), .val (.int (0 : Int32)), .val (.int (1 : Int32)), .val (.int (0 : Int32)), .val (.int (f ((0 : Int32)).toNatClampNeg))] [])
  refine Go.st (T' := T1) (g' := (mkF m 35 #[.val (.ref b), .val (.int ((0 : Int32) + (1 : Int32))), .val (.ref t), .val (.int (0 : Int32)), .val (.int (1 : Int32)), .val (.int (0 : Int32)), .val (.int (f ((0 : Int32)).toNatClampNeg))] [])) (fun t_ k_ => XS.iinc X1.here hx rfl (hb hby d12_32) rfl (l' := #[.val (.ref b), .val (.int ((0 : Int32) + (1 : Int32))), .val (.ref t), .val (.int (0 : Int32)), .val (.int (1 : Int32)), .val (.int (0 : Int32)), .val (.int (f ((0 : Int32)).toNatClampNeg))]) rfl k_) ?_
  refine Go.st (T' := T1) (g' := (mkF m 38 #[.val (.ref b), .val (.int ((0 : Int32) + (1 : Int32))), .val (.ref t), .val (.int ((0 : Int32) + (1 : Int32))), .val (.int (1 : Int32)), .val (.int (0 : Int32)), .val (.int (f ((0 : Int32)).toNatClampNeg))] [])) (fun t_ k_ => XS.iinc X1.here hx rfl (hb hby d12_35) rfl (l' := #[.val (.ref b), .val (.int ((0 : Int32) + (1 : Int32))), .val (.ref t), .val (.int ((0 : Int32) + (1 : Int32))), .val (.int (1 : Int32)), .val (.int (0 : Int32)), .val (.int (f ((0 : Int32)).toNatClampNeg))]) rfl k_) ?_
  refine Go.st (T' := T1) (g' := (mkF m 41 #[.val (.ref b), .val (.int ((0 : Int32) + (1 : Int32))), .val (.ref t), .val (.int ((0 : Int32) + (1 : Int32))), .val (.int (1 : Int32)), .val (.int ((0 : Int32) + (1 : Int32))), .val (.int (f ((0 : Int32)).toNatClampNeg))] [])) (fun t_ k_ => XS.iinc X1.here hx rfl (hb hby d12_38) rfl (l' := #[.val (.ref b), .val (.int ((0 : Int32) + (1 : Int32))), .val (.ref t), .val (.int ((0 : Int32) + (1 : Int32))), .val (.int (1 : Int32)), .val (.int ((0 : Int32) + (1 : Int32))), .val (.int (f ((0 : Int32)).toNatClampNeg))]) rfl k_) ?_
  refine Go.st (T' := T1) (g' := (mkF m 3 #[.val (.ref b), .val (.int ((0 : Int32) + (1 : Int32))), .val (.ref t), .val (.int ((0 : Int32) + (1 : Int32))), .val (.int (1 : Int32)), .val (.int ((0 : Int32) + (1 : Int32))), .val (.int (f ((0 : Int32)).toNatClampNeg))] [])) (fun t_ k_ => XS.goto X1.here hx rfl (pc0 := 41) (pc' := 3) rfl (hb hby d12_41) (by decide) (by decide) k_) ?_
  refine Go.st (T' := T1) (g' := (mkF m 5 #[.val (.ref b), .val (.int ((0 : Int32) + (1 : Int32))), .val (.ref t), .val (.int ((0 : Int32) + (1 : Int32))), .val (.int (1 : Int32)), .val (.int ((0 : Int32) + (1 : Int32))), .val (.int (f ((0 : Int32)).toNatClampNeg))] [(.int ((0 : Int32) + (1 : Int32)))])) (fun t_ k_ => XS.iload X1.here hx rfl (hb hby d12_3) rfl k_) ?_
  refine Go.st (T' := T1) (g' := (mkF m 7 #[.val (.ref b), .val (.int ((0 : Int32) + (1 : Int32))), .val (.ref t), .val (.int ((0 : Int32) + (1 : Int32))), .val (.int (1 : Int32)), .val (.int ((0 : Int32) + (1 : Int32))), .val (.int (f ((0 : Int32)).toNatClampNeg))] [(.int (1 : Int32)), (.int ((0 : Int32) + (1 : Int32)))])) (fun t_ k_ => XS.iload X1.here hx rfl (hb hby d12_5) rfl k_) ?_
  have hc7 : ¬ (((0 : Int32) + (1 : Int32)) < (1 : Int32)) := by decide
  refine Go.st (T' := T1) (g' := (mkF m 44 #[.val (.ref b), .val (.int ((0 : Int32) + (1 : Int32))), .val (.ref t), .val (.int ((0 : Int32) + (1 : Int32))), .val (.int (1 : Int32)), .val (.int ((0 : Int32) + (1 : Int32))), .val (.int (f ((0 : Int32)).toNatClampNeg))] [])) (fun t_ k_ => XS.icmpYes X1.here hx rfl (pc0 := 7) (pc' := 44) rfl (hb hby d12_7) rfl (flt hc7).2.1 (by decide) (by decide) k_) ?_
  refine Go.st (T' := T1) (g' := (mkF m 46 #[.val (.ref b), .val (.int ((0 : Int32) + (1 : Int32))), .val (.ref t), .val (.int ((0 : Int32) + (1 : Int32))), .val (.int (1 : Int32)), .val (.int ((0 : Int32) + (1 : Int32))), .val (.int (f ((0 : Int32)).toNatClampNeg))] [(.int (1 : Int32))])) (fun t_ k_ => XS.iload X1.here hx rfl (hb hby d12_44) rfl k_) ?_
  refine goRetI X1 hx hlk hret (hb hby d12_46) (by decide) (by decide) ?_
  refine ⟨(fun i => (if i = ((0 : Int32)).toNatClampNeg then nar .byte ((f ((0 : Int32)).toNatClampNeg).toInt8.toInt32) else (fun i => (g i)) i)), rfl, K1, A1⟩
theorem d11_0 : decode jdk_52_method_16_code 0 = .ok (.iload_n 2, 1) := by decide +kernel
theorem d11_1 : decode jdk_52_method_16_code 1 = .ok (.newarray .byte, 2) := by decide +kernel
theorem d11_3 : decode jdk_52_method_16_code 3 = .ok (.astore_n 3, 1) := by decide +kernel
theorem d11_4 : decode jdk_52_method_16_code 4 = .ok (.aload_n 0, 1) := by decide +kernel
theorem d11_5 : decode jdk_52_method_16_code 5 = .ok (.iload_n 1, 1) := by decide +kernel
theorem d11_6 : decode jdk_52_method_16_code 6 = .ok (.aload_n 3, 1) := by decide +kernel
theorem d11_7 : decode jdk_52_method_16_code 7 = .ok (.iconst 0, 1) := by decide +kernel
theorem d11_8 : decode jdk_52_method_16_code 8 = .ok (.iload_n 2, 1) := by decide +kernel
theorem d11_9 : decode jdk_52_method_16_code 9 = .ok (.invokestatic 115, 3) := by decide +kernel
theorem d11_12 : decode jdk_52_method_16_code 12 = .ok (.istore 4, 2) := by decide +kernel
theorem d11_14 : decode jdk_52_method_16_code 14 = .ok (.iload 4, 2) := by decide +kernel
theorem d11_16 : decode jdk_52_method_16_code 16 = .ok (.iload_n 2, 1) := by decide +kernel
theorem d11_17 : decode jdk_52_method_16_code 17 = .ok (.if_icmp .eq 40, 3) := by decide +kernel
theorem d11_57 : decode jdk_52_method_16_code 57 = .ok (.aload_n 3, 1) := by decide +kernel
theorem d11_58 : decode jdk_52_method_16_code 58 = .ok (.areturn, 1) := by decide +kernel
theorem pn_11 : plainFor (⟨"java/lang/StringUTF16", "compress", "([CII)[B"⟩ : MethodName) = true := plainFor_of_name (by first | (simp [plainName, overriddenIn]; done) | decide +kernel)
theorem pd_afed3567 : parseMethodDescriptor "([CI[BII)I" = some ⟨[(.array .char), .int, (.array .byte), .int, .int], some .int⟩ := by decide +kernel
theorem ef_rm11 (m : MethodId) (x0 : Addr) (x1 : Int32) (x2 : Int32) : entryFrame m #[(.ref x0), (.int x1), (.int x2)] 6 = mkF m 0 #[.val (.ref x0), .val (.int x1), .val (.int x2), .unset, .unset, .unset] [] := by first | (simp [entryFrame, mkF, argsToLocals, Value.category]; done) | rfl
def Q11 (Z : State) (n0 : Nat) (h0 : Heap) (b : Addr) (f : Nat → Int32) (v : Option Value) (h : Heap) : Prop := ∃ (t : Addr) (gg : Nat → Int32), v = some (.ref t) ∧ Keep h0 h [] ∧ h0.size ≤ t ∧ Exa Z h t "[B" ∧ Ary Z h t .byte 1 (fun i => .int (gg i))
set_option maxRecDepth 65536 in
set_option maxHeartbeats 40000000 in
theorem rm11 (l : Launch) (Z : State) (a0 : Array Value) (hw : ∀ d ∈ tables_1, d.before a0 Z = true) (ws : List Jvm.Cond) (n0 : Nat) (h0 : Heap) (b : Addr) (f : Nat → Int32) (sz0 : n0 ≤ h0.size) (g0 : Ary Z h0 b .char 1 (fun i => .int (f i))) (hf : ¬ (255 : Int32) < f 0) :
    Con l (⟨"java/lang/StringUTF16", "compress", "([CII)[B"⟩ : MethodName) jdk_52_method_16_code 6 (some (.array .byte)) ({ frames := 1, cells := 1, slots := 1, locals := 18 } : Room) ws Z n0 #[(.ref b), (.int (0 : Int32)), (.int (1 : Int32))] h0 (Q11 Z n0 h0 b f) := by
  refine Con.body pn_11 ?_
  intro p e s m below meth c s₁ hx hby hml hown hnm hret hlk hZ X0
  have hown : s.vm.findClass "java/lang/StringUTF16" = some m.cls := hown
  have hnm : meth.name = "compress" := hnm
  have K0 : Keep h0 h0 [] := Keep.refl _ _
  rw [show entryFrame m #[(.ref b), (.int (0 : Int32)), (.int (1 : Int32))] 6 = mkF m 0 #[.val (.ref b), .val (.int (0 : Int32)), .val (.int (1 : Int32)), .unset, .unset, .unset] [] from ef_rm11 m b (0 : Int32) (1 : Int32)]
  show Go p e below (PostW s n0 (1 : Nat) (1 : Nat) (Q11 Z n0 h0 b f)) s₁ (mkF m 0 #[.val (.ref b), .val (.int (0 : Int32)), .val (.int (1 : Int32)), .unset, .unset, .unset] [])
  refine Go.st (T' := s₁) (g' := (mkF m 1 #[.val (.ref b), .val (.int (0 : Int32)), .val (.int (1 : Int32)), .unset, .unset, .unset] [(.int (1 : Int32))])) (fun t_ k_ => XS.iloadN X0.here hx rfl (hb hby d11_0) rfl k_) ?_
  refine goNewA (aty := .byte) X0 hx hZ (hw _ (List.mem_of_getElem? (i := 26) rfl)) (hb hby d11_1) (by decide) (cap := 1) (by decide) (by decide) (by decide) (by decide) (ad := "[B") (by decide) fun T1 h1 t gb1 X1 E1 A1 B1 => ?_
  have ge1 : n0 ≤ t := gb1 ▸ sz0
  have ne1_b : b ≠ t := gb1 ▸ Nat.ne_of_lt g0.lt
  have fr1 : h0.size ≤ t := gb1 ▸ K0.1
  have f1_0 : Ary Z h1 b .char 1 (fun i => .int (f i)) := g0.ext E1
  have sz1 : n0 ≤ h1.size := Nat.le_trans sz0 E1.1
  have K1 : Keep h0 h1 [] := K0.ext E1
  have B1' : Ary Z h1 t .byte 1 (fun _ => .int 0) := B1
  show Go p e below _ T1 (mkF m 3 #[.val (.ref b), .val (.int (0 : Int32)), .val (.int (1 : Int32)), .unset, .unset, .unset] [(.ref t)])
  refine Go.st (T' := T1) (g' := (mkF m 4 #[.val (.ref b), .val (.int (0 : Int32)), .val (.int (1 : Int32)), .val (.ref t), .unset, .unset] [])) (fun t_ k_ => XS.astoreN X1.here hx rfl (hb hby d11_3) rfl rfl (l' := #[.val (.ref b), .val (.int (0 : Int32)), .val (.int (1 : Int32)), .val (.ref t), .unset, .unset]) rfl k_) ?_
  refine Go.st (T' := T1) (g' := (mkF m 5 #[.val (.ref b), .val (.int (0 : Int32)), .val (.int (1 : Int32)), .val (.ref t), .unset, .unset] [(.ref b)])) (fun t_ k_ => XS.aloadN X1.here hx rfl (hb hby d11_4) rfl rfl k_) ?_
  refine Go.st (T' := T1) (g' := (mkF m 6 #[.val (.ref b), .val (.int (0 : Int32)), .val (.int (1 : Int32)), .val (.ref t), .unset, .unset] [(.int (0 : Int32)), (.ref b)])) (fun t_ k_ => XS.iloadN X1.here hx rfl (hb hby d11_5) rfl k_) ?_
  refine Go.st (T' := T1) (g' := (mkF m 7 #[.val (.ref b), .val (.int (0 : Int32)), .val (.int (1 : Int32)), .val (.ref t), .unset, .unset] [(.ref t), (.int (0 : Int32)), (.ref b)])) (fun t_ k_ => XS.aloadN X1.here hx rfl (hb hby d11_6) rfl rfl k_) ?_
  refine Go.st (T' := T1) (g' := (mkF m 8 #[.val (.ref b), .val (.int (0 : Int32)), .val (.int (1 : Int32)), .val (.ref t), .unset, .unset] [(.int (0 : Int32)), (.ref t), (.int (0 : Int32)), (.ref b)])) (fun t_ k_ => XS.iconst X1.here hx rfl (hb hby d11_7) k_) ?_
  refine Go.st (T' := T1) (g' := (mkF m 9 #[.val (.ref b), .val (.int (0 : Int32)), .val (.int (1 : Int32)), .val (.ref t), .unset, .unset] [(.int (1 : Int32)), (.int (0 : Int32)), (.ref t), (.int (0 : Int32)), (.ref b)])) (fun t_ k_ => XS.iloadN X1.here hx rfl (hb hby d11_8) rfl k_) ?_
  refine goStatic X1 hx hZ (y := (⟨"java/lang/StringUTF16", "compress", "([CI[BII)I"⟩ : MethodName)) hown (hw _ (List.mem_of_getElem? (i := 70) rfl)) (hw _ (List.mem_of_getElem? (i := 71) rfl)) (hw _ (List.mem_of_getElem? (i := 68) rfl)) (hw _ (List.mem_of_getElem? (i := 72) rfl)) (by decide) (rm12 l Z a0 hw [] n0 h1 b t f (fun _ => 0) sz1 f1_0 B1' ge1 (by first | assumption | omega | simp_all)) 0 (by decide) (by decide) (by rw [hml]; rfl) [(.ref b), (.int (0 : Int32)), (.ref t), (.int (0 : Int32)), (.int (1 : Int32))] [] (lenOf pd_afed3567 rfl) rfl rfl rfl (hb hby d11_9) (by decide) (by decide) fun v2 T2 h2 X2 hq2 => ?_
  obtain ⟨gg_2, rfl, K2c, p2_0⟩ := hq2
  have f2_0 : Ary Z h2 b .char 1 (fun i => .int (f i)) := f1_0.keep K2c (ninS ne1_b nin0)
  have f2_4 : Exa Z h2 t "[B" := A1.keep K2c
  have sz2 : n0 ≤ h2.size := Nat.le_trans sz1 K2c.1
  have K2 : Keep h0 h2 [] := K1.trans K2c (allS (Or.inr fr1) all0)
  show Go p e below _ T2 (mkF m 12 #[.val (.ref b), .val (.int (0 : Int32)), .val (.int (1 : Int32)), .val (.ref t), .unset, .unset] [(.int (1 : Int32))])
  refine Go.st (T' := T2) (g' := (mkF m 14 #[.val (.ref b), .val (.int (0 : Int32)), .val (.int (1 : Int32)), .val (.ref t), .val (.int (1 : Int32)), .unset] [])) (fun t_ k_ => XS.istore X2.here hx rfl (hb hby d11_12) rfl (l' := #[.val (.ref b), .val (.int (0 : Int32)), .val (.int (1 : Int32)), .val (.ref t), .val (.int (1 : Int32)), .unset]) rfl k_) ?_
  refine Go.st (T' := T2) (g' := (mkF m 16 #[.val (.ref b), .val (.int (0 : Int32)), .val (.int (1 : Int32)), .val (.ref t), .val (.int (1 : Int32)), .unset] [(.int (1 : Int32))])) (fun t_ k_ => XS.iload X2.here hx rfl (hb hby d11_14) rfl k_) ?_
  refine Go.st (T' := T2) (g' := (mkF m 17 #[.val (.ref b), .val (.int (0 : Int32)), .val (.int (1 : Int32)), .val (.ref t), .val (.int (1 : Int32)), .unset] [(.int (1 : Int32)), (.int (1 : Int32))])) (fun t_ k_ => XS.iloadN X2.here hx rfl (hb hby d11_16) rfl k_) ?_
  refine Go.st (T' := T2) (g' := (mkF m 57 #[.val (.ref b), .val (.int (0 : Int32)), .val (.int (1 : Int32)), .val (.ref t), .val (.int (1 : Int32)), .unset] [])) (fun t_ k_ => XS.icmpYes X2.here hx rfl (pc0 := 17) (pc' := 57) rfl (hb hby d11_17) rfl (by decide) (by decide) (by decide) k_) ?_
  refine Go.st (T' := T2) (g' := (mkF m 58 #[.val (.ref b), .val (.int (0 : Int32)), .val (.int (1 : Int32)), .val (.ref t), .val (.int (1 : Int32)), .unset] [(.ref t)])) (fun t_ k_ => XS.aloadN X2.here hx rfl (hb hby d11_57) rfl rfl k_) ?_
  refine goRetA X2 hx hlk hret rfl (hb hby d11_58) (by decide) (by decide) ?_
  refine ⟨t, gg_2, rfl, K2, fr1, f2_4, p2_0⟩
theorem d13_0 : decode jdk_52_method_15_code 0 = .ok (.iload_n 1, 1) := by decide +kernel
theorem d13_1 : decode jdk_52_method_15_code 1 = .ok (.aload_n 0, 1) := by decide +kernel
theorem d13_2 : decode jdk_52_method_15_code 2 = .ok (.arraylength, 1) := by decide +kernel
theorem d13_3 : decode jdk_52_method_15_code 3 = .ok (.isub, 1) := by decide +kernel
theorem d13_4 : decode jdk_52_method_15_code 4 = .ok (.bipush 31, 2) := by decide +kernel
theorem d13_6 : decode jdk_52_method_15_code 6 = .ok (.iushr, 1) := by decide +kernel
theorem d13_7 : decode jdk_52_method_15_code 7 = .ok (.i2b, 1) := by decide +kernel
theorem d13_8 : decode jdk_52_method_15_code 8 = .ok (.ireturn, 1) := by decide +kernel
theorem pn_13 : plainFor (⟨"java/lang/StringUTF16", "coderFromArrayLen", "([BI)B"⟩ : MethodName) = true := plainFor_of_name (by first | (simp [plainName, overriddenIn]; done) | decide +kernel)
theorem ef_rm13 (m : MethodId) (x0 : Addr) (x1 : Int32) : entryFrame m #[(.ref x0), (.int x1)] 2 = mkF m 0 #[.val (.ref x0), .val (.int x1)] [] := by first | (simp [entryFrame, mkF, argsToLocals, Value.category]; done) | rfl
def Q13 (Z : State) (n0 : Nat) (h0 : Heap) (t : Addr) (gg : Nat → Int32) (v : Option Value) (h : Heap) : Prop := v = some (.int (0 : Int32)) ∧ h = h0
set_option maxRecDepth 65536 in
set_option maxHeartbeats 40000000 in
theorem rm13 (l : Launch) (Z : State) (a0 : Array Value) (hw : ∀ d ∈ tables_1, d.before a0 Z = true) (ws : List Jvm.Cond) (n0 : Nat) (h0 : Heap) (t : Addr) (gg : Nat → Int32) (sz0 : n0 ≤ h0.size) (g0 : Ary Z h0 t .byte 1 (fun i => .int (gg i))) :
    Con l (⟨"java/lang/StringUTF16", "coderFromArrayLen", "([BI)B"⟩ : MethodName) jdk_52_method_15_code 2 (some .byte) ({ frames := 0, cells := 0, slots := 0, locals := 0 } : Room) ws Z n0 #[(.ref t), (.int (1 : Int32))] h0 (Q13 Z n0 h0 t gg) := by
  refine Con.body pn_13 ?_
  intro p e s m below meth c s₁ hx hby hml hown hnm hret hlk hZ X0
  have hown : s.vm.findClass "java/lang/StringUTF16" = some m.cls := hown
  have hnm : meth.name = "coderFromArrayLen" := hnm
  rw [show entryFrame m #[(.ref t), (.int (1 : Int32))] 2 = mkF m 0 #[.val (.ref t), .val (.int (1 : Int32))] [] from ef_rm13 m t (1 : Int32)]
  show Go p e below (PostW s n0 (0 : Nat) (0 : Nat) (Q13 Z n0 h0 t gg)) s₁ (mkF m 0 #[.val (.ref t), .val (.int (1 : Int32))] [])
  refine Go.st (T' := s₁) (g' := (mkF m 1 #[.val (.ref t), .val (.int (1 : Int32))] [(.int (1 : Int32))])) (fun t_ k_ => XS.iloadN X0.here hx rfl (hb hby d13_0) rfl k_) ?_
  refine Go.st (T' := s₁) (g' := (mkF m 2 #[.val (.ref t), .val (.int (1 : Int32))] [(.ref t), (.int (1 : Int32))])) (fun t_ k_ => XS.aloadN X0.here hx rfl (hb hby d13_1) rfl rfl k_) ?_
  refine goLen X0 hx hZ g0 (hb hby d13_2) ?_
  show Go p e below _ s₁ (mkF m 3 #[.val (.ref t), .val (.int (1 : Int32))] [(.int (1 : Int32)), (.int (1 : Int32))])
  refine Go.st (T' := s₁) (g' := (mkF m 4 #[.val (.ref t), .val (.int (1 : Int32))] [(.int ((1 : Int32) - (1 : Int32)))])) (fun t_ k_ => XS.isub X0.here hx rfl (hb hby d13_3) rfl k_) ?_
  refine Go.st (T' := s₁) (g' := (mkF m 6 #[.val (.ref t), .val (.int (1 : Int32))] [(.int (31 : Int32)), (.int ((1 : Int32) - (1 : Int32)))])) (fun t_ k_ => XS.bipush X0.here hx rfl (hb hby d13_4) k_) ?_
  refine Go.st (T' := s₁) (g' := (mkF m 7 #[.val (.ref t), .val (.int (1 : Int32))] [(.int ((((1 : Int32) - (1 : Int32)).toUInt32 >>> ((31 : Int32) &&& 31).toUInt32).toInt32))])) (fun t_ k_ => XS.iushr X0.here hx rfl (hb hby d13_6) rfl k_) ?_
  refine Go.st (T' := s₁) (g' := (mkF m 8 #[.val (.ref t), .val (.int (1 : Int32))] [(.int (((((1 : Int32) - (1 : Int32)).toUInt32 >>> ((31 : Int32) &&& 31).toUInt32).toInt32).toInt8.toInt32))])) (fun t_ k_ => XS.i2b X0.here hx rfl (hb hby d13_7) rfl k_) ?_
  refine goRetB X0 hx hlk hret (hb hby d13_8) (by decide) (by decide) (z' := (0 : Int32)) (by decide) ?_
  refine ⟨rfl, rfl⟩
theorem d10_0 : decode jdk_42_method_149_code 0 = .ok (.aload_n 0, 1) := by decide +kernel
theorem d10_1 : decode jdk_42_method_149_code 1 = .ok (.invokespecial 1, 3) := by decide +kernel
theorem d10_4 : decode jdk_42_method_149_code 4 = .ok (.iload_n 3, 1) := by decide +kernel
theorem d10_5 : decode jdk_42_method_149_code 5 = .ok (.ifCond .ne 22, 3) := by decide +kernel
theorem d10_27 : decode jdk_42_method_149_code 27 = .ok (.getstatic 38, 3) := by decide +kernel
theorem d10_30 : decode jdk_42_method_149_code 30 = .ok (.ifCond .eq 28, 3) := by decide +kernel
theorem d10_33 : decode jdk_42_method_149_code 33 = .ok (.aload_n 1, 1) := by decide +kernel
theorem d10_34 : decode jdk_42_method_149_code 34 = .ok (.iload_n 2, 1) := by decide +kernel
theorem d10_35 : decode jdk_42_method_149_code 35 = .ok (.iload_n 3, 1) := by decide +kernel
theorem d10_36 : decode jdk_42_method_149_code 36 = .ok (.invokestatic 177, 3) := by decide +kernel
theorem d10_39 : decode jdk_42_method_149_code 39 = .ok (.astore 5, 2) := by decide +kernel
theorem d10_41 : decode jdk_42_method_149_code 41 = .ok (.aload_n 0, 1) := by decide +kernel
theorem d10_42 : decode jdk_42_method_149_code 42 = .ok (.aload 5, 2) := by decide +kernel
theorem d10_44 : decode jdk_42_method_149_code 44 = .ok (.iload_n 3, 1) := by decide +kernel
theorem d10_45 : decode jdk_42_method_149_code 45 = .ok (.invokestatic 47, 3) := by decide +kernel
theorem d10_48 : decode jdk_42_method_149_code 48 = .ok (.putfield 15, 3) := by decide +kernel
theorem d10_51 : decode jdk_42_method_149_code 51 = .ok (.aload_n 0, 1) := by decide +kernel
theorem d10_52 : decode jdk_42_method_149_code 52 = .ok (.aload 5, 2) := by decide +kernel
theorem d10_54 : decode jdk_42_method_149_code 54 = .ok (.putfield 9, 3) := by decide +kernel
theorem d10_57 : decode jdk_42_method_149_code 57 = .ok (.return_, 1) := by decide +kernel
theorem pn_10 : plainFor (⟨"java/lang/String", "<init>", "([CIILjava/lang/Void;)V"⟩ : MethodName) = true := plainFor_of_name (by first | (simp [plainName, overriddenIn]; done) | decide +kernel)
theorem pd_a25197c6 : parseMethodDescriptor "([CII)[B" = some ⟨[(.array .char), .int, .int], some (.array .byte)⟩ := by decide +kernel
theorem pd_873c418c : parseMethodDescriptor "([BI)B" = some ⟨[(.array .byte), .int], some .byte⟩ := by decide +kernel
theorem ef_rm10n (m : MethodId) (x0 : Addr) (x1 : Addr) (x2 : Int32) (x3 : Int32) : entryFrame m #[(.ref x0), (.ref x1), (.int x2), (.int x3), .null] 6 = mkF m 0 #[.val (.ref x0), .val (.ref x1), .val (.int x2), .val (.int x3), .val .null, .unset] [] := by first | (simp [entryFrame, mkF, argsToLocals, Value.category]; done) | rfl
def Q10n (Z : State) (n0 : Nat) (h0 : Heap) (a : Addr) (b : Addr) (f : Nat → Int32) (cz : Int32) (v : Option Value) (h : Heap) : Prop := v = none ∧ Keep h0 h [a]
set_option maxRecDepth 65536 in
set_option maxHeartbeats 40000000 in
theorem rm10n (l : Launch) (Z : State) (a0 : Array Value) (hw : ∀ d ∈ tables_1, d.before a0 Z = true) (ws : List Jvm.Cond) (n0 : Nat) (h0 : Heap) (a : Addr) (b : Addr) (f : Nat → Int32) (cz : Int32) (sz0 : n0 ≤ h0.size) (g0 : Exa Z h0 a "java/lang/String") (g1 : Fld Z h0 a "java/lang/String" "value" "[B" .null) (g2 : Fld Z h0 a "java/lang/String" "coder" "B" (.int (0 : Int32))) (g3 : n0 ≤ a) (g4 : Ary Z h0 b .char 1 (fun i => .int (f i))) (g5 : Sta Z h0 "java/lang/String" "COMPACT_STRINGS" "Z" (.int cz)) (hf : ¬ (255 : Int32) < f 0) (hcz : ¬ cz = 0) :
    Con l (⟨"java/lang/String", "<init>", "([CIILjava/lang/Void;)V"⟩ : MethodName) jdk_42_method_149_code 6 none ({ frames := 2, cells := 1, slots := 1, locals := 35 } : Room) ws Z n0 #[(.ref a), (.ref b), (.int (0 : Int32)), (.int (1 : Int32)), .null] h0 (Q10n Z n0 h0 a b f cz) := by
  refine Con.body pn_10 ?_
  intro p e s m below meth c s₁ hx hby hml hown hnm hret hlk hZ X0
  have hown : s.vm.findClass "java/lang/String" = some m.cls := hown
  have hnm : meth.name = "<init>" := hnm
  have K0 : Keep h0 h0 [a] := Keep.refl _ _
  rw [show entryFrame m #[(.ref a), (.ref b), (.int (0 : Int32)), (.int (1 : Int32)), .null] 6 = mkF m 0 #[.val (.ref a), .val (.ref b), .val (.int (0 : Int32)), .val (.int (1 : Int32)), .val .null, .unset] [] from ef_rm10n m a b (0 : Int32) (1 : Int32)]
  show Go p e below (PostW s n0 (1 : Nat) (1 : Nat) (Q10n Z n0 h0 a b f cz)) s₁ (mkF m 0 #[.val (.ref a), .val (.ref b), .val (.int (0 : Int32)), .val (.int (1 : Int32)), .val .null, .unset] [])
  refine Go.st (T' := s₁) (g' := (mkF m 1 #[.val (.ref a), .val (.ref b), .val (.int (0 : Int32)), .val (.int (1 : Int32)), .val .null, .unset] [(.ref a)])) (fun t_ k_ => XS.aloadN X0.here hx rfl (hb hby d10_0) rfl rfl k_) ?_
  refine goInit X0 hx hZ hown (hw _ (List.mem_of_getElem? (i := 64) rfl)) (hw _ (List.mem_of_getElem? (i := 21) rfl)) (hw _ (List.mem_of_getElem? (i := 22) rfl)) (by rw [hml]; rfl) (hb hby d10_1) (by decide) (W := 0) (Nat.le_of_eq rfl) (by decide) fun T1 X1 => ?_
  show Go p e below _ T1 (mkF m 4 #[.val (.ref a), .val (.ref b), .val (.int (0 : Int32)), .val (.int (1 : Int32)), .val .null, .unset] [])
  refine Go.st (T' := T1) (g' := (mkF m 5 #[.val (.ref a), .val (.ref b), .val (.int (0 : Int32)), .val (.int (1 : Int32)), .val .null, .unset] [(.int (1 : Int32))])) (fun t_ k_ => XS.iloadN X1.here hx rfl (hb hby d10_4) rfl k_) ?_
  refine Go.st (T' := T1) (g' := (mkF m 27 #[.val (.ref a), .val (.ref b), .val (.int (0 : Int32)), .val (.int (1 : Int32)), .val .null, .unset] [])) (fun t_ k_ => XS.ifYes X1.here hx rfl (pc0 := 5) (pc' := 27) rfl (hb hby d10_5) rfl (by decide) (by decide) (by decide) k_) ?_
  refine goGetS X1 hx hZ hown (host := "") (Or.inl (hw _ (List.mem_of_getElem? (i := 65) rfl))) Via.refl g5 (hb hby d10_27) fun T2 X2 => ?_
  show Go p e below _ T2 (mkF m 30 #[.val (.ref a), .val (.ref b), .val (.int (0 : Int32)), .val (.int (1 : Int32)), .val .null, .unset] [(.int cz)])
  have hc30 : ¬ (cz = (0 : Int32)) := hcz
  refine Go.st (T' := T2) (g' := (mkF m 33 #[.val (.ref a), .val (.ref b), .val (.int (0 : Int32)), .val (.int (1 : Int32)), .val .null, .unset] [])) (fun t_ k_ => XS.ifNo X2.here hx rfl (hb hby d10_30) rfl ((if0 _ _).trans (feq hc30).1) k_) ?_
  refine Go.st (T' := T2) (g' := (mkF m 34 #[.val (.ref a), .val (.ref b), .val (.int (0 : Int32)), .val (.int (1 : Int32)), .val .null, .unset] [(.ref b)])) (fun t_ k_ => XS.aloadN X2.here hx rfl (hb hby d10_33) rfl rfl k_) ?_
  refine Go.st (T' := T2) (g' := (mkF m 35 #[.val (.ref a), .val (.ref b), .val (.int (0 : Int32)), .val (.int (1 : Int32)), .val .null, .unset] [(.int (0 : Int32)), (.ref b)])) (fun t_ k_ => XS.iloadN X2.here hx rfl (hb hby d10_34) rfl k_) ?_
  refine Go.st (T' := T2) (g' := (mkF m 36 #[.val (.ref a), .val (.ref b), .val (.int (0 : Int32)), .val (.int (1 : Int32)), .val .null, .unset] [(.int (1 : Int32)), (.int (0 : Int32)), (.ref b)])) (fun t_ k_ => XS.iloadN X2.here hx rfl (hb hby d10_35) rfl k_) ?_
  refine goStatic X2 hx hZ (y := (⟨"java/lang/StringUTF16", "compress", "([CII)[B"⟩ : MethodName)) hown (hw _ (List.mem_of_getElem? (i := 66) rfl)) (hw _ (List.mem_of_getElem? (i := 67) rfl)) (hw _ (List.mem_of_getElem? (i := 68) rfl)) (hw _ (List.mem_of_getElem? (i := 69) rfl)) (by decide) (rm11 l Z a0 hw [] n0 h0 b f sz0 g4 (by first | assumption | omega | simp_all)) 0 (by decide) (by decide) (by rw [hml]; rfl) [(.ref b), (.int (0 : Int32)), (.int (1 : Int32))] [] (lenOf pd_a25197c6 rfl) rfl rfl rfl (hb hby d10_36) (by decide) (by decide) fun v3 T3 h3 X3 hq3 => ?_
  obtain ⟨t_3, gg_3, rfl, K3c, p3_0, p3_1, p3_2⟩ := hq3
  have ne3_a_t_3 : a ≠ t_3 := Nat.ne_of_lt (Nat.lt_of_lt_of_le g0.lt p3_0)
  have ne3_b_t_3 : b ≠ t_3 := Nat.ne_of_lt (Nat.lt_of_lt_of_le g4.lt p3_0)
  have ge3_t_3 : n0 ≤ t_3 := Nat.le_trans sz0 p3_0
  have fr3_t_3 : h0.size ≤ t_3 := Nat.le_trans K0.1 p3_0
  have f3_0 : Exa Z h3 a "java/lang/String" := g0.keep K3c
  have f3_1 : Fld Z h3 a "java/lang/String" "value" "[B" .null := g1.keep K3c nin0
  have f3_2 : Fld Z h3 a "java/lang/String" "coder" "B" (.int (0 : Int32)) := g2.keep K3c nin0
  have f3_4 : Ary Z h3 b .char 1 (fun i => .int (f i)) := g4.keep K3c nin0
  have f3_5 : Sta Z h3 "java/lang/String" "COMPACT_STRINGS" "Z" (.int cz) := sta_keep g5 K3c all0
  have sz3 : n0 ≤ h3.size := Nat.le_trans sz0 K3c.1
  have K3 : Keep h0 h3 [a] := K0.trans K3c all0
  show Go p e below _ T3 (mkF m 39 #[.val (.ref a), .val (.ref b), .val (.int (0 : Int32)), .val (.int (1 : Int32)), .val .null, .unset] [(.ref t_3)])
  refine Go.st (T' := T3) (g' := (mkF m 41 #[.val (.ref a), .val (.ref b), .val (.int (0 : Int32)), .val (.int (1 : Int32)), .val .null, .val (.ref t_3)] [])) (fun t_ k_ => XS.astore X3.here hx rfl (hb hby d10_39) rfl rfl (l' := #[.val (.ref a), .val (.ref b), .val (.int (0 : Int32)), .val (.int (1 : Int32)), .val .null, .val (.ref t_3)]) rfl k_) ?_
  refine Go.st (T' := T3) (g' := (mkF m 42 #[.val (.ref a), .val (.ref b), .val (.int (0 : Int32)), .val (.int (1 : Int32)), .val .null, .val (.ref t_3)] [(.ref a)])) (fun t_ k_ => XS.aloadN X3.here hx rfl (hb hby d10_41) rfl rfl k_) ?_
  refine Go.st (T' := T3) (g' := (mkF m 44 #[.val (.ref a), .val (.ref b), .val (.int (0 : Int32)), .val (.int (1 : Int32)), .val .null, .val (.ref t_3)] [(.ref t_3), (.ref a)])) (fun t_ k_ => XS.aload X3.here hx rfl (hb hby d10_42) rfl rfl k_) ?_
  refine Go.st (T' := T3) (g' := (mkF m 45 #[.val (.ref a), .val (.ref b), .val (.int (0 : Int32)), .val (.int (1 : Int32)), .val .null, .val (.ref t_3)] [(.int (1 : Int32)), (.ref t_3), (.ref a)])) (fun t_ k_ => XS.iloadN X3.here hx rfl (hb hby d10_44) rfl k_) ?_
  refine goStatic X3 hx hZ (y := (⟨"java/lang/StringUTF16", "coderFromArrayLen", "([BI)B"⟩ : MethodName)) hown (hw _ (List.mem_of_getElem? (i := 73) rfl)) (hw _ (List.mem_of_getElem? (i := 74) rfl)) (hw _ (List.mem_of_getElem? (i := 68) rfl)) (hw _ (List.mem_of_getElem? (i := 75) rfl)) (by decide) (rm13 l Z a0 hw [] n0 h3 t_3 gg_3 sz3 p3_2) 1 (by decide) (by decide) (by rw [hml]; rfl) [(.ref t_3), (.int (1 : Int32))] [(.ref a)] (lenOf pd_873c418c rfl) rfl rfl rfl (hb hby d10_45) (by decide) (by decide) fun v4 T4 h4 X4 hq4 => ?_
  obtain ⟨rfl, eh4⟩ := hq4
  rw [eh4] at X4
  show Go p e below _ T4 (mkF m 48 #[.val (.ref a), .val (.ref b), .val (.int (0 : Int32)), .val (.int (1 : Int32)), .val .null, .val (.ref t_3)] [(.int (0 : Int32)), (.ref a)])
  refine goPutN X4 hx hZ hown (hw _ (List.mem_of_getElem? (i := 76) rfl)) Via.refl f3_2 f3_0 (Or.inr ⟨(hw _ (List.mem_of_getElem? (i := 28) rfl)), rfl, hnm⟩) (hw _ (List.mem_of_getElem? (i := 25) rfl)) (ty := .byte) (v' := (.int (0 : Int32))) (by decide) rfl (by decide) g3 (hb hby d10_48) fun T5 h5 X5 W5 => ?_
  have Fw5 := f3_2.same W5
  have f5_0 : Exa Z h5 a "java/lang/String" := f3_0.wr W5
  have f5_1 : Fld Z h5 a "java/lang/String" "value" "[B" .null := f3_1.other W5 (Or.inr (slot_ne (Or.inr (hw _ (List.mem_of_getElem? (i := 27) rfl))) (Or.inr (hw _ (List.mem_of_getElem? (i := 28) rfl))) (by decide) (t := (.array .byte)) (t' := .byte) (by decide) (by decide)))
  have f5_3 : Ary Z h5 b .char 1 (fun i => .int (f i)) := f3_4.other W5 (ne_ary f3_0 (hw _ (List.mem_of_getElem? (i := 25) rfl)) f3_4).symm
  have f5_4 : Sta Z h5 "java/lang/String" "COMPACT_STRINGS" "Z" (.int cz) := f3_5.wr W5
  have f5_9 : Exa Z h5 t_3 "[B" := p3_1.wr W5
  have f5_10 : Ary Z h5 t_3 .byte 1 (fun i => .int (gg_3 i)) := p3_2.other W5 ne3_a_t_3.symm
  have sz5 : n0 ≤ h5.size := Nat.le_trans sz3 (Keep.of_wr W5).1
  have K5 : Keep h0 h5 [a] := K3.wr W5 (Or.inl (List.mem_of_getElem? (i := 0) rfl))
  show Go p e below _ T5 (mkF m 51 #[.val (.ref a), .val (.ref b), .val (.int (0 : Int32)), .val (.int (1 : Int32)), .val .null, .val (.ref t_3)] [])
  refine Go.st (T' := T5) (g' := (mkF m 52 #[.val (.ref a), .val (.ref b), .val (.int (0 : Int32)), .val (.int (1 : Int32)), .val .null, .val (.ref t_3)] [(.ref a)])) (fun t_ k_ => XS.aloadN X5.here hx rfl (hb hby d10_51) rfl rfl k_) ?_
  refine Go.st (T' := T5) (g' := (mkF m 54 #[.val (.ref a), .val (.ref b), .val (.int (0 : Int32)), .val (.int (1 : Int32)), .val .null, .val (.ref t_3)] [(.ref t_3), (.ref a)])) (fun t_ k_ => XS.aload X5.here hx rfl (hb hby d10_52) rfl rfl k_) ?_
  refine goPut X5 hx hZ hown (host := "") (Or.inl (hw _ (List.mem_of_getElem? (i := 77) rfl))) Via.refl f5_1 f5_0 (Or.inr ⟨(hw _ (List.mem_of_getElem? (i := 27) rfl)), rfl, hnm⟩) (hw _ (List.mem_of_getElem? (i := 25) rfl)) (ty := (.array .byte)) (by decide) rfl rfl g3 (hb hby d10_54) fun T6 h6 X6 W6 => ?_
  have Fw6 := f5_1.same W6
  have f6_0 : Exa Z h6 a "java/lang/String" := f5_0.wr W6
  have f6_2 : Ary Z h6 b .char 1 (fun i => .int (f i)) := f5_3.other W6 (ne_ary f5_0 (hw _ (List.mem_of_getElem? (i := 25) rfl)) f5_3).symm
  have f6_3 : Sta Z h6 "java/lang/String" "COMPACT_STRINGS" "Z" (.int cz) := f5_4.wr W6
  have f6_8 : Exa Z h6 t_3 "[B" := f5_9.wr W6
  have f6_9 : Ary Z h6 t_3 .byte 1 (fun i => .int (gg_3 i)) := f5_10.other W6 ne3_a_t_3.symm
  have f6_10 : Fld Z h6 a "java/lang/String" "coder" "B" (.int (0 : Int32)) := Fw5.other W6 (Or.inr (slot_ne (Or.inr (hw _ (List.mem_of_getElem? (i := 28) rfl))) (Or.inr (hw _ (List.mem_of_getElem? (i := 27) rfl))) (by decide) (t := .byte) (t' := (.array .byte)) (by decide) (by decide)))
  have sz6 : n0 ≤ h6.size := Nat.le_trans sz5 (Keep.of_wr W6).1
  have K6 : Keep h0 h6 [a] := K5.wr W6 (Or.inl (List.mem_of_getElem? (i := 0) rfl))
  show Go p e below _ T6 (mkF m 57 #[.val (.ref a), .val (.ref b), .val (.int (0 : Int32)), .val (.int (1 : Int32)), .val .null, .val (.ref t_3)] [])
  refine goRetV X6 hx hlk hret (hb hby d10_57) (by decide) (by decide) ?_
  refine ⟨rfl, K6⟩
theorem d9_0 : decode jdk_42_method_3_code 0 = .ok (.aload_n 0, 1) := by decide +kernel
theorem d9_1 : decode jdk_42_method_3_code 1 = .ok (.aload_n 1, 1) := by decide +kernel
theorem d9_2 : decode jdk_42_method_3_code 2 = .ok (.iconst 0, 1) := by decide +kernel
theorem d9_3 : decode jdk_42_method_3_code 3 = .ok (.aload_n 1, 1) := by decide +kernel
theorem d9_4 : decode jdk_42_method_3_code 4 = .ok (.arraylength, 1) := by decide +kernel
theorem d9_5 : decode jdk_42_method_3_code 5 = .ok (.aconst_null, 1) := by decide +kernel
theorem d9_6 : decode jdk_42_method_3_code 6 = .ok (.invokespecial 27, 3) := by decide +kernel
theorem d9_9 : decode jdk_42_method_3_code 9 = .ok (.return_, 1) := by decide +kernel
theorem pn_9 : plainFor (⟨"java/lang/String", "<init>", "([C)V"⟩ : MethodName) = true := plainFor_of_name (by first | (simp [plainName, overriddenIn]; done) | decide +kernel)
theorem pd_8fa9acc7 : parseMethodDescriptor "([CIILjava/lang/Void;)V" = some ⟨[(.array .char), .int, .int, (.object "java/lang/Void")], none⟩ := by decide +kernel
theorem ef_rm9n (m : MethodId) (x0 : Addr) (x1 : Addr) : entryFrame m #[(.ref x0), (.ref x1)] 2 = mkF m 0 #[.val (.ref x0), .val (.ref x1)] [] := by first | (simp [entryFrame, mkF, argsToLocals, Value.category]; done) | rfl
def Q9n (Z : State) (n0 : Nat) (h0 : Heap) (a : Addr) (b : Addr) (f : Nat → Int32) (cz : Int32) (v : Option Value) (h : Heap) : Prop := v = none ∧ Keep h0 h [a]
set_option maxRecDepth 65536 in
set_option maxHeartbeats 40000000 in
theorem rm9n (l : Launch) (Z : State) (a0 : Array Value) (hw : ∀ d ∈ tables_1, d.before a0 Z = true) (ws : List Jvm.Cond) (n0 : Nat) (h0 : Heap) (a : Addr) (b : Addr) (f : Nat → Int32) (cz : Int32) (sz0 : n0 ≤ h0.size) (g0 : Exa Z h0 a "java/lang/String") (g1 : Fld Z h0 a "java/lang/String" "value" "[B" .null) (g2 : Fld Z h0 a "java/lang/String" "coder" "B" (.int (0 : Int32))) (g3 : n0 ≤ a) (g4 : Ary Z h0 b .char 1 (fun i => .int (f i))) (g5 : Sta Z h0 "java/lang/String" "COMPACT_STRINGS" "Z" (.int cz)) (hf : ¬ (255 : Int32) < f 0) (hcz : ¬ cz = 0) :
    Con l (⟨"java/lang/String", "<init>", "([C)V"⟩ : MethodName) jdk_42_method_3_code 2 none ({ frames := 3, cells := 1, slots := 1, locals := 52 } : Room) ws Z n0 #[(.ref a), (.ref b)] h0 (Q9n Z n0 h0 a b f cz) := by
  refine Con.body pn_9 ?_
  intro p e s m below meth c s₁ hx hby hml hown hnm hret hlk hZ X0
  have hown : s.vm.findClass "java/lang/String" = some m.cls := hown
  have hnm : meth.name = "<init>" := hnm
  have K0 : Keep h0 h0 [a] := Keep.refl _ _
  rw [show entryFrame m #[(.ref a), (.ref b)] 2 = mkF m 0 #[.val (.ref a), .val (.ref b)] [] from ef_rm9n m a b]
  show Go p e below (PostW s n0 (1 : Nat) (1 : Nat) (Q9n Z n0 h0 a b f cz)) s₁ (mkF m 0 #[.val (.ref a), .val (.ref b)] [])
  refine Go.st (T' := s₁) (g' := (mkF m 1 #[.val (.ref a), .val (.ref b)] [(.ref a)])) (fun t_ k_ => XS.aloadN X0.here hx rfl (hb hby d9_0) rfl rfl k_) ?_
  refine Go.st (T' := s₁) (g' := (mkF m 2 #[.val (.ref a), .val (.ref b)] [(.ref b), (.ref a)])) (fun t_ k_ => XS.aloadN X0.here hx rfl (hb hby d9_1) rfl rfl k_) ?_
  refine Go.st (T' := s₁) (g' := (mkF m 3 #[.val (.ref a), .val (.ref b)] [(.int (0 : Int32)), (.ref b), (.ref a)])) (fun t_ k_ => XS.iconst X0.here hx rfl (hb hby d9_2) k_) ?_
  refine Go.st (T' := s₁) (g' := (mkF m 4 #[.val (.ref a), .val (.ref b)] [(.ref b), (.int (0 : Int32)), (.ref b), (.ref a)])) (fun t_ k_ => XS.aloadN X0.here hx rfl (hb hby d9_3) rfl rfl k_) ?_
  refine goLen X0 hx hZ g4 (hb hby d9_4) ?_
  show Go p e below _ s₁ (mkF m 5 #[.val (.ref a), .val (.ref b)] [(.int (1 : Int32)), (.int (0 : Int32)), (.ref b), (.ref a)])
  refine Go.st (T' := s₁) (g' := (mkF m 6 #[.val (.ref a), .val (.ref b)] [.null, (.int (1 : Int32)), (.int (0 : Int32)), (.ref b), (.ref a)])) (fun t_ k_ => XS.aconstNull X0.here hx rfl (hb hby d9_5) k_) ?_
  refine goCtor X0 hx hZ (y := (⟨"java/lang/String", "<init>", "([CIILjava/lang/Void;)V"⟩ : MethodName)) rfl hown (hw _ (List.mem_of_getElem? (i := 60) rfl)) (hw _ (List.mem_of_getElem? (i := 61) rfl)) (hw _ (List.mem_of_getElem? (i := 24) rfl)) (hw _ (List.mem_of_getElem? (i := 63) rfl)) (by decide) (rm10n l Z a0 hw [] n0 h0 a b f cz sz0 g0 g1 g2 g3 g4 g5 (by first | assumption | omega | simp_all) (by first | assumption | omega | simp_all)) 0 (by decide) (by decide) (by rw [hml]; rfl) a [(.ref b), (.int (0 : Int32)), (.int (1 : Int32)), .null] [] (lenOf pd_8fa9acc7 rfl) rfl rfl rfl (hb hby d9_6) (by decide) (by decide) fun v1 T1 h1 X1 hq1 => ?_
  obtain ⟨rfl, K1c⟩ := hq1
  have f1_0 : Exa Z h1 a "java/lang/String" := g0.keep K1c
  have f1_2 : Ary Z h1 b .char 1 (fun i => .int (f i)) := g4.keep K1c (ninS (ne_ary g0 (hw _ (List.mem_of_getElem? (i := 25) rfl)) g4).symm nin0)
  have f1_3 : Sta Z h1 "java/lang/String" "COMPACT_STRINGS" "Z" (.int cz) := sta_keep g5 K1c (allS ⟨_, g0⟩ all0)
  have sz1 : n0 ≤ h1.size := Nat.le_trans sz0 K1c.1
  have K1 : Keep h0 h1 [a] := K0.trans K1c (allS (Or.inl (List.mem_of_getElem? (i := 0) rfl)) all0)
  show Go p e below _ T1 (mkF m 9 #[.val (.ref a), .val (.ref b)] [])
  refine goRetV X1 hx hlk hret (hb hby d9_9) (by decide) (by decide) ?_
  refine ⟨rfl, K1⟩
theorem d10_8 : decode jdk_42_method_149_code 8 = .ok (.aload_n 0, 1) := by decide +kernel
theorem d10_9 : decode jdk_42_method_149_code 9 = .ok (.ldc 7, 2) := by decide +kernel
theorem d10_11 : decode jdk_42_method_149_code 11 = .ok (.getfield 9, 3) := by decide +kernel
theorem d10_14 : decode jdk_42_method_149_code 14 = .ok (.putfield 9, 3) := by decide +kernel
theorem d10_17 : decode jdk_42_method_149_code 17 = .ok (.aload_n 0, 1) := by decide +kernel
theorem d10_18 : decode jdk_42_method_149_code 18 = .ok (.ldc 7, 2) := by decide +kernel
theorem d10_20 : decode jdk_42_method_149_code 20 = .ok (.getfield 15, 3) := by decide +kernel
theorem d10_23 : decode jdk_42_method_149_code 23 = .ok (.putfield 15, 3) := by decide +kernel
theorem d10_26 : decode jdk_42_method_149_code 26 = .ok (.return_, 1) := by decide +kernel
theorem ef_rm10e (m : MethodId) (x0 : Addr) (x1 : Addr) (x2 : Int32) (x3 : Int32) : entryFrame m #[(.ref x0), (.ref x1), (.int x2), (.int x3), .null] 6 = mkF m 0 #[.val (.ref x0), .val (.ref x1), .val (.int x2), .val (.int x3), .val .null, .unset] [] := by first | (simp [entryFrame, mkF, argsToLocals, Value.category]; done) | rfl
def Q10e (Z : State) (n0 : Nat) (h0 : Heap) (a : Addr) (b : Addr) (v : Option Value) (h : Heap) (vm : Vm) : Prop := v = none ∧ Keep h0 h [a] ∧ (LitOk Z h vm)
set_option maxRecDepth 65536 in
set_option maxHeartbeats 40000000 in
theorem rm10e (l : Launch) (Z : State) (a0 : Array Value) (hw : ∀ d ∈ tables_1, d.before a0 Z = true) (ws : List Jvm.Cond) (n0 : Nat) (h0 : Heap) (a : Addr) (b : Addr) (sz0 : n0 ≤ h0.size) (g0 : Exa Z h0 a "java/lang/String") (g1 : Fld Z h0 a "java/lang/String" "value" "[B" .null) (g2 : Fld Z h0 a "java/lang/String" "coder" "B" (.int (0 : Int32))) (g3 : n0 ≤ a) (g4 : Old Z n0 h0) (hheld : Jvm.Lit.constHeld Z "java/lang/String" 7) (hcw : Jvm.Lit.compactW.before a0 Z = true) :
    S_Con l (⟨"java/lang/String", "<init>", "([CIILjava/lang/Void;)V"⟩ : MethodName) jdk_42_method_149_code 6 none ({ frames := 1, cells := 2, slots := 4, locals := 12 } : Room) ws Z (fun vm => LitOk Z h0 vm) n0 #[(.ref a), (.ref b), (.int (0 : Int32)), (.int (0 : Int32)), .null] h0 (Q10e Z n0 h0 a b) := by
  refine S_Con.body pn_10 ?_
  intro p e s m below meth c s₁ hx hby hml hown hnm hret hlk hZ hh hj X00
  have X0 := X00 h0.size
  have hj : LitOk Z h0 s.vm := hj
  have hown : s.vm.findClass "java/lang/String" = some m.cls := hown
  have hnm : meth.name = "<init>" := hnm
  have K0 : Keep h0 h0 [a] := Keep.refl _ _
  rw [show entryFrame m #[(.ref a), (.ref b), (.int (0 : Int32)), (.int (0 : Int32)), .null] 6 = mkF m 0 #[.val (.ref a), .val (.ref b), .val (.int (0 : Int32)), .val (.int (0 : Int32)), .val .null, .unset] [] from ef_rm10e m a b (0 : Int32) (0 : Int32)]
  show Go p e below (S_PostW s n0 (2 : Nat) (4 : Nat) (Q10e Z n0 h0 a b)) s₁ (mkF m 0 #[.val (.ref a), .val (.ref b), .val (.int (0 : Int32)), .val (.int (0 : Int32)), .val .null, .unset] [])
  refine Go.st (T' := s₁) (g' := (mkF m 1 #[.val (.ref a), .val (.ref b), .val (.int (0 : Int32)), .val (.int (0 : Int32)), .val .null, .unset] [(.ref a)])) (fun t_ k_ => XS.aloadN X0.here hx rfl (hb hby d10_0) rfl rfl k_) ?_
  refine S_goInit X0 hx hZ hown (hw _ (List.mem_of_getElem? (i := 64) rfl)) (hw _ (List.mem_of_getElem? (i := 21) rfl)) (hw _ (List.mem_of_getElem? (i := 22) rfl)) (by rw [hml]; rfl) (hb hby d10_1) (by decide) (W := 0) (Nat.le_of_eq rfl) (by decide) fun T1 X1 => ?_
  show Go p e below _ T1 (mkF m 4 #[.val (.ref a), .val (.ref b), .val (.int (0 : Int32)), .val (.int (0 : Int32)), .val .null, .unset] [])
  refine Go.st (T' := T1) (g' := (mkF m 5 #[.val (.ref a), .val (.ref b), .val (.int (0 : Int32)), .val (.int (0 : Int32)), .val .null, .unset] [(.int (0 : Int32))])) (fun t_ k_ => XS.iloadN X1.here hx rfl (hb hby d10_4) rfl k_) ?_
  refine Go.st (T' := T1) (g' := (mkF m 8 #[.val (.ref a), .val (.ref b), .val (.int (0 : Int32)), .val (.int (0 : Int32)), .val .null, .unset] [])) (fun t_ k_ => XS.ifNo X1.here hx rfl (hb hby d10_5) rfl (by decide) k_) ?_
  refine Go.st (T' := T1) (g' := (mkF m 9 #[.val (.ref a), .val (.ref b), .val (.int (0 : Int32)), .val (.int (0 : Int32)), .val .null, .unset] [(.ref a)])) (fun t_ k_ => XS.aloadN X1.here hx rfl (hb hby d10_8) rfl rfl k_) ?_
  rcases hj with I | ⟨ae, be, L, EE, F1, F2⟩
  · skip
    refine S_goLdcE X1 hx hZ hown (hw _ (List.mem_of_getElem? (i := 91) rfl)) (own_sw hw) (Nat.le_of_eq (congrArg Array.size hh)) (fun b cl q => by rw [hh]; exact g4.2.2 b cl q) I (by simp) hheld hcw (vs := []) (z := 0) ⟨by simp, rfl⟩ (by decide) rfl (hb hby d10_9) 0 (by decide) (by decide) (by decide) (by decide) fun ae be T2 h2 vm2 X2a E2 EE F1 F2 L => ?_
    have f2_0 : Exa Z h2 a "java/lang/String" := g0.ext E2
    have f2_1 : Fld Z h2 a "java/lang/String" "value" "[B" .null := g1.ext E2
    have f2_2 : Fld Z h2 a "java/lang/String" "coder" "B" (.int (0 : Int32)) := g2.ext E2
    have f2_4 : Old Z n0 h2 := g4.ext E2
    have sz2 : n0 ≤ h2.size := Nat.le_trans sz0 E2.1
    have K2 : Keep h0 h2 [a] := K0.ext E2
    have X2 := X2a.low sz0
    show Go p e below _ T2 (mkF m 11 #[.val (.ref a), .val (.ref b), .val (.int (0 : Int32)), .val (.int (0 : Int32)), .val .null, .unset] [(.ref ae), (.ref a)])
    have nae : ae ≠ a := fld_ne F2 f2_1 (by intro q; cases q)
    refine S_goGet X2 hx hZ hown (host := "") (Or.inl (hw _ (List.mem_of_getElem? (i := 77) rfl))) Via.refl F2 (hb hby d10_11) fun T3 X3 => ?_
    show Go p e below _ T3 (mkF m 14 #[.val (.ref a), .val (.ref b), .val (.int (0 : Int32)), .val (.int (0 : Int32)), .val .null, .unset] [(.ref be), (.ref a)])
    refine S_goPut X3 hx hZ hown (host := "") (Or.inl (hw _ (List.mem_of_getElem? (i := 77) rfl))) Via.refl f2_1 f2_0 (Or.inr ⟨(hw _ (List.mem_of_getElem? (i := 27) rfl)), rfl, hnm⟩) (hw _ (List.mem_of_getElem? (i := 25) rfl)) (ty := (.array .byte)) (by decide) rfl rfl g3 (hb hby d10_14) fun T4 h4 X4 W4 => ?_
    have Fw4 := f2_1.same W4
    have f4_0 : Exa Z h4 a "java/lang/String" := f2_0.wr W4
    have f4_1 : Fld Z h4 a "java/lang/String" "coder" "B" (.int (0 : Int32)) := f2_2.other W4 (Or.inr (slot_ne (Or.inr (hw _ (List.mem_of_getElem? (i := 28) rfl))) (Or.inr (hw _ (List.mem_of_getElem? (i := 27) rfl))) (by decide) (t := .byte) (t' := (.array .byte)) (by decide) (by decide)))
    have f4_3 : Old Z n0 h4 := f2_4.wr W4 g3
    have f4_4 : Exa Z h4 ae "java/lang/String" := EE.wr W4
    have f4_5 : Fld Z h4 ae "java/lang/String" "value" "[B" (.ref be) := F2.other W4 (Or.inl nae)
    have f4_6 : Fld Z h4 ae "java/lang/String" "coder" "B" (.int (0 : Int32)) := F1.other W4 (Or.inl nae)
    have sz4 : n0 ≤ h4.size := Nat.le_trans sz2 (Keep.of_wr W4).1
    have K4 : Keep h0 h4 [a] := K2.wr W4 (Or.inl (List.mem_of_getElem? (i := 0) rfl))
    show Go p e below _ T4 (mkF m 17 #[.val (.ref a), .val (.ref b), .val (.int (0 : Int32)), .val (.int (0 : Int32)), .val .null, .unset] [])
    refine Go.st (T' := T4) (g' := (mkF m 18 #[.val (.ref a), .val (.ref b), .val (.int (0 : Int32)), .val (.int (0 : Int32)), .val .null, .unset] [(.ref a)])) (fun t_ k_ => XS.aloadN X4.here hx rfl (hb hby d10_17) rfl rfl k_) ?_
    refine S_goLdcL X4 hx hZ hown (hw _ (List.mem_of_getElem? (i := 91) rfl)) L (hb hby d10_18) ?_
    show Go p e below _ T4 (mkF m 20 #[.val (.ref a), .val (.ref b), .val (.int (0 : Int32)), .val (.int (0 : Int32)), .val .null, .unset] [(.ref ae), (.ref a)])
    refine S_goGet X4 hx hZ hown (host := "") (Or.inl (hw _ (List.mem_of_getElem? (i := 76) rfl))) Via.refl f4_6 (hb hby d10_20) fun T5 X5 => ?_
    show Go p e below _ T5 (mkF m 23 #[.val (.ref a), .val (.ref b), .val (.int (0 : Int32)), .val (.int (0 : Int32)), .val .null, .unset] [(.int (0 : Int32)), (.ref a)])
    refine S_goPutN X5 hx hZ hown (hw _ (List.mem_of_getElem? (i := 76) rfl)) Via.refl f4_1 f4_0 (Or.inr ⟨(hw _ (List.mem_of_getElem? (i := 28) rfl)), rfl, hnm⟩) (hw _ (List.mem_of_getElem? (i := 25) rfl)) (ty := .byte) (v' := (.int (0 : Int32))) (by decide) rfl (by decide) g3 (hb hby d10_23) fun T6 h6 X6 W6 => ?_
    have Fw6 := f4_1.same W6
    have f6_0 : Exa Z h6 a "java/lang/String" := f4_0.wr W6
    have f6_2 : Old Z n0 h6 := f4_3.wr W6 g3
    have f6_3 : Exa Z h6 ae "java/lang/String" := f4_4.wr W6
    have f6_4 : Fld Z h6 ae "java/lang/String" "value" "[B" (.ref be) := f4_5.other W6 (Or.inl nae)
    have f6_5 : Fld Z h6 ae "java/lang/String" "coder" "B" (.int (0 : Int32)) := f4_6.other W6 (Or.inl nae)
    have f6_7 : Fld Z h6 a "java/lang/String" "value" "[B" (.ref be) := Fw4.other W6 (Or.inr (slot_ne (Or.inr (hw _ (List.mem_of_getElem? (i := 27) rfl))) (Or.inr (hw _ (List.mem_of_getElem? (i := 28) rfl))) (by decide) (t := (.array .byte)) (t' := .byte) (by decide) (by decide)))
    have sz6 : n0 ≤ h6.size := Nat.le_trans sz4 (Keep.of_wr W6).1
    have K6 : Keep h0 h6 [a] := K4.wr W6 (Or.inl (List.mem_of_getElem? (i := 0) rfl))
    show Go p e below _ T6 (mkF m 26 #[.val (.ref a), .val (.ref b), .val (.int (0 : Int32)), .val (.int (0 : Int32)), .val .null, .unset] [])
    refine S_goRetV X6 hx hlk hret (hb hby d10_26) (by decide) (by decide) ?_
    intro vm hW
    refine ⟨rfl, K6, ?_⟩
    · exact Or.inr ⟨ae, be, S_lit.stays L hW, f6_3, f6_5, f6_4⟩
  · skip
    refine S_goLdcL X1 hx hZ hown (hw _ (List.mem_of_getElem? (i := 91) rfl)) L (hb hby d10_9) ?_
    have X7 := X1.low sz0
    show Go p e below _ T1 (mkF m 11 #[.val (.ref a), .val (.ref b), .val (.int (0 : Int32)), .val (.int (0 : Int32)), .val .null, .unset] [(.ref ae), (.ref a)])
    have nae : ae ≠ a := fld_ne F2 g1 (by intro q; cases q)
    refine S_goGet X7 hx hZ hown (host := "") (Or.inl (hw _ (List.mem_of_getElem? (i := 77) rfl))) Via.refl F2 (hb hby d10_11) fun T8 X8 => ?_
    show Go p e below _ T8 (mkF m 14 #[.val (.ref a), .val (.ref b), .val (.int (0 : Int32)), .val (.int (0 : Int32)), .val .null, .unset] [(.ref be), (.ref a)])
    refine S_goPut X8 hx hZ hown (host := "") (Or.inl (hw _ (List.mem_of_getElem? (i := 77) rfl))) Via.refl g1 g0 (Or.inr ⟨(hw _ (List.mem_of_getElem? (i := 27) rfl)), rfl, hnm⟩) (hw _ (List.mem_of_getElem? (i := 25) rfl)) (ty := (.array .byte)) (by decide) rfl rfl g3 (hb hby d10_14) fun T9 h9 X9 W9 => ?_
    have Fw9 := g1.same W9
    have f9_0 : Exa Z h9 a "java/lang/String" := g0.wr W9
    have f9_1 : Fld Z h9 a "java/lang/String" "coder" "B" (.int (0 : Int32)) := g2.other W9 (Or.inr (slot_ne (Or.inr (hw _ (List.mem_of_getElem? (i := 28) rfl))) (Or.inr (hw _ (List.mem_of_getElem? (i := 27) rfl))) (by decide) (t := .byte) (t' := (.array .byte)) (by decide) (by decide)))
    have f9_3 : Old Z n0 h9 := g4.wr W9 g3
    have f9_4 : Exa Z h9 ae "java/lang/String" := EE.wr W9
    have f9_5 : Fld Z h9 ae "java/lang/String" "value" "[B" (.ref be) := F2.other W9 (Or.inl nae)
    have f9_6 : Fld Z h9 ae "java/lang/String" "coder" "B" (.int (0 : Int32)) := F1.other W9 (Or.inl nae)
    have sz9 : n0 ≤ h9.size := Nat.le_trans sz0 (Keep.of_wr W9).1
    have K9 : Keep h0 h9 [a] := K0.wr W9 (Or.inl (List.mem_of_getElem? (i := 0) rfl))
    show Go p e below _ T9 (mkF m 17 #[.val (.ref a), .val (.ref b), .val (.int (0 : Int32)), .val (.int (0 : Int32)), .val .null, .unset] [])
    refine Go.st (T' := T9) (g' := (mkF m 18 #[.val (.ref a), .val (.ref b), .val (.int (0 : Int32)), .val (.int (0 : Int32)), .val .null, .unset] [(.ref a)])) (fun t_ k_ => XS.aloadN X9.here hx rfl (hb hby d10_17) rfl rfl k_) ?_
    refine S_goLdcL X9 hx hZ hown (hw _ (List.mem_of_getElem? (i := 91) rfl)) L (hb hby d10_18) ?_
    show Go p e below _ T9 (mkF m 20 #[.val (.ref a), .val (.ref b), .val (.int (0 : Int32)), .val (.int (0 : Int32)), .val .null, .unset] [(.ref ae), (.ref a)])
    refine S_goGet X9 hx hZ hown (host := "") (Or.inl (hw _ (List.mem_of_getElem? (i := 76) rfl))) Via.refl f9_6 (hb hby d10_20) fun T10 X10 => ?_
    show Go p e below _ T10 (mkF m 23 #[.val (.ref a), .val (.ref b), .val (.int (0 : Int32)), .val (.int (0 : Int32)), .val .null, .unset] [(.int (0 : Int32)), (.ref a)])
    refine S_goPutN X10 hx hZ hown (hw _ (List.mem_of_getElem? (i := 76) rfl)) Via.refl f9_1 f9_0 (Or.inr ⟨(hw _ (List.mem_of_getElem? (i := 28) rfl)), rfl, hnm⟩) (hw _ (List.mem_of_getElem? (i := 25) rfl)) (ty := .byte) (v' := (.int (0 : Int32))) (by decide) rfl (by decide) g3 (hb hby d10_23) fun T11 h11 X11 W11 => ?_
    have Fw11 := f9_1.same W11
    have f11_0 : Exa Z h11 a "java/lang/String" := f9_0.wr W11
    have f11_2 : Old Z n0 h11 := f9_3.wr W11 g3
    have f11_3 : Exa Z h11 ae "java/lang/String" := f9_4.wr W11
    have f11_4 : Fld Z h11 ae "java/lang/String" "value" "[B" (.ref be) := f9_5.other W11 (Or.inl nae)
    have f11_5 : Fld Z h11 ae "java/lang/String" "coder" "B" (.int (0 : Int32)) := f9_6.other W11 (Or.inl nae)
    have f11_7 : Fld Z h11 a "java/lang/String" "value" "[B" (.ref be) := Fw9.other W11 (Or.inr (slot_ne (Or.inr (hw _ (List.mem_of_getElem? (i := 27) rfl))) (Or.inr (hw _ (List.mem_of_getElem? (i := 28) rfl))) (by decide) (t := (.array .byte)) (t' := .byte) (by decide) (by decide)))
    have sz11 : n0 ≤ h11.size := Nat.le_trans sz9 (Keep.of_wr W11).1
    have K11 : Keep h0 h11 [a] := K9.wr W11 (Or.inl (List.mem_of_getElem? (i := 0) rfl))
    show Go p e below _ T11 (mkF m 26 #[.val (.ref a), .val (.ref b), .val (.int (0 : Int32)), .val (.int (0 : Int32)), .val .null, .unset] [])
    refine S_goRetV X11 hx hlk hret (hb hby d10_26) (by decide) (by decide) ?_
    intro vm hW
    refine ⟨rfl, K11, ?_⟩
    · exact Or.inr ⟨ae, be, S_lit.stays L hW, f11_3, f11_5, f11_4⟩
theorem ef_rm9e (m : MethodId) (x0 : Addr) (x1 : Addr) : entryFrame m #[(.ref x0), (.ref x1)] 2 = mkF m 0 #[.val (.ref x0), .val (.ref x1)] [] := by first | (simp [entryFrame, mkF, argsToLocals, Value.category]; done) | rfl
def Q9e (Z : State) (n0 : Nat) (h0 : Heap) (a : Addr) (b : Addr) (f : Nat → Value) (v : Option Value) (h : Heap) (vm : Vm) : Prop := v = none ∧ Keep h0 h [a] ∧ (LitOk Z h vm)
set_option maxRecDepth 65536 in
set_option maxHeartbeats 40000000 in
theorem rm9e (l : Launch) (Z : State) (a0 : Array Value) (hw : ∀ d ∈ tables_1, d.before a0 Z = true) (ws : List Jvm.Cond) (n0 : Nat) (h0 : Heap) (a : Addr) (b : Addr) (f : Nat → Value) (sz0 : n0 ≤ h0.size) (g0 : Exa Z h0 a "java/lang/String") (g1 : Fld Z h0 a "java/lang/String" "value" "[B" .null) (g2 : Fld Z h0 a "java/lang/String" "coder" "B" (.int (0 : Int32))) (g3 : n0 ≤ a) (g4 : Ary Z h0 b .char 0 f) (g5 : Old Z n0 h0) (hheld : Jvm.Lit.constHeld Z "java/lang/String" 7) (hcw : Jvm.Lit.compactW.before a0 Z = true) :
    S_Con l (⟨"java/lang/String", "<init>", "([C)V"⟩ : MethodName) jdk_42_method_3_code 2 none ({ frames := 2, cells := 2, slots := 4, locals := 29 } : Room) ws Z (fun vm => LitOk Z h0 vm) n0 #[(.ref a), (.ref b)] h0 (Q9e Z n0 h0 a b f) := by
  refine S_Con.body pn_9 ?_
  intro p e s m below meth c s₁ hx hby hml hown hnm hret hlk hZ hh hj X00
  have X0 := X00 n0
  have hj : LitOk Z h0 s.vm := hj
  have hown : s.vm.findClass "java/lang/String" = some m.cls := hown
  have hnm : meth.name = "<init>" := hnm
  have K0 : Keep h0 h0 [a] := Keep.refl _ _
  rw [show entryFrame m #[(.ref a), (.ref b)] 2 = mkF m 0 #[.val (.ref a), .val (.ref b)] [] from ef_rm9e m a b]
  show Go p e below (S_PostW s n0 (2 : Nat) (4 : Nat) (Q9e Z n0 h0 a b f)) s₁ (mkF m 0 #[.val (.ref a), .val (.ref b)] [])
  refine Go.st (T' := s₁) (g' := (mkF m 1 #[.val (.ref a), .val (.ref b)] [(.ref a)])) (fun t_ k_ => XS.aloadN X0.here hx rfl (hb hby d9_0) rfl rfl k_) ?_
  refine Go.st (T' := s₁) (g' := (mkF m 2 #[.val (.ref a), .val (.ref b)] [(.ref b), (.ref a)])) (fun t_ k_ => XS.aloadN X0.here hx rfl (hb hby d9_1) rfl rfl k_) ?_
  refine Go.st (T' := s₁) (g' := (mkF m 3 #[.val (.ref a), .val (.ref b)] [(.int (0 : Int32)), (.ref b), (.ref a)])) (fun t_ k_ => XS.iconst X0.here hx rfl (hb hby d9_2) k_) ?_
  refine Go.st (T' := s₁) (g' := (mkF m 4 #[.val (.ref a), .val (.ref b)] [(.ref b), (.int (0 : Int32)), (.ref b), (.ref a)])) (fun t_ k_ => XS.aloadN X0.here hx rfl (hb hby d9_3) rfl rfl k_) ?_
  refine S_goLen X0 hx hZ g4 (hb hby d9_4) ?_
  show Go p e below _ s₁ (mkF m 5 #[.val (.ref a), .val (.ref b)] [(.int (0 : Int32)), (.int (0 : Int32)), (.ref b), (.ref a)])
  refine Go.st (T' := s₁) (g' := (mkF m 6 #[.val (.ref a), .val (.ref b)] [.null, (.int (0 : Int32)), (.int (0 : Int32)), (.ref b), (.ref a)])) (fun t_ k_ => XS.aconstNull X0.here hx rfl (hb hby d9_5) k_) ?_
  refine S_goCtorS X0 hx hZ (y := (⟨"java/lang/String", "<init>", "([CIILjava/lang/Void;)V"⟩ : MethodName)) rfl hown (hw _ (List.mem_of_getElem? (i := 60) rfl)) (hw _ (List.mem_of_getElem? (i := 61) rfl)) (hw _ (List.mem_of_getElem? (i := 24) rfl)) (hw _ (List.mem_of_getElem? (i := 63) rfl)) (by decide) (rm10e l Z a0 hw [] n0 h0 a b sz0 g0 g1 g2 g3 g5 (by first | assumption | omega | simp_all) (by first | assumption | omega | simp_all)) (fun vm hW => LitOk.vm hj hW) 0 (by decide) (by decide) (by rw [hml]; rfl) a [(.ref b), (.int (0 : Int32)), (.int (0 : Int32)), .null] [] (lenOf pd_8fa9acc7 rfl) rfl rfl rfl (hb hby d9_6) (by decide) (by decide) fun v1 T1 h1 vm1 X1 hq1 => ?_
  obtain ⟨rfl, K1c, hj_1⟩ := hq1
  have f1_0 : Exa Z h1 a "java/lang/String" := g0.keep K1c
  have f1_2 : Ary Z h1 b .char 0 f := g4.keep K1c (ninS (ne_ary g0 (hw _ (List.mem_of_getElem? (i := 25) rfl)) g4).symm nin0)
  have f1_3 : Old Z n0 h1 := g5.keep K1c (allS g3 all0)
  have sz1 : n0 ≤ h1.size := Nat.le_trans sz0 K1c.1
  have K1 : Keep h0 h1 [a] := K0.trans K1c (allS (Or.inl (List.mem_of_getElem? (i := 0) rfl)) all0)
  show Go p e below _ T1 (mkF m 9 #[.val (.ref a), .val (.ref b)] [])
  refine S_goRetV X1 hx hlk hret (hb hby d9_9) (by decide) (by decide) ?_
  intro vm hW
  refine ⟨rfl, K1, ?_⟩
  · exact LitOk.vm hj_1 hW
theorem d1_0 : decode method_2_code 0 = .ok (.iload_n 0, 1) := by decide +kernel
theorem d1_1 : decode method_2_code 1 = .ok (.ifCond .ne 7, 3) := by decide +kernel
theorem d1_4 : decode method_2_code 4 = .ok (.invokestatic 7, 3) := by decide +kernel
theorem d1_7 : decode method_2_code 7 = .ok (.areturn, 1) := by decide +kernel
theorem d1_8 : decode method_2_code 8 = .ok (.iload_n 1, 1) := by decide +kernel
theorem d1_9 : decode method_2_code 9 = .ok (.sipush 256, 3) := by decide +kernel
theorem d1_12 : decode method_2_code 12 = .ok (.iand, 1) := by decide +kernel
theorem d1_13 : decode method_2_code 13 = .ok (.ifCond .eq 17, 3) := by decide +kernel
theorem d1_16 : decode method_2_code 16 = .ok (.new 13, 3) := by decide +kernel
theorem d1_19 : decode method_2_code 19 = .ok (.dup, 1) := by decide +kernel
theorem d1_20 : decode method_2_code 20 = .ok (.iconst 0, 1) := by decide +kernel
theorem d1_21 : decode method_2_code 21 = .ok (.newarray .char, 2) := by decide +kernel
theorem d1_23 : decode method_2_code 23 = .ok (.invokespecial 15, 3) := by decide +kernel
theorem d1_26 : decode method_2_code 26 = .ok (.invokestatic 18, 3) := by decide +kernel
theorem d1_29 : decode method_2_code 29 = .ok (.areturn, 1) := by decide +kernel
theorem d1_30 : decode method_2_code 30 = .ok (.iconst 1, 1) := by decide +kernel
theorem d1_31 : decode method_2_code 31 = .ok (.newarray .char, 2) := by decide +kernel
theorem d1_33 : decode method_2_code 33 = .ok (.astore_n 2, 1) := by decide +kernel
theorem d1_34 : decode method_2_code 34 = .ok (.aload_n 2, 1) := by decide +kernel
theorem d1_35 : decode method_2_code 35 = .ok (.iconst 0, 1) := by decide +kernel
theorem d1_36 : decode method_2_code 36 = .ok (.iload_n 1, 1) := by decide +kernel
theorem d1_37 : decode method_2_code 37 = .ok (.sipush 255, 3) := by decide +kernel
theorem d1_40 : decode method_2_code 40 = .ok (.iand, 1) := by decide +kernel
theorem d1_41 : decode method_2_code 41 = .ok (.i2c, 1) := by decide +kernel
theorem d1_42 : decode method_2_code 42 = .ok (.castore, 1) := by decide +kernel
theorem d1_43 : decode method_2_code 43 = .ok (.new 13, 3) := by decide +kernel
theorem d1_46 : decode method_2_code 46 = .ok (.dup, 1) := by decide +kernel
theorem d1_47 : decode method_2_code 47 = .ok (.aload_n 2, 1) := by decide +kernel
theorem d1_48 : decode method_2_code 48 = .ok (.invokespecial 15, 3) := by decide +kernel
theorem d1_51 : decode method_2_code 51 = .ok (.invokestatic 18, 3) := by decide +kernel
theorem d1_54 : decode method_2_code 54 = .ok (.areturn, 1) := by decide +kernel
theorem pn_1 : plainFor (⟨"com/example/security_target_reader/securitytargetreader/IdentificationIsEmptyPinLaw", "field", "(ZI)Ljava/util/Optional;"⟩ : MethodName) = true := plainFor_of_name (by first | (simp [plainName, overriddenIn]; done) | decide +kernel)
theorem pd_eab76aa0 : parseMethodDescriptor "()Ljava/util/Optional;" = some ⟨[], some (.object "java/util/Optional")⟩ := by decide +kernel
theorem pd_9f0d43c8 : parseMethodDescriptor "([C)V" = some ⟨[(.array .char)], none⟩ := by decide +kernel
theorem pd_83911a8b : parseMethodDescriptor "(Ljava/lang/Object;)Ljava/util/Optional;" = some ⟨[(.object "java/lang/Object")], some (.object "java/util/Optional")⟩ := by decide +kernel
theorem ef_rm1 (m : MethodId) (x0 : Int32) (x1 : Int32) : entryFrame m #[(.int x0), (.int x1)] 3 = mkF m 0 #[.val (.int x0), .val (.int x1), .unset] [] := by first | (simp [entryFrame, mkF, argsToLocals, Value.category]; done) | rfl
def Q1 (Z : State) (n0 : Nat) (h0 : Heap) (k : Int32) (ch : Int32) (ea : Addr) (cz : Int32) (v : Option Value) (h : Heap) (vm : Vm) : Prop := ∃ (o : Addr) (w : Value), v = some (.ref o) ∧ Keep h0 h [] ∧ Exa Z h o "java/util/Optional" ∧ Fld Z h o "java/util/Optional" "value" "Ljava/lang/Object;" w ∧ ((k = 0 ∧ w = .null) ∨ (¬ k = 0 ∧ ∃ a, w = .ref a)) ∧ (LitOk Z h vm)
set_option maxRecDepth 65536 in
set_option maxHeartbeats 40000000 in
theorem rm1 (l : Launch) (Z : State) (a0 : Array Value) (hw : ∀ d ∈ tables_1, d.before a0 Z = true) (ws : List Jvm.Cond) (n0 : Nat) (h0 : Heap) (k : Int32) (ch : Int32) (ea : Addr) (cz : Int32) (sz0 : n0 ≤ h0.size) (g0 : Sta Z h0 "java/util/Optional" "EMPTY" "Ljava/util/Optional;" (.ref ea)) (g1 : Exa Z h0 ea "java/util/Optional") (g2 : Fld Z h0 ea "java/util/Optional" "value" "Ljava/lang/Object;" .null) (g3 : Sta Z h0 "java/lang/String" "COMPACT_STRINGS" "Z" (.int cz)) (g4 : Old Z n0 h0) (hheld : Jvm.Lit.constHeld Z "java/lang/String" 7) (hcw : Jvm.Lit.compactW.before a0 Z = true) (hcz : ¬ cz = 0) :
    S_Con l (⟨"com/example/security_target_reader/securitytargetreader/IdentificationIsEmptyPinLaw", "field", "(ZI)Ljava/util/Optional;"⟩ : MethodName) method_2_code 3 (some (.object "java/util/Optional")) ({ frames := 4, cells := 5, slots := 9, locals := 66 } : Room) ws Z (fun vm => LitOk Z h0 vm) n0 #[(.int k), (.int ch)] h0 (Q1 Z n0 h0 k ch ea cz) := by
  refine S_Con.body pn_1 ?_
  intro p e s m below meth c s₁ hx hby hml hown hnm hret hlk hZ hh hj X00
  have X0 := X00 n0
  have hj : LitOk Z h0 s.vm := hj
  have hown : s.vm.findClass "com/example/security_target_reader/securitytargetreader/IdentificationIsEmptyPinLaw" = some m.cls := hown
  have hnm : meth.name = "field" := hnm
  have K0 : Keep h0 h0 [] := Keep.refl _ _
  rw [show entryFrame m #[(.int k), (.int ch)] 3 = mkF m 0 #[.val (.int k), .val (.int ch), .unset] [] from ef_rm1 m k ch]
  show Go p e below (S_PostW s n0 (5 : Nat) (9 : Nat) (Q1 Z n0 h0 k ch ea cz)) s₁ (mkF m 0 #[.val (.int k), .val (.int ch), .unset] [])
  refine Go.st (T' := s₁) (g' := (mkF m 1 #[.val (.int k), .val (.int ch), .unset] [(.int k)])) (fun t_ k_ => XS.iloadN X0.here hx rfl (hb hby d1_0) rfl k_) ?_
  by_cases hc1 : k = (0 : Int32)
  · skip
    refine Go.st (T' := s₁) (g' := (mkF m 4 #[.val (.int k), .val (.int ch), .unset] [])) (fun t_ k_ => XS.ifNo X0.here hx rfl (hb hby d1_1) rfl ((if0 _ _).trans (teq hc1).2) k_) ?_
    refine S_goStatic X0 hx hZ (y := (⟨"java/util/Optional", "empty", "()Ljava/util/Optional;"⟩ : MethodName)) hown (hw _ (List.mem_of_getElem? (i := 7) rfl)) (hw _ (List.mem_of_getElem? (i := 8) rfl)) (hw _ (List.mem_of_getElem? (i := 9) rfl)) (hw _ (List.mem_of_getElem? (i := 10) rfl)) (by decide) (rm2 l Z a0 hw [] n0 h0 ea sz0 g0) (by intro _ _ hq; obtain ⟨_, q⟩ := hq; exact Nat.le_of_eq (congrArg Array.size q.symm)) 0 (by decide) (by decide) (by rw [hml]; rfl) [] [] (lenOf pd_eab76aa0 rfl) rfl rfl rfl (hb hby d1_4) (by decide) (by decide) fun v1 T1 h1 X1 hq1 => ?_
    obtain ⟨rfl, eh1⟩ := hq1
    rw [eh1] at X1
    show Go p e below _ T1 (mkF m 7 #[.val (.int k), .val (.int ch), .unset] [(.ref ea)])
    refine S_goRetA X1 hx hlk hret rfl (hb hby d1_7) (by decide) (by decide) ?_
    intro vm hW
    refine ⟨ea, .null, rfl, K0, g1, g2, ?_, ?_⟩
    · exact Or.inl ⟨hc1, rfl⟩
    · exact LitOk.vm hj hW
  · skip
    refine Go.st (T' := s₁) (g' := (mkF m 8 #[.val (.int k), .val (.int ch), .unset] [])) (fun t_ k_ => XS.ifYes X0.here hx rfl (pc0 := 1) (pc' := 8) rfl (hb hby d1_1) rfl ((if0 _ _).trans (feq hc1).2) (by decide) (by decide) k_) ?_
    refine Go.st (T' := s₁) (g' := (mkF m 9 #[.val (.int k), .val (.int ch), .unset] [(.int ch)])) (fun t_ k_ => XS.iloadN X0.here hx rfl (hb hby d1_8) rfl k_) ?_
    refine Go.st (T' := s₁) (g' := (mkF m 12 #[.val (.int k), .val (.int ch), .unset] [(.int (256 : Int32)), (.int ch)])) (fun t_ k_ => XS.sipush X0.here hx rfl (hb hby d1_9) k_) ?_
    refine Go.st (T' := s₁) (g' := (mkF m 13 #[.val (.int k), .val (.int ch), .unset] [(.int (ch &&& (256 : Int32)))])) (fun t_ k_ => XS.iand X0.here hx rfl (hb hby d1_12) rfl k_) ?_
    by_cases hc13 : (ch &&& (256 : Int32)) = (0 : Int32)
    · skip
      refine Go.st (T' := s₁) (g' := (mkF m 30 #[.val (.int k), .val (.int ch), .unset] [])) (fun t_ k_ => XS.ifYes X0.here hx rfl (pc0 := 13) (pc' := 30) rfl (hb hby d1_13) rfl ((if0 _ _).trans (teq hc13).1) (by decide) (by decide) k_) ?_
      refine Go.st (T' := s₁) (g' := (mkF m 31 #[.val (.int k), .val (.int ch), .unset] [(.int (1 : Int32))])) (fun t_ k_ => XS.iconst X0.here hx rfl (hb hby d1_30) k_) ?_
      refine S_goNewA (aty := .char) X0 hx hZ (hw _ (List.mem_of_getElem? (i := 55) rfl)) (hb hby d1_31) (by decide) (cap := 1) (by decide) (by decide) (by decide) (by decide) (ad := "[C") (by decide) fun T2 h2 b gb2 X2 E2 A2 B2 => ?_
      have ge2 : n0 ≤ b := gb2 ▸ sz0
      have ne2_ea : ea ≠ b := gb2 ▸ Nat.ne_of_lt g1.lt
      have fr2 : h0.size ≤ b := gb2 ▸ K0.1
      have f2_0 : Sta Z h2 "java/util/Optional" "EMPTY" "Ljava/util/Optional;" (.ref ea) := g0.ext E2
      have f2_1 : Exa Z h2 ea "java/util/Optional" := g1.ext E2
      have f2_2 : Fld Z h2 ea "java/util/Optional" "value" "Ljava/lang/Object;" .null := g2.ext E2
      have f2_3 : Sta Z h2 "java/lang/String" "COMPACT_STRINGS" "Z" (.int cz) := g3.ext E2
      have f2_4 : Old Z n0 h2 := g4.ext E2
      have sz2 : n0 ≤ h2.size := Nat.le_trans sz0 E2.1
      have K2 : Keep h0 h2 [] := K0.ext E2
      have J2 : LitOk Z h2 s.vm := hj.ext E2
      have B2' : Ary Z h2 b .char 1 (fun _ => .int 0) := B2
      show Go p e below _ T2 (mkF m 33 #[.val (.int k), .val (.int ch), .unset] [(.ref b)])
      refine Go.st (T' := T2) (g' := (mkF m 34 #[.val (.int k), .val (.int ch), .val (.ref b)] [])) (fun t_ k_ => XS.astoreN X2.here hx rfl (hb hby d1_33) rfl rfl (l' := #[.val (.int k), .val (.int ch), .val (.ref b)]) rfl k_) ?_
      refine Go.st (T' := T2) (g' := (mkF m 35 #[.val (.int k), .val (.int ch), .val (.ref b)] [(.ref b)])) (fun t_ k_ => XS.aloadN X2.here hx rfl (hb hby d1_34) rfl rfl k_) ?_
      refine Go.st (T' := T2) (g' := (mkF m 36 #[.val (.int k), .val (.int ch), .val (.ref b)] [(.int (0 : Int32)), (.ref b)])) (fun t_ k_ => XS.iconst X2.here hx rfl (hb hby d1_35) k_) ?_
      refine Go.st (T' := T2) (g' := (mkF m 37 #[.val (.int k), .val (.int ch), .val (.ref b)] [(.int ch), (.int (0 : Int32)), (.ref b)])) (fun t_ k_ => XS.iloadN X2.here hx rfl (hb hby d1_36) rfl k_) ?_
      refine Go.st (T' := T2) (g' := (mkF m 40 #[.val (.int k), .val (.int ch), .val (.ref b)] [(.int (255 : Int32)), (.int ch), (.int (0 : Int32)), (.ref b)])) (fun t_ k_ => XS.sipush X2.here hx rfl (hb hby d1_37) k_) ?_
      refine Go.st (T' := T2) (g' := (mkF m 41 #[.val (.int k), .val (.int ch), .val (.ref b)] [(.int (ch &&& (255 : Int32))), (.int (0 : Int32)), (.ref b)])) (fun t_ k_ => XS.iand X2.here hx rfl (hb hby d1_40) rfl k_) ?_
      refine Go.st (T' := T2) (g' := (mkF m 42 #[.val (.int k), .val (.int ch), .val (.ref b)] [(.int ((ch &&& (255 : Int32)).toUInt32.toUInt16.toUInt32.toInt32)), (.int (0 : Int32)), (.ref b)])) (fun t_ k_ => XS.i2c X2.here hx rfl (hb hby d1_41) rfl k_) ?_
      refine S_goStC X2 hx hZ (f := (fun _ => 0)) B2' (j := (0 : Int32)) (by decide) ge2 (hb hby d1_42) fun T3 h3 X3 W3 A3 => ?_
      have J3 : LitOk Z h3 s.vm := J2.keep (Keep.of_wr W3) (fun ae be E2 G2 => (ninS (ne_ary E2 (hw _ (List.mem_of_getElem? (i := 25) rfl)) B2') nin0))
      have f3_0 : Sta Z h3 "java/util/Optional" "EMPTY" "Ljava/util/Optional;" (.ref ea) := f2_0.wr W3
      have f3_1 : Exa Z h3 ea "java/util/Optional" := f2_1.wr W3
      have f3_2 : Fld Z h3 ea "java/util/Optional" "value" "Ljava/lang/Object;" .null := f2_2.other W3 (Or.inl ne2_ea)
      have f3_3 : Sta Z h3 "java/lang/String" "COMPACT_STRINGS" "Z" (.int cz) := f2_3.wr W3
      have f3_4 : Old Z n0 h3 := f2_4.wr W3 ge2
      have f3_8 : Exa Z h3 b "[C" := A2.wr W3
      have sz3 : n0 ≤ h3.size := Nat.le_trans sz2 (Keep.of_wr W3).1
      have K3 : Keep h0 h3 [] := K2.wr W3 (Or.inr fr2)
      show Go p e below _ T3 (mkF m 43 #[.val (.int k), .val (.int ch), .val (.ref b)] [])
      refine S_goNew X3 hx hZ hown (hw _ (List.mem_of_getElem? (i := 56) rfl)) (hw _ (List.mem_of_getElem? (i := 25) rfl)) (hw _ (List.mem_of_getElem? (i := 24) rfl)) (hb hby d1_43) (by decide) (by decide) fun T4 h4 a gb4 X4 E4 A4 D4 => ?_
      have ge4 : n0 ≤ a := gb4 ▸ sz3
      have ne4_ea : ea ≠ a := gb4 ▸ Nat.ne_of_lt f3_1.lt
      have ne4_b : b ≠ a := gb4 ▸ Nat.ne_of_lt f3_8.lt
      have fr4 : h0.size ≤ a := gb4 ▸ K3.1
      have f4_0 : Sta Z h4 "java/util/Optional" "EMPTY" "Ljava/util/Optional;" (.ref ea) := f3_0.ext E4
      have f4_1 : Exa Z h4 ea "java/util/Optional" := f3_1.ext E4
      have f4_2 : Fld Z h4 ea "java/util/Optional" "value" "Ljava/lang/Object;" .null := f3_2.ext E4
      have f4_3 : Sta Z h4 "java/lang/String" "COMPACT_STRINGS" "Z" (.int cz) := f3_3.ext E4
      have f4_4 : Old Z n0 h4 := f3_4.ext E4
      have f4_8 : Exa Z h4 b "[C" := f3_8.ext E4
      have f4_9 : Ary Z h4 b .char 1 (fun i => .int (if i = ((0 : Int32)).toNatClampNeg then nar .char ((ch &&& (255 : Int32)).toUInt32.toUInt16.toUInt32.toInt32) else (fun _ => 0) i)) := A3.ext E4
      have sz4 : n0 ≤ h4.size := Nat.le_trans sz3 E4.1
      have K4 : Keep h0 h4 [] := K3.ext E4
      have J4 : LitOk Z h4 s.vm := J3.ext E4
      have F4_value : Fld Z h4 a "java/lang/String" "value" "[B" .null := D4 (Or.inr (hw _ (List.mem_of_getElem? (i := 27) rfl))) (ty := (.array .byte)) (by decide)
      have F4_coder : Fld Z h4 a "java/lang/String" "coder" "B" (.int (0 : Int32)) := D4 (Or.inr (hw _ (List.mem_of_getElem? (i := 28) rfl))) (ty := .byte) (by decide)
      show Go p e below _ T4 (mkF m 46 #[.val (.int k), .val (.int ch), .val (.ref b)] [(.ref a)])
      refine Go.st (T' := T4) (g' := (mkF m 47 #[.val (.int k), .val (.int ch), .val (.ref b)] [(.ref a), (.ref a)])) (fun t_ k_ => XS.dup X4.here hx rfl (hb hby d1_46) rfl rfl k_) ?_
      refine Go.st (T' := T4) (g' := (mkF m 48 #[.val (.int k), .val (.int ch), .val (.ref b)] [(.ref b), (.ref a), (.ref a)])) (fun t_ k_ => XS.aloadN X4.here hx rfl (hb hby d1_47) rfl rfl k_) ?_
      refine S_goCtor X4 hx hZ (y := (⟨"java/lang/String", "<init>", "([C)V"⟩ : MethodName)) rfl hown (hw _ (List.mem_of_getElem? (i := 57) rfl)) (hw _ (List.mem_of_getElem? (i := 58) rfl)) (hw _ (List.mem_of_getElem? (i := 24) rfl)) (hw _ (List.mem_of_getElem? (i := 59) rfl)) (by decide) (rm9n l Z a0 hw [] n0 h4 a b (fun i => (if i = ((0 : Int32)).toNatClampNeg then nar .char ((ch &&& (255 : Int32)).toUInt32.toUInt16.toUInt32.toInt32) else (fun _ => 0) i)) cz sz4 A4 F4_value F4_coder ge4 f4_9 f4_3 (by show ¬ (255 : Int32) < (if (0 : Nat) = ((0 : Int32)).toNatClampNeg then nar .char _ else _); rw [if_pos (by decide)]; exact own_255 ch) (by first | assumption | omega | simp_all)) (by intro _ _ hq; obtain ⟨_, q⟩ := hq; exact q.1) 1 (by decide) (by decide) (by rw [hml]; rfl) a [(.ref b)] [(.ref a)] (lenOf pd_9f0d43c8 rfl) rfl rfl rfl (hb hby d1_48) (by decide) (by decide) fun v5 T5 h5 X5 hq5 => ?_
      obtain ⟨rfl, K5c⟩ := hq5
      have J5 : LitOk Z h5 s.vm := J4.keep K5c (fun ae be E2 G2 => (ninS (fld_ne G2 F4_value (by intro q; cases q)) nin0))
      have f5_0 : Sta Z h5 "java/util/Optional" "EMPTY" "Ljava/util/Optional;" (.ref ea) := sta_keep f4_0 K5c (allS ⟨_, A4⟩ all0)
      have f5_1 : Exa Z h5 ea "java/util/Optional" := f4_1.keep K5c
      have f5_2 : Fld Z h5 ea "java/util/Optional" "value" "Ljava/lang/Object;" .null := f4_2.keep K5c (ninS ne4_ea nin0)
      have f5_3 : Sta Z h5 "java/lang/String" "COMPACT_STRINGS" "Z" (.int cz) := sta_keep f4_3 K5c (allS ⟨_, A4⟩ all0)
      have f5_4 : Old Z n0 h5 := f4_4.keep K5c (allS ge4 all0)
      have f5_8 : Exa Z h5 b "[C" := f4_8.keep K5c
      have f5_9 : Ary Z h5 b .char 1 (fun i => .int (if i = ((0 : Int32)).toNatClampNeg then nar .char ((ch &&& (255 : Int32)).toUInt32.toUInt16.toUInt32.toInt32) else (fun _ => 0) i)) := f4_9.keep K5c (ninS ne4_b nin0)
      have f5_14 : Exa Z h5 a "java/lang/String" := A4.keep K5c
      have sz5 : n0 ≤ h5.size := Nat.le_trans sz4 K5c.1
      have K5 : Keep h0 h5 [] := K4.trans K5c (allS (Or.inr fr4) all0)
      show Go p e below _ T5 (mkF m 51 #[.val (.int k), .val (.int ch), .val (.ref b)] [(.ref a)])
      refine S_goStatic X5 hx hZ (y := (⟨"java/util/Optional", "of", "(Ljava/lang/Object;)Ljava/util/Optional;"⟩ : MethodName)) hown (hw _ (List.mem_of_getElem? (i := 78) rfl)) (hw _ (List.mem_of_getElem? (i := 79) rfl)) (hw _ (List.mem_of_getElem? (i := 9) rfl)) (hw _ (List.mem_of_getElem? (i := 80) rfl)) (by decide) (rm14 l Z a0 hw [] n0 h5 a sz5) (by intro _ _ hq; obtain ⟨_, _, q, _⟩ := hq; exact q.1) 0 (by decide) (by decide) (by rw [hml]; rfl) [(.ref a)] [] (lenOf pd_83911a8b rfl) rfl rfl rfl (hb hby d1_51) (by decide) (by decide) fun v6 T6 h6 X6 hq6 => ?_
      obtain ⟨o_6, rfl, K6c, p6_0, p6_1, p6_2⟩ := hq6
      have ne6_ea_o_6 : ea ≠ o_6 := Nat.ne_of_lt (Nat.lt_of_lt_of_le f5_1.lt p6_0)
      have ne6_b_o_6 : b ≠ o_6 := Nat.ne_of_lt (Nat.lt_of_lt_of_le f5_8.lt p6_0)
      have ne6_a_o_6 : a ≠ o_6 := Nat.ne_of_lt (Nat.lt_of_lt_of_le f5_14.lt p6_0)
      have ge6_o_6 : n0 ≤ o_6 := Nat.le_trans sz5 p6_0
      have fr6_o_6 : h0.size ≤ o_6 := Nat.le_trans K5.1 p6_0
      have J6 : LitOk Z h6 s.vm := J5.keep K6c (fun ae be E2 G2 => nin0)
      have f6_0 : Sta Z h6 "java/util/Optional" "EMPTY" "Ljava/util/Optional;" (.ref ea) := sta_keep f5_0 K6c all0
      have f6_1 : Exa Z h6 ea "java/util/Optional" := f5_1.keep K6c
      have f6_2 : Fld Z h6 ea "java/util/Optional" "value" "Ljava/lang/Object;" .null := f5_2.keep K6c nin0
      have f6_3 : Sta Z h6 "java/lang/String" "COMPACT_STRINGS" "Z" (.int cz) := sta_keep f5_3 K6c all0
      have f6_4 : Old Z n0 h6 := f5_4.keep K6c all0
      have f6_8 : Exa Z h6 b "[C" := f5_8.keep K6c
      have f6_9 : Ary Z h6 b .char 1 (fun i => .int (if i = ((0 : Int32)).toNatClampNeg then nar .char ((ch &&& (255 : Int32)).toUInt32.toUInt16.toUInt32.toInt32) else (fun _ => 0) i)) := f5_9.keep K6c nin0
      have f6_14 : Exa Z h6 a "java/lang/String" := f5_14.keep K6c
      have sz6 : n0 ≤ h6.size := Nat.le_trans sz5 K6c.1
      have K6 : Keep h0 h6 [] := K5.trans K6c all0
      show Go p e below _ T6 (mkF m 54 #[.val (.int k), .val (.int ch), .val (.ref b)] [(.ref o_6)])
      refine S_goRetA X6 hx hlk hret rfl (hb hby d1_54) (by decide) (by decide) ?_
      intro vm hW
      refine ⟨o_6, (.ref a), rfl, K6, p6_1, p6_2, ?_, ?_⟩
      · exact Or.inr ⟨hc1, _, rfl⟩
      · exact LitOk.vm J6 hW
    · skip
      refine Go.st (T' := s₁) (g' := (mkF m 16 #[.val (.int k), .val (.int ch), .unset] [])) (fun t_ k_ => XS.ifNo X0.here hx rfl (hb hby d1_13) rfl ((if0 _ _).trans (feq hc13).1) k_) ?_
      refine S_goNew X0 hx hZ hown (hw _ (List.mem_of_getElem? (i := 56) rfl)) (hw _ (List.mem_of_getElem? (i := 25) rfl)) (hw _ (List.mem_of_getElem? (i := 24) rfl)) (hb hby d1_16) (by decide) (by decide) fun T7 h7 a gb7 X7 E7 A7 D7 => ?_
      have ge7 : n0 ≤ a := gb7 ▸ sz0
      have ne7_ea : ea ≠ a := gb7 ▸ Nat.ne_of_lt g1.lt
      have fr7 : h0.size ≤ a := gb7 ▸ K0.1
      have f7_0 : Sta Z h7 "java/util/Optional" "EMPTY" "Ljava/util/Optional;" (.ref ea) := g0.ext E7
      have f7_1 : Exa Z h7 ea "java/util/Optional" := g1.ext E7
      have f7_2 : Fld Z h7 ea "java/util/Optional" "value" "Ljava/lang/Object;" .null := g2.ext E7
      have f7_3 : Sta Z h7 "java/lang/String" "COMPACT_STRINGS" "Z" (.int cz) := g3.ext E7
      have f7_4 : Old Z n0 h7 := g4.ext E7
      have sz7 : n0 ≤ h7.size := Nat.le_trans sz0 E7.1
      have K7 : Keep h0 h7 [] := K0.ext E7
      have J7 : LitOk Z h7 s.vm := hj.ext E7
      have F7_value : Fld Z h7 a "java/lang/String" "value" "[B" .null := D7 (Or.inr (hw _ (List.mem_of_getElem? (i := 27) rfl))) (ty := (.array .byte)) (by decide)
      have F7_coder : Fld Z h7 a "java/lang/String" "coder" "B" (.int (0 : Int32)) := D7 (Or.inr (hw _ (List.mem_of_getElem? (i := 28) rfl))) (ty := .byte) (by decide)
      show Go p e below _ T7 (mkF m 19 #[.val (.int k), .val (.int ch), .unset] [(.ref a)])
      refine Go.st (T' := T7) (g' := (mkF m 20 #[.val (.int k), .val (.int ch), .unset] [(.ref a), (.ref a)])) (fun t_ k_ => XS.dup X7.here hx rfl (hb hby d1_19) rfl rfl k_) ?_
      refine Go.st (T' := T7) (g' := (mkF m 21 #[.val (.int k), .val (.int ch), .unset] [(.int (0 : Int32)), (.ref a), (.ref a)])) (fun t_ k_ => XS.iconst X7.here hx rfl (hb hby d1_20) k_) ?_
      refine S_goNewA (aty := .char) X7 hx hZ (hw _ (List.mem_of_getElem? (i := 55) rfl)) (hb hby d1_21) (by decide) (cap := 0) (by decide) (by decide) (by decide) (by decide) (ad := "[C") (by decide) fun T8 h8 b gb8 X8 E8 A8 B8 => ?_
      have ge8 : n0 ≤ b := gb8 ▸ sz7
      have ne8_ea : ea ≠ b := gb8 ▸ Nat.ne_of_lt f7_1.lt
      have ne8_a : a ≠ b := gb8 ▸ Nat.ne_of_lt A7.lt
      have fr8 : h0.size ≤ b := gb8 ▸ K7.1
      have f8_0 : Sta Z h8 "java/util/Optional" "EMPTY" "Ljava/util/Optional;" (.ref ea) := f7_0.ext E8
      have f8_1 : Exa Z h8 ea "java/util/Optional" := f7_1.ext E8
      have f8_2 : Fld Z h8 ea "java/util/Optional" "value" "Ljava/lang/Object;" .null := f7_2.ext E8
      have f8_3 : Sta Z h8 "java/lang/String" "COMPACT_STRINGS" "Z" (.int cz) := f7_3.ext E8
      have f8_4 : Old Z n0 h8 := f7_4.ext E8
      have f8_8 : Exa Z h8 a "java/lang/String" := A7.ext E8
      have f8_9 : Fld Z h8 a "java/lang/String" "value" "[B" .null := F7_value.ext E8
      have f8_10 : Fld Z h8 a "java/lang/String" "coder" "B" (.int (0 : Int32)) := F7_coder.ext E8
      have sz8 : n0 ≤ h8.size := Nat.le_trans sz7 E8.1
      have K8 : Keep h0 h8 [] := K7.ext E8
      have J8 : LitOk Z h8 s.vm := J7.ext E8
      have B8' : Ary Z h8 b .char 0 (fun _ => .int 0) := B8
      show Go p e below _ T8 (mkF m 23 #[.val (.int k), .val (.int ch), .unset] [(.ref b), (.ref a), (.ref a)])
      refine S_goCtorS X8 hx hZ (y := (⟨"java/lang/String", "<init>", "([C)V"⟩ : MethodName)) rfl hown (hw _ (List.mem_of_getElem? (i := 57) rfl)) (hw _ (List.mem_of_getElem? (i := 58) rfl)) (hw _ (List.mem_of_getElem? (i := 24) rfl)) (hw _ (List.mem_of_getElem? (i := 59) rfl)) (by decide) (rm9e l Z a0 hw [] n0 h8 a b (fun _ => .int 0) sz8 f8_8 f8_9 f8_10 ge7 B8' f8_4 (by first | assumption | omega | simp_all) (by first | assumption | omega | simp_all)) (fun vm hW => LitOk.vm J8 hW) 1 (by decide) (by decide) (by rw [hml]; rfl) a [(.ref b)] [(.ref a)] (lenOf pd_9f0d43c8 rfl) rfl rfl rfl (hb hby d1_23) (by decide) (by decide) fun v9 T9 h9 vm9 X9 hq9 => ?_
      obtain ⟨rfl, K9c, hj_9⟩ := hq9
      have f9_0 : Sta Z h9 "java/util/Optional" "EMPTY" "Ljava/util/Optional;" (.ref ea) := sta_keep f8_0 K9c (allS ⟨_, f8_8⟩ all0)
      have f9_1 : Exa Z h9 ea "java/util/Optional" := f8_1.keep K9c
      have f9_2 : Fld Z h9 ea "java/util/Optional" "value" "Ljava/lang/Object;" .null := f8_2.keep K9c (ninS ne7_ea nin0)
      have f9_3 : Sta Z h9 "java/lang/String" "COMPACT_STRINGS" "Z" (.int cz) := sta_keep f8_3 K9c (allS ⟨_, f8_8⟩ all0)
      have f9_4 : Old Z n0 h9 := f8_4.keep K9c (allS ge7 all0)
      have f9_8 : Exa Z h9 a "java/lang/String" := f8_8.keep K9c
      have f9_13 : Exa Z h9 b "[C" := A8.keep K9c
      have f9_14 : Ary Z h9 b .char 0 (fun _ => .int 0) := B8'.keep K9c (ninS ne8_a.symm nin0)
      have sz9 : n0 ≤ h9.size := Nat.le_trans sz8 K9c.1
      have K9 : Keep h0 h9 [] := K8.trans K9c (allS (Or.inr fr7) all0)
      show Go p e below _ T9 (mkF m 26 #[.val (.int k), .val (.int ch), .unset] [(.ref a)])
      refine S_goStatic X9 hx hZ (y := (⟨"java/util/Optional", "of", "(Ljava/lang/Object;)Ljava/util/Optional;"⟩ : MethodName)) hown (hw _ (List.mem_of_getElem? (i := 78) rfl)) (hw _ (List.mem_of_getElem? (i := 79) rfl)) (hw _ (List.mem_of_getElem? (i := 9) rfl)) (hw _ (List.mem_of_getElem? (i := 80) rfl)) (by decide) (rm14 l Z a0 hw [] n0 h9 a sz9) (by intro _ _ hq; obtain ⟨_, _, q, _⟩ := hq; exact q.1) 0 (by decide) (by decide) (by rw [hml]; rfl) [(.ref a)] [] (lenOf pd_83911a8b rfl) rfl rfl rfl (hb hby d1_26) (by decide) (by decide) fun v10 T10 h10 X10 hq10 => ?_
      obtain ⟨o_10, rfl, K10c, p10_0, p10_1, p10_2⟩ := hq10
      have ne10_ea_o_10 : ea ≠ o_10 := Nat.ne_of_lt (Nat.lt_of_lt_of_le f9_1.lt p10_0)
      have ne10_a_o_10 : a ≠ o_10 := Nat.ne_of_lt (Nat.lt_of_lt_of_le f9_8.lt p10_0)
      have ne10_b_o_10 : b ≠ o_10 := Nat.ne_of_lt (Nat.lt_of_lt_of_le f9_13.lt p10_0)
      have ge10_o_10 : n0 ≤ o_10 := Nat.le_trans sz9 p10_0
      have fr10_o_10 : h0.size ≤ o_10 := Nat.le_trans K9.1 p10_0
      have J10 : LitOk Z h10 vm9 := hj_9.keep K10c (fun ae be E2 G2 => nin0)
      have f10_0 : Sta Z h10 "java/util/Optional" "EMPTY" "Ljava/util/Optional;" (.ref ea) := sta_keep f9_0 K10c all0
      have f10_1 : Exa Z h10 ea "java/util/Optional" := f9_1.keep K10c
      have f10_2 : Fld Z h10 ea "java/util/Optional" "value" "Ljava/lang/Object;" .null := f9_2.keep K10c nin0
      have f10_3 : Sta Z h10 "java/lang/String" "COMPACT_STRINGS" "Z" (.int cz) := sta_keep f9_3 K10c all0
      have f10_4 : Old Z n0 h10 := f9_4.keep K10c all0
      have f10_8 : Exa Z h10 a "java/lang/String" := f9_8.keep K10c
      have f10_13 : Exa Z h10 b "[C" := f9_13.keep K10c
      have f10_14 : Ary Z h10 b .char 0 (fun _ => .int 0) := f9_14.keep K10c nin0
      have sz10 : n0 ≤ h10.size := Nat.le_trans sz9 K10c.1
      have K10 : Keep h0 h10 [] := K9.trans K10c all0
      show Go p e below _ T10 (mkF m 29 #[.val (.int k), .val (.int ch), .unset] [(.ref o_10)])
      refine S_goRetA X10 hx hlk hret rfl (hb hby d1_29) (by decide) (by decide) ?_
      intro vm hW
      refine ⟨o_10, (.ref a), rfl, K10, p10_1, p10_2, ?_, ?_⟩
      · exact Or.inr ⟨hc1, _, rfl⟩
      · exact LitOk.vm J10 hW
theorem d3_0 : decode prog_18_method_1_code 0 = .ok (.aload_n 0, 1) := by decide +kernel
theorem d3_1 : decode prog_18_method_1_code 1 = .ok (.invokespecial 1, 3) := by decide +kernel
theorem d3_4 : decode prog_18_method_1_code 4 = .ok (.aload_n 1, 1) := by decide +kernel
theorem d3_5 : decode prog_18_method_1_code 5 = .ok (.ldc 7, 2) := by decide +kernel
theorem d3_7 : decode prog_18_method_1_code 7 = .ok (.invokestatic 9, 3) := by decide +kernel
theorem d3_10 : decode prog_18_method_1_code 10 = .ok (.pop, 1) := by decide +kernel
theorem d3_11 : decode prog_18_method_1_code 11 = .ok (.aload_n 2, 1) := by decide +kernel
theorem d3_12 : decode prog_18_method_1_code 12 = .ok (.ldc 15, 2) := by decide +kernel
theorem d3_14 : decode prog_18_method_1_code 14 = .ok (.invokestatic 9, 3) := by decide +kernel
theorem d3_17 : decode prog_18_method_1_code 17 = .ok (.pop, 1) := by decide +kernel
theorem d3_18 : decode prog_18_method_1_code 18 = .ok (.aload_n 3, 1) := by decide +kernel
theorem d3_19 : decode prog_18_method_1_code 19 = .ok (.ldc 17, 2) := by decide +kernel
theorem d3_21 : decode prog_18_method_1_code 21 = .ok (.invokestatic 9, 3) := by decide +kernel
theorem d3_24 : decode prog_18_method_1_code 24 = .ok (.pop, 1) := by decide +kernel
theorem d3_25 : decode prog_18_method_1_code 25 = .ok (.aload_n 0, 1) := by decide +kernel
theorem d3_26 : decode prog_18_method_1_code 26 = .ok (.aload_n 1, 1) := by decide +kernel
theorem d3_27 : decode prog_18_method_1_code 27 = .ok (.putfield 19, 3) := by decide +kernel
theorem d3_30 : decode prog_18_method_1_code 30 = .ok (.aload_n 0, 1) := by decide +kernel
theorem d3_31 : decode prog_18_method_1_code 31 = .ok (.aload_n 2, 1) := by decide +kernel
theorem d3_32 : decode prog_18_method_1_code 32 = .ok (.putfield 24, 3) := by decide +kernel
theorem d3_35 : decode prog_18_method_1_code 35 = .ok (.aload_n 0, 1) := by decide +kernel
theorem d3_36 : decode prog_18_method_1_code 36 = .ok (.aload_n 3, 1) := by decide +kernel
theorem d3_37 : decode prog_18_method_1_code 37 = .ok (.putfield 26, 3) := by decide +kernel
theorem d3_40 : decode prog_18_method_1_code 40 = .ok (.return_, 1) := by decide +kernel
theorem pn_3 : plainFor (⟨"com/example/security_target_reader/securitytargetreader/Identification", "<init>", "(Ljava/util/Optional;Ljava/util/Optional;Ljava/util/Optional;)V"⟩ : MethodName) = true := plainFor_of_name (by first | (simp [plainName, overriddenIn]; done) | decide +kernel)
theorem pd_0f51a560 : parseMethodDescriptor "()V" = some ⟨[], none⟩ := by decide +kernel
theorem pd_f1d7b46b : parseMethodDescriptor "(Ljava/lang/Object;Ljava/lang/String;)Ljava/lang/Object;" = some ⟨[(.object "java/lang/Object"), (.object "java/lang/String")], some (.object "java/lang/Object")⟩ := by decide +kernel
theorem ef_rm3 (m : MethodId) (x0 : Addr) (x1 : Addr) (x2 : Addr) (x3 : Addr) : entryFrame m #[(.ref x0), (.ref x1), (.ref x2), (.ref x3)] 4 = mkF m 0 #[.val (.ref x0), .val (.ref x1), .val (.ref x2), .val (.ref x3)] [] := by first | (simp [entryFrame, mkF, argsToLocals, Value.category]; done) | rfl
def Q3 (Z : State) (n0 : Nat) (h0 : Heap) (d : Addr) (o1 : Addr) (o2 : Addr) (o3 : Addr) (v : Option Value) (h : Heap) (vm : Vm) : Prop := v = none ∧ Keep h0 h [d] ∧ Fld Z h d "com/example/security_target_reader/securitytargetreader/Identification" "title" "Ljava/util/Optional;" (.ref o1) ∧ Fld Z h d "com/example/security_target_reader/securitytargetreader/Identification" "version" "Ljava/util/Optional;" (.ref o2) ∧ Fld Z h d "com/example/security_target_reader/securitytargetreader/Identification" "date" "Ljava/util/Optional;" (.ref o3)
set_option maxRecDepth 65536 in
set_option maxHeartbeats 40000000 in
theorem rm3 (l : Launch) (Z : State) (a0 : Array Value) (hw : ∀ d ∈ tables_1, d.before a0 Z = true) (ws : List Jvm.Cond) (n0 : Nat) (h0 : Heap) (d : Addr) (o1 : Addr) (o2 : Addr) (o3 : Addr) (sz0 : n0 ≤ h0.size) (g0 : Exa Z h0 d "com/example/security_target_reader/securitytargetreader/Identification") (g1 : Fld Z h0 d "com/example/security_target_reader/securitytargetreader/Identification" "title" "Ljava/util/Optional;" .null) (g2 : Fld Z h0 d "com/example/security_target_reader/securitytargetreader/Identification" "version" "Ljava/util/Optional;" .null) (g3 : Fld Z h0 d "com/example/security_target_reader/securitytargetreader/Identification" "date" "Ljava/util/Optional;" .null) (g4 : n0 ≤ d) :
    S_Con l (⟨"com/example/security_target_reader/securitytargetreader/Identification", "<init>", "(Ljava/util/Optional;Ljava/util/Optional;Ljava/util/Optional;)V"⟩ : MethodName) prog_18_method_1_code 4 none ({ frames := 2, cells := 6, slots := 76, locals := 24 } : Room) ws Z (fun _ => True) n0 #[(.ref d), (.ref o1), (.ref o2), (.ref o3)] h0 (Q3 Z n0 h0 d o1 o2 o3) := by
  refine S_Con.body pn_3 ?_
  intro p e s m below meth c s₁ hx hby hml hown hnm hret hlk hZ hh hj X00
  have X0 := X00 n0
  have hown : s.vm.findClass "com/example/security_target_reader/securitytargetreader/Identification" = some m.cls := hown
  have hnm : meth.name = "<init>" := hnm
  have K0 : Keep h0 h0 [d] := Keep.refl _ _
  rw [show entryFrame m #[(.ref d), (.ref o1), (.ref o2), (.ref o3)] 4 = mkF m 0 #[.val (.ref d), .val (.ref o1), .val (.ref o2), .val (.ref o3)] [] from ef_rm3 m d o1 o2 o3]
  show Go p e below (S_PostW s n0 (6 : Nat) (76 : Nat) (Q3 Z n0 h0 d o1 o2 o3)) s₁ (mkF m 0 #[.val (.ref d), .val (.ref o1), .val (.ref o2), .val (.ref o3)] [])
  refine Go.st (T' := s₁) (g' := (mkF m 1 #[.val (.ref d), .val (.ref o1), .val (.ref o2), .val (.ref o3)] [(.ref d)])) (fun t_ k_ => XS.aloadN X0.here hx rfl (hb hby d3_0) rfl rfl k_) ?_
  refine S_goCtor X0 hx hZ (y := (⟨"java/lang/Record", "<init>", "()V"⟩ : MethodName)) rfl hown (hw _ (List.mem_of_getElem? (i := 15) rfl)) (hw _ (List.mem_of_getElem? (i := 16) rfl)) (hw _ (List.mem_of_getElem? (i := 18) rfl)) (hw _ (List.mem_of_getElem? (i := 19) rfl)) (by decide) (rm4 l Z a0 hw [] n0 h0 d sz0) (by intro _ _ hq; obtain ⟨_, q⟩ := hq; exact Nat.le_of_eq (congrArg Array.size q.symm)) 0 (by decide) (by decide) (by rw [hml]; rfl) d [] [] (lenOf pd_0f51a560 rfl) rfl rfl rfl (hb hby d3_1) (by decide) (by decide) fun v1 T1 h1 X1 hq1 => ?_
  obtain ⟨rfl, eh1⟩ := hq1
  rw [eh1] at X1
  show Go p e below _ T1 (mkF m 4 #[.val (.ref d), .val (.ref o1), .val (.ref o2), .val (.ref o3)] [])
  refine Go.st (T' := T1) (g' := (mkF m 5 #[.val (.ref d), .val (.ref o1), .val (.ref o2), .val (.ref o3)] [(.ref o1)])) (fun t_ k_ => XS.aloadN X1.here hx rfl (hb hby d3_4) rfl rfl k_) ?_
  refine S_goLdcS X1 hx hZ hown (hw _ (List.mem_of_getElem? (i := 23) rfl)) (own_sw hw) (hb hby d3_5) 20 (by decide) (by decide) (by decide) (by decide) fun l2 T2 h2 vm2 X2 E2 => ?_
  have f2_0 : Exa Z h2 d "com/example/security_target_reader/securitytargetreader/Identification" := g0.ext E2
  have f2_1 : Fld Z h2 d "com/example/security_target_reader/securitytargetreader/Identification" "title" "Ljava/util/Optional;" .null := g1.ext E2
  have f2_2 : Fld Z h2 d "com/example/security_target_reader/securitytargetreader/Identification" "version" "Ljava/util/Optional;" .null := g2.ext E2
  have f2_3 : Fld Z h2 d "com/example/security_target_reader/securitytargetreader/Identification" "date" "Ljava/util/Optional;" .null := g3.ext E2
  have sz2 : n0 ≤ h2.size := Nat.le_trans sz0 E2.1
  have K2 : Keep h0 h2 [d] := K0.ext E2
  show Go p e below _ T2 (mkF m 7 #[.val (.ref d), .val (.ref o1), .val (.ref o2), .val (.ref o3)] [(.ref l2), (.ref o1)])
  refine S_goStatic X2 hx hZ (y := (⟨"java/util/Objects", "requireNonNull", "(Ljava/lang/Object;Ljava/lang/String;)Ljava/lang/Object;"⟩ : MethodName)) hown (hw _ (List.mem_of_getElem? (i := 31) rfl)) (hw _ (List.mem_of_getElem? (i := 32) rfl)) (hw _ (List.mem_of_getElem? (i := 33) rfl)) (hw _ (List.mem_of_getElem? (i := 34) rfl)) (by decide) (rm6 l Z a0 hw [] n0 h2 o1 l2 sz2) (by intro _ _ hq; obtain ⟨_, q⟩ := hq; exact Nat.le_of_eq (congrArg Array.size q.symm)) 0 (by decide) (by decide) (by rw [hml]; rfl) [(.ref o1), (.ref l2)] [] (lenOf pd_f1d7b46b rfl) rfl rfl rfl (hb hby d3_7) (by decide) (by decide) fun v3 T3 h3 X3 hq3 => ?_
  obtain ⟨rfl, eh3⟩ := hq3
  rw [eh3] at X3
  show Go p e below _ T3 (mkF m 10 #[.val (.ref d), .val (.ref o1), .val (.ref o2), .val (.ref o3)] [(.ref o1)])
  refine Go.st (T' := T3) (g' := (mkF m 11 #[.val (.ref d), .val (.ref o1), .val (.ref o2), .val (.ref o3)] [])) (fun t_ k_ => XS.pop X3.here hx rfl (hb hby d3_10) rfl rfl k_) ?_
  refine Go.st (T' := T3) (g' := (mkF m 12 #[.val (.ref d), .val (.ref o1), .val (.ref o2), .val (.ref o3)] [(.ref o2)])) (fun t_ k_ => XS.aloadN X3.here hx rfl (hb hby d3_11) rfl rfl k_) ?_
  refine S_goLdcS X3 hx hZ hown (hw _ (List.mem_of_getElem? (i := 35) rfl)) (own_sw hw) (hb hby d3_12) 28 (by decide) (by decide) (by decide) (by decide) fun l4 T4 h4 vm4 X4 E4 => ?_
  have f4_0 : Exa Z h4 d "com/example/security_target_reader/securitytargetreader/Identification" := f2_0.ext E4
  have f4_1 : Fld Z h4 d "com/example/security_target_reader/securitytargetreader/Identification" "title" "Ljava/util/Optional;" .null := f2_1.ext E4
  have f4_2 : Fld Z h4 d "com/example/security_target_reader/securitytargetreader/Identification" "version" "Ljava/util/Optional;" .null := f2_2.ext E4
  have f4_3 : Fld Z h4 d "com/example/security_target_reader/securitytargetreader/Identification" "date" "Ljava/util/Optional;" .null := f2_3.ext E4
  have sz4 : n0 ≤ h4.size := Nat.le_trans sz2 E4.1
  have K4 : Keep h0 h4 [d] := K2.ext E4
  show Go p e below _ T4 (mkF m 14 #[.val (.ref d), .val (.ref o1), .val (.ref o2), .val (.ref o3)] [(.ref l4), (.ref o2)])
  refine S_goStatic X4 hx hZ (y := (⟨"java/util/Objects", "requireNonNull", "(Ljava/lang/Object;Ljava/lang/String;)Ljava/lang/Object;"⟩ : MethodName)) hown (hw _ (List.mem_of_getElem? (i := 31) rfl)) (hw _ (List.mem_of_getElem? (i := 32) rfl)) (hw _ (List.mem_of_getElem? (i := 33) rfl)) (hw _ (List.mem_of_getElem? (i := 34) rfl)) (by decide) (rm6 l Z a0 hw [] n0 h4 o2 l4 sz4) (by intro _ _ hq; obtain ⟨_, q⟩ := hq; exact Nat.le_of_eq (congrArg Array.size q.symm)) 0 (by decide) (by decide) (by rw [hml]; rfl) [(.ref o2), (.ref l4)] [] (lenOf pd_f1d7b46b rfl) rfl rfl rfl (hb hby d3_14) (by decide) (by decide) fun v5 T5 h5 X5 hq5 => ?_
  obtain ⟨rfl, eh5⟩ := hq5
  rw [eh5] at X5
  show Go p e below _ T5 (mkF m 17 #[.val (.ref d), .val (.ref o1), .val (.ref o2), .val (.ref o3)] [(.ref o2)])
  refine Go.st (T' := T5) (g' := (mkF m 18 #[.val (.ref d), .val (.ref o1), .val (.ref o2), .val (.ref o3)] [])) (fun t_ k_ => XS.pop X5.here hx rfl (hb hby d3_17) rfl rfl k_) ?_
  refine Go.st (T' := T5) (g' := (mkF m 19 #[.val (.ref d), .val (.ref o1), .val (.ref o2), .val (.ref o3)] [(.ref o3)])) (fun t_ k_ => XS.aloadN X5.here hx rfl (hb hby d3_18) rfl rfl k_) ?_
  refine S_goLdcS X5 hx hZ hown (hw _ (List.mem_of_getElem? (i := 36) rfl)) (own_sw hw) (hb hby d3_19) 16 (by decide) (by decide) (by decide) (by decide) fun l6 T6 h6 vm6 X6 E6 => ?_
  have f6_0 : Exa Z h6 d "com/example/security_target_reader/securitytargetreader/Identification" := f4_0.ext E6
  have f6_1 : Fld Z h6 d "com/example/security_target_reader/securitytargetreader/Identification" "title" "Ljava/util/Optional;" .null := f4_1.ext E6
  have f6_2 : Fld Z h6 d "com/example/security_target_reader/securitytargetreader/Identification" "version" "Ljava/util/Optional;" .null := f4_2.ext E6
  have f6_3 : Fld Z h6 d "com/example/security_target_reader/securitytargetreader/Identification" "date" "Ljava/util/Optional;" .null := f4_3.ext E6
  have sz6 : n0 ≤ h6.size := Nat.le_trans sz4 E6.1
  have K6 : Keep h0 h6 [d] := K4.ext E6
  show Go p e below _ T6 (mkF m 21 #[.val (.ref d), .val (.ref o1), .val (.ref o2), .val (.ref o3)] [(.ref l6), (.ref o3)])
  refine S_goStatic X6 hx hZ (y := (⟨"java/util/Objects", "requireNonNull", "(Ljava/lang/Object;Ljava/lang/String;)Ljava/lang/Object;"⟩ : MethodName)) hown (hw _ (List.mem_of_getElem? (i := 31) rfl)) (hw _ (List.mem_of_getElem? (i := 32) rfl)) (hw _ (List.mem_of_getElem? (i := 33) rfl)) (hw _ (List.mem_of_getElem? (i := 34) rfl)) (by decide) (rm6 l Z a0 hw [] n0 h6 o3 l6 sz6) (by intro _ _ hq; obtain ⟨_, q⟩ := hq; exact Nat.le_of_eq (congrArg Array.size q.symm)) 0 (by decide) (by decide) (by rw [hml]; rfl) [(.ref o3), (.ref l6)] [] (lenOf pd_f1d7b46b rfl) rfl rfl rfl (hb hby d3_21) (by decide) (by decide) fun v7 T7 h7 X7 hq7 => ?_
  obtain ⟨rfl, eh7⟩ := hq7
  rw [eh7] at X7
  show Go p e below _ T7 (mkF m 24 #[.val (.ref d), .val (.ref o1), .val (.ref o2), .val (.ref o3)] [(.ref o3)])
  refine Go.st (T' := T7) (g' := (mkF m 25 #[.val (.ref d), .val (.ref o1), .val (.ref o2), .val (.ref o3)] [])) (fun t_ k_ => XS.pop X7.here hx rfl (hb hby d3_24) rfl rfl k_) ?_
  refine Go.st (T' := T7) (g' := (mkF m 26 #[.val (.ref d), .val (.ref o1), .val (.ref o2), .val (.ref o3)] [(.ref d)])) (fun t_ k_ => XS.aloadN X7.here hx rfl (hb hby d3_25) rfl rfl k_) ?_
  refine Go.st (T' := T7) (g' := (mkF m 27 #[.val (.ref d), .val (.ref o1), .val (.ref o2), .val (.ref o3)] [(.ref o1), (.ref d)])) (fun t_ k_ => XS.aloadN X7.here hx rfl (hb hby d3_26) rfl rfl k_) ?_
  refine S_goPut X7 hx hZ hown (host := "") (Or.inl (hw _ (List.mem_of_getElem? (i := 37) rfl))) Via.refl f6_1 f6_0 (Or.inr ⟨(hw _ (List.mem_of_getElem? (i := 38) rfl)), rfl, hnm⟩) (hw _ (List.mem_of_getElem? (i := 1) rfl)) (ty := (.object "java/util/Optional")) (by decide) rfl rfl g4 (hb hby d3_27) fun T8 h8 X8 W8 => ?_
  have Fw8 := f6_1.same W8
  have f8_0 : Exa Z h8 d "com/example/security_target_reader/securitytargetreader/Identification" := f6_0.wr W8
  have f8_1 : Fld Z h8 d "com/example/security_target_reader/securitytargetreader/Identification" "version" "Ljava/util/Optional;" .null := f6_2.other W8 (Or.inr (slot_ne (Or.inr (hw _ (List.mem_of_getElem? (i := 40) rfl))) (Or.inr (hw _ (List.mem_of_getElem? (i := 38) rfl))) (by decide) (t := (.object "java/util/Optional")) (t' := (.object "java/util/Optional")) (by decide) (by decide)))
  have f8_2 : Fld Z h8 d "com/example/security_target_reader/securitytargetreader/Identification" "date" "Ljava/util/Optional;" .null := f6_3.other W8 (Or.inr (slot_ne (Or.inr (hw _ (List.mem_of_getElem? (i := 42) rfl))) (Or.inr (hw _ (List.mem_of_getElem? (i := 38) rfl))) (by decide) (t := (.object "java/util/Optional")) (t' := (.object "java/util/Optional")) (by decide) (by decide)))
  have sz8 : n0 ≤ h8.size := Nat.le_trans sz6 (Keep.of_wr W8).1
  have K8 : Keep h0 h8 [d] := K6.wr W8 (Or.inl (List.mem_of_getElem? (i := 0) rfl))
  show Go p e below _ T8 (mkF m 30 #[.val (.ref d), .val (.ref o1), .val (.ref o2), .val (.ref o3)] [])
  refine Go.st (T' := T8) (g' := (mkF m 31 #[.val (.ref d), .val (.ref o1), .val (.ref o2), .val (.ref o3)] [(.ref d)])) (fun t_ k_ => XS.aloadN X8.here hx rfl (hb hby d3_30) rfl rfl k_) ?_
  refine Go.st (T' := T8) (g' := (mkF m 32 #[.val (.ref d), .val (.ref o1), .val (.ref o2), .val (.ref o3)] [(.ref o2), (.ref d)])) (fun t_ k_ => XS.aloadN X8.here hx rfl (hb hby d3_31) rfl rfl k_) ?_
  refine S_goPut X8 hx hZ hown (host := "") (Or.inl (hw _ (List.mem_of_getElem? (i := 39) rfl))) Via.refl f8_1 f8_0 (Or.inr ⟨(hw _ (List.mem_of_getElem? (i := 40) rfl)), rfl, hnm⟩) (hw _ (List.mem_of_getElem? (i := 1) rfl)) (ty := (.object "java/util/Optional")) (by decide) rfl rfl g4 (hb hby d3_32) fun T9 h9 X9 W9 => ?_
  have Fw9 := f8_1.same W9
  have f9_0 : Exa Z h9 d "com/example/security_target_reader/securitytargetreader/Identification" := f8_0.wr W9
  have f9_1 : Fld Z h9 d "com/example/security_target_reader/securitytargetreader/Identification" "date" "Ljava/util/Optional;" .null := f8_2.other W9 (Or.inr (slot_ne (Or.inr (hw _ (List.mem_of_getElem? (i := 42) rfl))) (Or.inr (hw _ (List.mem_of_getElem? (i := 40) rfl))) (by decide) (t := (.object "java/util/Optional")) (t' := (.object "java/util/Optional")) (by decide) (by decide)))
  have f9_3 : Fld Z h9 d "com/example/security_target_reader/securitytargetreader/Identification" "title" "Ljava/util/Optional;" (.ref o1) := Fw8.other W9 (Or.inr (slot_ne (Or.inr (hw _ (List.mem_of_getElem? (i := 38) rfl))) (Or.inr (hw _ (List.mem_of_getElem? (i := 40) rfl))) (by decide) (t := (.object "java/util/Optional")) (t' := (.object "java/util/Optional")) (by decide) (by decide)))
  have sz9 : n0 ≤ h9.size := Nat.le_trans sz8 (Keep.of_wr W9).1
  have K9 : Keep h0 h9 [d] := K8.wr W9 (Or.inl (List.mem_of_getElem? (i := 0) rfl))
  show Go p e below _ T9 (mkF m 35 #[.val (.ref d), .val (.ref o1), .val (.ref o2), .val (.ref o3)] [])
  refine Go.st (T' := T9) (g' := (mkF m 36 #[.val (.ref d), .val (.ref o1), .val (.ref o2), .val (.ref o3)] [(.ref d)])) (fun t_ k_ => XS.aloadN X9.here hx rfl (hb hby d3_35) rfl rfl k_) ?_
  refine Go.st (T' := T9) (g' := (mkF m 37 #[.val (.ref d), .val (.ref o1), .val (.ref o2), .val (.ref o3)] [(.ref o3), (.ref d)])) (fun t_ k_ => XS.aloadN X9.here hx rfl (hb hby d3_36) rfl rfl k_) ?_
  refine S_goPut X9 hx hZ hown (host := "") (Or.inl (hw _ (List.mem_of_getElem? (i := 41) rfl))) Via.refl f9_1 f9_0 (Or.inr ⟨(hw _ (List.mem_of_getElem? (i := 42) rfl)), rfl, hnm⟩) (hw _ (List.mem_of_getElem? (i := 1) rfl)) (ty := (.object "java/util/Optional")) (by decide) rfl rfl g4 (hb hby d3_37) fun T10 h10 X10 W10 => ?_
  have Fw10 := f9_1.same W10
  have f10_0 : Exa Z h10 d "com/example/security_target_reader/securitytargetreader/Identification" := f9_0.wr W10
  have f10_2 : Fld Z h10 d "com/example/security_target_reader/securitytargetreader/Identification" "title" "Ljava/util/Optional;" (.ref o1) := f9_3.other W10 (Or.inr (slot_ne (Or.inr (hw _ (List.mem_of_getElem? (i := 38) rfl))) (Or.inr (hw _ (List.mem_of_getElem? (i := 42) rfl))) (by decide) (t := (.object "java/util/Optional")) (t' := (.object "java/util/Optional")) (by decide) (by decide)))
  have f10_3 : Fld Z h10 d "com/example/security_target_reader/securitytargetreader/Identification" "version" "Ljava/util/Optional;" (.ref o2) := Fw9.other W10 (Or.inr (slot_ne (Or.inr (hw _ (List.mem_of_getElem? (i := 40) rfl))) (Or.inr (hw _ (List.mem_of_getElem? (i := 42) rfl))) (by decide) (t := (.object "java/util/Optional")) (t' := (.object "java/util/Optional")) (by decide) (by decide)))
  have sz10 : n0 ≤ h10.size := Nat.le_trans sz9 (Keep.of_wr W10).1
  have K10 : Keep h0 h10 [d] := K9.wr W10 (Or.inl (List.mem_of_getElem? (i := 0) rfl))
  show Go p e below _ T10 (mkF m 40 #[.val (.ref d), .val (.ref o1), .val (.ref o2), .val (.ref o3)] [])
  refine S_goRetV X10 hx hlk hret (hb hby d3_40) (by decide) (by decide) ?_
  intro vm hW
  refine ⟨rfl, K10, f10_2, f10_3, Fw10⟩

theorem own_bit {k z : Int32} {v : Value} (hk : k = (if z = 0 then (0 : Int32) else 1)) (t : (k = 0 ∧ v = .null) ∨ (¬ k = 0 ∧ ∃ a, v = .ref a)) : (z = 0 ↔ v = .null) ∧ (v = .null ∨ ∃ a, v = .ref a) := by
  subst hk
  by_cases q : z = 0
  · rw [if_pos q] at t
    rcases t with ⟨-, t⟩ | ⟨t, -⟩
    · exact ⟨⟨fun _ => t, fun _ => q⟩, Or.inl t⟩
    · exact absurd rfl t
  · rw [if_neg q] at t
    rcases t with ⟨t, -⟩ | ⟨-, a, t⟩
    · exact absurd t (by decide)
    · exact ⟨⟨fun z => absurd z q, fun z => by rw [t] at z; cases z⟩, Or.inr ⟨a, t⟩⟩
theorem own_end {r x e : Int32} {v1 v2 v3 : Value} (hr : (r = 1 ∧ v1 = .null ∧ v2 = .null ∧ v3 = .null) ∨ (r = 0 ∧ ¬ (v1 = .null ∧ v2 = .null ∧ v3 = .null))) (h1 : x &&& 1 = 0 ↔ v1 = .null) (h2 : x &&& 2 = 0 ↔ v2 = .null) (h3 : x &&& 4 = 0 ↔ v3 = .null) (he : e = (if x &&& 7 = 0 then (1 : Int32) else 0)) : r = e := by
  subst he
  rcases hr with ⟨rfl, a, b, c⟩ | ⟨rfl, q⟩
  · rw [if_pos ((own_7 x).mpr ⟨h1.mpr a, h2.mpr b, h3.mpr c⟩)]
  · rw [if_neg fun z => q ⟨h1.mp ((own_7 x).mp z).1, h2.mp ((own_7 x).mp z).2.1, h3.mp ((own_7 x).mp z).2.2⟩]

theorem pn_0 : plainFor x = true := plainFor_of_name (by first | (simp [plainName, overriddenIn]; done) | decide +kernel)
theorem pd_71ea09d3 : parseMethodDescriptor "(ZI)Ljava/util/Optional;" = some ⟨[.boolean, .int], some (.object "java/util/Optional")⟩ := by decide +kernel
theorem pd_1fcebaad : parseMethodDescriptor "(Ljava/util/Optional;Ljava/util/Optional;Ljava/util/Optional;)V" = some ⟨[(.object "java/util/Optional"), (.object "java/util/Optional"), (.object "java/util/Optional")], none⟩ := by decide +kernel
theorem ef_rm0 (m : MethodId) (x0 : Int32) (x1 : Int32) (x2 : Int32) (x3 : Int32) : entryFrame m #[(.int x0), (.int x1), (.int x2), (.int x3)] maxLocals = mkF m 0 #[.val (.int x0), .val (.int x1), .val (.int x2), .val (.int x3), .unset, .unset] [] := by first | (simp [entryFrame, mkF, argsToLocals, Value.category, maxLocals]; done) | rfl
def Q0 (Z : State) (n0 : Nat) (h0 : Heap) (fl : Int32) (c0 : Int32) (c1 : Int32) (c2 : Int32) (ea : Addr) (cz : Int32) (v : Option Value) (h : Heap) (vm : Vm) : Prop := v = some (.int (1 : Int32))
set_option maxRecDepth 65536 in
set_option maxHeartbeats 40000000 in
theorem rm0 (l : Launch) (Z : State) (a0 : Array Value) (hw : ∀ d ∈ tables_1, d.before a0 Z = true) (ws : List Jvm.Cond) (n0 : Nat) (h0 : Heap) (fl : Int32) (c0 : Int32) (c1 : Int32) (c2 : Int32) (ea : Addr) (cz : Int32) (sz0 : n0 ≤ h0.size) (g0 : Sta Z h0 "java/util/Optional" "EMPTY" "Ljava/util/Optional;" (.ref ea)) (g1 : Exa Z h0 ea "java/util/Optional") (g2 : Fld Z h0 ea "java/util/Optional" "value" "Ljava/lang/Object;" .null) (g3 : Sta Z h0 "java/lang/String" "COMPACT_STRINGS" "Z" (.int cz)) (g4 : Old Z n0 h0) (hheld : Jvm.Lit.constHeld Z "java/lang/String" 7) (hcw : Jvm.Lit.compactW.before a0 Z = true) (hcz : ¬ cz = 0) :
    S_Con l x code maxLocals ret room_1 ws Z (fun vm => LitOk Z h0 vm) n0 #[(.int fl), (.int c0), (.int c1), (.int c2)] h0 (Q0 Z n0 h0 fl c0 c1 c2 ea cz) := by
  refine S_Con.body pn_0 ?_
  intro p e s m below meth c s₁ hx hby hml hown hnm hret hlk hZ hh hj X00
  have X0 := X00 n0
  have hj : LitOk Z h0 s.vm := hj
  have hown : s.vm.findClass "com/example/security_target_reader/securitytargetreader/IdentificationIsEmptyPinLaw" = some m.cls := hown
  have hnm : meth.name = "law" := hnm
  have hml : c.maxLocals = 6 := hml
  have hret : meth.sig.returnType = some .boolean := hret
  rw [show entryFrame m #[(.int fl), (.int c0), (.int c1), (.int c2)] maxLocals = mkF m 0 #[.val (.int fl), .val (.int c0), .val (.int c1), .val (.int c2), .unset, .unset] [] from ef_rm0 m fl c0 c1 c2]
  show Go p e below (S_PostW s n0 room_1.cells room_1.slots (Q0 Z n0 h0 fl c0 c1 c2 ea cz)) s₁ (mkF m 0 #[.val (.int fl), .val (.int c0), .val (.int c1), .val (.int c2), .unset, .unset] [])
  refine S_goNew X0 hx hZ hown (hw _ (List.mem_of_getElem? (i := 0) rfl)) (hw _ (List.mem_of_getElem? (i := 1) rfl)) (hw _ (List.mem_of_getElem? (i := 2) rfl)) (hb hby at_0) (by decide) (by decide) fun T1 h1 d gb1 X1 E1 A1 D1 => ?_
  have ge1 : n0 ≤ d := gb1 ▸ sz0
  have ne1_ea : ea ≠ d := gb1 ▸ Nat.ne_of_lt g1.lt
  have f1_0 : Sta Z h1 "java/util/Optional" "EMPTY" "Ljava/util/Optional;" (.ref ea) := g0.ext E1
  have f1_1 : Exa Z h1 ea "java/util/Optional" := g1.ext E1
  have f1_2 : Fld Z h1 ea "java/util/Optional" "value" "Ljava/lang/Object;" .null := g2.ext E1
  have f1_3 : Sta Z h1 "java/lang/String" "COMPACT_STRINGS" "Z" (.int cz) := g3.ext E1
  have f1_4 : Old Z n0 h1 := g4.ext E1
  have sz1 : n0 ≤ h1.size := Nat.le_trans sz0 E1.1
  have J1 : LitOk Z h1 s.vm := hj.ext E1
  have F1_title : Fld Z h1 d "com/example/security_target_reader/securitytargetreader/Identification" "title" "Ljava/util/Optional;" .null := D1 (Or.inr (hw _ (List.mem_of_getElem? (i := 38) rfl))) (ty := (.object "java/util/Optional")) (by decide)
  have F1_version : Fld Z h1 d "com/example/security_target_reader/securitytargetreader/Identification" "version" "Ljava/util/Optional;" .null := D1 (Or.inr (hw _ (List.mem_of_getElem? (i := 40) rfl))) (ty := (.object "java/util/Optional")) (by decide)
  have F1_date : Fld Z h1 d "com/example/security_target_reader/securitytargetreader/Identification" "date" "Ljava/util/Optional;" .null := D1 (Or.inr (hw _ (List.mem_of_getElem? (i := 42) rfl))) (ty := (.object "java/util/Optional")) (by decide)
  show Go p e below _ T1 (mkF m 3 #[.val (.int fl), .val (.int c0), .val (.int c1), .val (.int c2), .unset, .unset] [(.ref d)])
  refine Go.st (T' := T1) (g' := (mkF m 4 #[.val (.int fl), .val (.int c0), .val (.int c1), .val (.int c2), .unset, .unset] [(.ref d), (.ref d)])) (fun t_ k_ => XS.dup X1.here hx rfl (hb hby at_3) rfl rfl k_) ?_
  refine Go.st (T' := T1) (g' := (mkF m 5 #[.val (.int fl), .val (.int c0), .val (.int c1), .val (.int c2), .unset, .unset] [(.int fl), (.ref d), (.ref d)])) (fun t_ k_ => XS.iloadN X1.here hx rfl (hb hby at_4) rfl k_) ?_
  refine Go.st (T' := T1) (g' := (mkF m 6 #[.val (.int fl), .val (.int c0), .val (.int c1), .val (.int c2), .unset, .unset] [(.int (1 : Int32)), (.int fl), (.ref d), (.ref d)])) (fun t_ k_ => XS.iconst X1.here hx rfl (hb hby at_5) k_) ?_
  refine Go.st (T' := T1) (g' := (mkF m 7 #[.val (.int fl), .val (.int c0), .val (.int c1), .val (.int c2), .unset, .unset] [(.int (fl &&& (1 : Int32))), (.ref d), (.ref d)])) (fun t_ k_ => XS.iand X1.here hx rfl (hb hby at_6) rfl k_) ?_
  have J15_2 : ∀ (k1 : Int32), k1 = (if (fl &&& (1 : Int32)) = (0 : Int32) then (0 : Int32) else (1 : Int32)) → Go p e below (S_PostW s n0 room_1.cells room_1.slots (Q0 Z n0 h0 fl c0 c1 c2 ea cz)) T1 (mkF m 15 #[.val (.int fl), .val (.int c0), .val (.int c1), .val (.int c2), .unset, .unset] [(.int k1), (.ref d), (.ref d)]) := by
    intro k1 h_k1
    refine Go.st (T' := T1) (g' := (mkF m 16 #[.val (.int fl), .val (.int c0), .val (.int c1), .val (.int c2), .unset, .unset] [(.int c0), (.int k1), (.ref d), (.ref d)])) (fun t_ k_ => XS.iloadN X1.here hx rfl (hb hby at_15) rfl k_) ?_
    refine S_goStaticS X1 hx hZ (y := (⟨"com/example/security_target_reader/securitytargetreader/IdentificationIsEmptyPinLaw", "field", "(ZI)Ljava/util/Optional;"⟩ : MethodName)) hown (hw _ (List.mem_of_getElem? (i := 3) rfl)) (hw _ (List.mem_of_getElem? (i := 4) rfl)) (hw _ (List.mem_of_getElem? (i := 5) rfl)) (hw _ (List.mem_of_getElem? (i := 6) rfl)) (by decide) (rm1 l Z a0 hw [] n0 h1 k1 c0 ea cz sz1 f1_0 f1_1 f1_2 f1_3 f1_4 (by first | assumption | omega | simp_all) (by first | assumption | omega | simp_all) (hcz)) (fun vm hW => LitOk.vm J1 hW) 2 (by decide) (by decide) (by rw [hml]; rfl) [(.int k1), (.int c0)] [(.ref d), (.ref d)] (lenOf pd_71ea09d3 rfl) rfl rfl rfl (hb hby at_16) (by decide) (by decide) fun v3 T3 h3 vm3 X3 hq3 => ?_
    obtain ⟨o1, v1, rfl, K3c, p3_0, p3_1, t1, hj_3⟩ := hq3
    have f3_0 : Sta Z h3 "java/util/Optional" "EMPTY" "Ljava/util/Optional;" (.ref ea) := sta_keep f1_0 K3c all0
    have f3_1 : Exa Z h3 ea "java/util/Optional" := f1_1.keep K3c
    have f3_2 : Fld Z h3 ea "java/util/Optional" "value" "Ljava/lang/Object;" .null := f1_2.keep K3c nin0
    have f3_3 : Sta Z h3 "java/lang/String" "COMPACT_STRINGS" "Z" (.int cz) := sta_keep f1_3 K3c all0
    have f3_4 : Old Z n0 h3 := f1_4.keep K3c all0
    have f3_7 : Exa Z h3 d "com/example/security_target_reader/securitytargetreader/Identification" := A1.keep K3c
    have f3_8 : Fld Z h3 d "com/example/security_target_reader/securitytargetreader/Identification" "title" "Ljava/util/Optional;" .null := F1_title.keep K3c nin0
    have f3_9 : Fld Z h3 d "com/example/security_target_reader/securitytargetreader/Identification" "version" "Ljava/util/Optional;" .null := F1_version.keep K3c nin0
    have f3_10 : Fld Z h3 d "com/example/security_target_reader/securitytargetreader/Identification" "date" "Ljava/util/Optional;" .null := F1_date.keep K3c nin0
    have sz3 : n0 ≤ h3.size := Nat.le_trans sz1 K3c.1
    show Go p e below _ T3 (mkF m 19 #[.val (.int fl), .val (.int c0), .val (.int c1), .val (.int c2), .unset, .unset] [(.ref o1), (.ref d), (.ref d)])
    refine Go.st (T' := T3) (g' := (mkF m 20 #[.val (.int fl), .val (.int c0), .val (.int c1), .val (.int c2), .unset, .unset] [(.int fl), (.ref o1), (.ref d), (.ref d)])) (fun t_ k_ => XS.iloadN X3.here hx rfl (hb hby at_19) rfl k_) ?_
    refine Go.st (T' := T3) (g' := (mkF m 21 #[.val (.int fl), .val (.int c0), .val (.int c1), .val (.int c2), .unset, .unset] [(.int (2 : Int32)), (.int fl), (.ref o1), (.ref d), (.ref d)])) (fun t_ k_ => XS.iconst X3.here hx rfl (hb hby at_20) k_) ?_
    refine Go.st (T' := T3) (g' := (mkF m 22 #[.val (.int fl), .val (.int c0), .val (.int c1), .val (.int c2), .unset, .unset] [(.int (fl &&& (2 : Int32))), (.ref o1), (.ref d), (.ref d)])) (fun t_ k_ => XS.iand X3.here hx rfl (hb hby at_21) rfl k_) ?_
    have J30_4 : ∀ (k2 : Int32), k2 = (if (fl &&& (2 : Int32)) = (0 : Int32) then (0 : Int32) else (1 : Int32)) → Go p e below (S_PostW s n0 room_1.cells room_1.slots (Q0 Z n0 h0 fl c0 c1 c2 ea cz)) T3 (mkF m 30 #[.val (.int fl), .val (.int c0), .val (.int c1), .val (.int c2), .unset, .unset] [(.int k2), (.ref o1), (.ref d), (.ref d)]) := by
      intro k2 h_k2
      refine Go.st (T' := T3) (g' := (mkF m 31 #[.val (.int fl), .val (.int c0), .val (.int c1), .val (.int c2), .unset, .unset] [(.int c1), (.int k2), (.ref o1), (.ref d), (.ref d)])) (fun t_ k_ => XS.iloadN X3.here hx rfl (hb hby at_30) rfl k_) ?_
      refine S_goStaticS X3 hx hZ (y := (⟨"com/example/security_target_reader/securitytargetreader/IdentificationIsEmptyPinLaw", "field", "(ZI)Ljava/util/Optional;"⟩ : MethodName)) hown (hw _ (List.mem_of_getElem? (i := 3) rfl)) (hw _ (List.mem_of_getElem? (i := 4) rfl)) (hw _ (List.mem_of_getElem? (i := 5) rfl)) (hw _ (List.mem_of_getElem? (i := 6) rfl)) (by decide) (rm1 l Z a0 hw [] n0 h3 k2 c1 ea cz sz3 f3_0 f3_1 f3_2 f3_3 f3_4 (by first | assumption | omega | simp_all) (by first | assumption | omega | simp_all) (hcz)) (fun vm hW => LitOk.vm hj_3 hW) 3 (by decide) (by decide) (by rw [hml]; rfl) [(.int k2), (.int c1)] [(.ref o1), (.ref d), (.ref d)] (lenOf pd_71ea09d3 rfl) rfl rfl rfl (hb hby at_31) (by decide) (by decide) fun v5 T5 h5 vm5 X5 hq5 => ?_
      obtain ⟨o2, v2, rfl, K5c, p5_0, p5_1, t2, hj_5⟩ := hq5
      have f5_0 : Sta Z h5 "java/util/Optional" "EMPTY" "Ljava/util/Optional;" (.ref ea) := sta_keep f3_0 K5c all0
      have f5_1 : Exa Z h5 ea "java/util/Optional" := f3_1.keep K5c
      have f5_2 : Fld Z h5 ea "java/util/Optional" "value" "Ljava/lang/Object;" .null := f3_2.keep K5c nin0
      have f5_3 : Sta Z h5 "java/lang/String" "COMPACT_STRINGS" "Z" (.int cz) := sta_keep f3_3 K5c all0
      have f5_4 : Old Z n0 h5 := f3_4.keep K5c all0
      have f5_7 : Exa Z h5 d "com/example/security_target_reader/securitytargetreader/Identification" := f3_7.keep K5c
      have f5_8 : Fld Z h5 d "com/example/security_target_reader/securitytargetreader/Identification" "title" "Ljava/util/Optional;" .null := f3_8.keep K5c nin0
      have f5_9 : Fld Z h5 d "com/example/security_target_reader/securitytargetreader/Identification" "version" "Ljava/util/Optional;" .null := f3_9.keep K5c nin0
      have f5_10 : Fld Z h5 d "com/example/security_target_reader/securitytargetreader/Identification" "date" "Ljava/util/Optional;" .null := f3_10.keep K5c nin0
      have f5_11 : Exa Z h5 o1 "java/util/Optional" := p3_0.keep K5c
      have f5_12 : Fld Z h5 o1 "java/util/Optional" "value" "Ljava/lang/Object;" v1 := p3_1.keep K5c nin0
      have sz5 : n0 ≤ h5.size := Nat.le_trans sz3 K5c.1
      show Go p e below _ T5 (mkF m 34 #[.val (.int fl), .val (.int c0), .val (.int c1), .val (.int c2), .unset, .unset] [(.ref o2), (.ref o1), (.ref d), (.ref d)])
      refine Go.st (T' := T5) (g' := (mkF m 35 #[.val (.int fl), .val (.int c0), .val (.int c1), .val (.int c2), .unset, .unset] [(.int fl), (.ref o2), (.ref o1), (.ref d), (.ref d)])) (fun t_ k_ => XS.iloadN X5.here hx rfl (hb hby at_34) rfl k_) ?_
      refine Go.st (T' := T5) (g' := (mkF m 36 #[.val (.int fl), .val (.int c0), .val (.int c1), .val (.int c2), .unset, .unset] [(.int (4 : Int32)), (.int fl), (.ref o2), (.ref o1), (.ref d), (.ref d)])) (fun t_ k_ => XS.iconst X5.here hx rfl (hb hby at_35) k_) ?_
      refine Go.st (T' := T5) (g' := (mkF m 37 #[.val (.int fl), .val (.int c0), .val (.int c1), .val (.int c2), .unset, .unset] [(.int (fl &&& (4 : Int32))), (.ref o2), (.ref o1), (.ref d), (.ref d)])) (fun t_ k_ => XS.iand X5.here hx rfl (hb hby at_36) rfl k_) ?_
      have J45_6 : ∀ (k3 : Int32), k3 = (if (fl &&& (4 : Int32)) = (0 : Int32) then (0 : Int32) else (1 : Int32)) → Go p e below (S_PostW s n0 room_1.cells room_1.slots (Q0 Z n0 h0 fl c0 c1 c2 ea cz)) T5 (mkF m 45 #[.val (.int fl), .val (.int c0), .val (.int c1), .val (.int c2), .unset, .unset] [(.int k3), (.ref o2), (.ref o1), (.ref d), (.ref d)]) := by
        intro k3 h_k3
        refine Go.st (T' := T5) (g' := (mkF m 46 #[.val (.int fl), .val (.int c0), .val (.int c1), .val (.int c2), .unset, .unset] [(.int c2), (.int k3), (.ref o2), (.ref o1), (.ref d), (.ref d)])) (fun t_ k_ => XS.iloadN X5.here hx rfl (hb hby at_45) rfl k_) ?_
        refine S_goStaticS X5 hx hZ (y := (⟨"com/example/security_target_reader/securitytargetreader/IdentificationIsEmptyPinLaw", "field", "(ZI)Ljava/util/Optional;"⟩ : MethodName)) hown (hw _ (List.mem_of_getElem? (i := 3) rfl)) (hw _ (List.mem_of_getElem? (i := 4) rfl)) (hw _ (List.mem_of_getElem? (i := 5) rfl)) (hw _ (List.mem_of_getElem? (i := 6) rfl)) (by decide) (rm1 l Z a0 hw [] n0 h5 k3 c2 ea cz sz5 f5_0 f5_1 f5_2 f5_3 f5_4 (by first | assumption | omega | simp_all) (by first | assumption | omega | simp_all) (hcz)) (fun vm hW => LitOk.vm hj_5 hW) 4 (by decide) (by decide) (by rw [hml]; rfl) [(.int k3), (.int c2)] [(.ref o2), (.ref o1), (.ref d), (.ref d)] (lenOf pd_71ea09d3 rfl) rfl rfl rfl (hb hby at_46) (by decide) (by decide) fun v7 T7 h7 vm7 X7 hq7 => ?_
        obtain ⟨o3, v3, rfl, K7c, p7_0, p7_1, t3, hj_7⟩ := hq7
        have f7_0 : Sta Z h7 "java/util/Optional" "EMPTY" "Ljava/util/Optional;" (.ref ea) := sta_keep f5_0 K7c all0
        have f7_1 : Exa Z h7 ea "java/util/Optional" := f5_1.keep K7c
        have f7_2 : Fld Z h7 ea "java/util/Optional" "value" "Ljava/lang/Object;" .null := f5_2.keep K7c nin0
        have f7_3 : Sta Z h7 "java/lang/String" "COMPACT_STRINGS" "Z" (.int cz) := sta_keep f5_3 K7c all0
        have f7_4 : Old Z n0 h7 := f5_4.keep K7c all0
        have f7_7 : Exa Z h7 d "com/example/security_target_reader/securitytargetreader/Identification" := f5_7.keep K7c
        have f7_8 : Fld Z h7 d "com/example/security_target_reader/securitytargetreader/Identification" "title" "Ljava/util/Optional;" .null := f5_8.keep K7c nin0
        have f7_9 : Fld Z h7 d "com/example/security_target_reader/securitytargetreader/Identification" "version" "Ljava/util/Optional;" .null := f5_9.keep K7c nin0
        have f7_10 : Fld Z h7 d "com/example/security_target_reader/securitytargetreader/Identification" "date" "Ljava/util/Optional;" .null := f5_10.keep K7c nin0
        have f7_11 : Exa Z h7 o1 "java/util/Optional" := f5_11.keep K7c
        have f7_12 : Fld Z h7 o1 "java/util/Optional" "value" "Ljava/lang/Object;" v1 := f5_12.keep K7c nin0
        have f7_13 : Exa Z h7 o2 "java/util/Optional" := p5_0.keep K7c
        have f7_14 : Fld Z h7 o2 "java/util/Optional" "value" "Ljava/lang/Object;" v2 := p5_1.keep K7c nin0
        have sz7 : n0 ≤ h7.size := Nat.le_trans sz5 K7c.1
        show Go p e below _ T7 (mkF m 49 #[.val (.int fl), .val (.int c0), .val (.int c1), .val (.int c2), .unset, .unset] [(.ref o3), (.ref o2), (.ref o1), (.ref d), (.ref d)])
        refine S_goCtorS X7 hx hZ (y := (⟨"com/example/security_target_reader/securitytargetreader/Identification", "<init>", "(Ljava/util/Optional;Ljava/util/Optional;Ljava/util/Optional;)V"⟩ : MethodName)) rfl hown (hw _ (List.mem_of_getElem? (i := 12) rfl)) (hw _ (List.mem_of_getElem? (i := 13) rfl)) (hw _ (List.mem_of_getElem? (i := 2) rfl)) (hw _ (List.mem_of_getElem? (i := 14) rfl)) (by decide) (rm3 l Z a0 hw [] n0 h7 d o1 o2 o3 sz7 f7_7 f7_8 f7_9 f7_10 ge1) (fun vm hW => trivial) 1 (by decide) (by decide) (by rw [hml]; rfl) d [(.ref o1), (.ref o2), (.ref o3)] [(.ref d)] (lenOf pd_1fcebaad rfl) rfl rfl rfl (hb hby at_49) (by decide) (by decide) fun v8 T8 h8 vm8 X8 hq8 => ?_
        obtain ⟨rfl, K8c, p8_0, p8_1, p8_2⟩ := hq8
        have f8_0 : Sta Z h8 "java/util/Optional" "EMPTY" "Ljava/util/Optional;" (.ref ea) := sta_keep f7_0 K8c (allS ⟨_, f7_7⟩ all0)
        have f8_1 : Exa Z h8 ea "java/util/Optional" := f7_1.keep K8c
        have f8_2 : Fld Z h8 ea "java/util/Optional" "value" "Ljava/lang/Object;" .null := f7_2.keep K8c (ninS ne1_ea nin0)
        have f8_3 : Sta Z h8 "java/lang/String" "COMPACT_STRINGS" "Z" (.int cz) := sta_keep f7_3 K8c (allS ⟨_, f7_7⟩ all0)
        have f8_4 : Old Z n0 h8 := f7_4.keep K8c (allS ge1 all0)
        have f8_7 : Exa Z h8 d "com/example/security_target_reader/securitytargetreader/Identification" := f7_7.keep K8c
        have f8_8 : Exa Z h8 o1 "java/util/Optional" := f7_11.keep K8c
        have f8_9 : Fld Z h8 o1 "java/util/Optional" "value" "Ljava/lang/Object;" v1 := f7_12.keep K8c (ninS (ne_exa f7_11 f7_7 (by decide)) nin0)
        have f8_10 : Exa Z h8 o2 "java/util/Optional" := f7_13.keep K8c
        have f8_11 : Fld Z h8 o2 "java/util/Optional" "value" "Ljava/lang/Object;" v2 := f7_14.keep K8c (ninS (ne_exa f7_13 f7_7 (by decide)) nin0)
        have f8_12 : Exa Z h8 o3 "java/util/Optional" := p7_0.keep K8c
        have f8_13 : Fld Z h8 o3 "java/util/Optional" "value" "Ljava/lang/Object;" v3 := p7_1.keep K8c (ninS (ne_exa p7_0 f7_7 (by decide)) nin0)
        have sz8 : n0 ≤ h8.size := Nat.le_trans sz7 K8c.1
        show Go p e below _ T8 (mkF m 52 #[.val (.int fl), .val (.int c0), .val (.int c1), .val (.int c2), .unset, .unset] [(.ref d)])
        refine Go.st (T' := T8) (g' := (mkF m 54 #[.val (.int fl), .val (.int c0), .val (.int c1), .val (.int c2), .val (.ref d), .unset] [])) (fun t_ k_ => XS.astore X8.here hx rfl (hb hby at_52) rfl rfl (l' := #[.val (.int fl), .val (.int c0), .val (.int c1), .val (.int c2), .val (.ref d), .unset]) rfl k_) ?_
        refine Go.st (T' := T8) (g' := (mkF m 55 #[.val (.int fl), .val (.int c0), .val (.int c1), .val (.int c2), .val (.ref d), .unset] [(.int fl)])) (fun t_ k_ => XS.iloadN X8.here hx rfl (hb hby at_54) rfl k_) ?_
        refine Go.st (T' := T8) (g' := (mkF m 57 #[.val (.int fl), .val (.int c0), .val (.int c1), .val (.int c2), .val (.ref d), .unset] [(.int (7 : Int32)), (.int fl)])) (fun t_ k_ => XS.bipush X8.here hx rfl (hb hby at_55) k_) ?_
        refine Go.st (T' := T8) (g' := (mkF m 58 #[.val (.int fl), .val (.int c0), .val (.int c1), .val (.int c2), .val (.ref d), .unset] [(.int (fl &&& (7 : Int32)))])) (fun t_ k_ => XS.iand X8.here hx rfl (hb hby at_57) rfl k_) ?_
        have J66_9 : ∀ (ex : Int32), ex = (if (fl &&& (7 : Int32)) = (0 : Int32) then (1 : Int32) else (0 : Int32)) → Go p e below (S_PostW s n0 room_1.cells room_1.slots (Q0 Z n0 h0 fl c0 c1 c2 ea cz)) T8 (mkF m 66 #[.val (.int fl), .val (.int c0), .val (.int c1), .val (.int c2), .val (.ref d), .unset] [(.int ex)]) := by
          intro ex h_ex
          refine Go.st (T' := T8) (g' := (mkF m 68 #[.val (.int fl), .val (.int c0), .val (.int c1), .val (.int c2), .val (.ref d), .val (.int ex)] [])) (fun t_ k_ => XS.istore X8.here hx rfl (hb hby at_66) rfl (l' := #[.val (.int fl), .val (.int c0), .val (.int c1), .val (.int c2), .val (.ref d), .val (.int ex)]) rfl k_) ?_
          refine Go.st (T' := T8) (g' := (mkF m 70 #[.val (.int fl), .val (.int c0), .val (.int c1), .val (.int c2), .val (.ref d), .val (.int ex)] [(.ref d)])) (fun t_ k_ => XS.aload X8.here hx rfl (hb hby at_68) rfl rfl k_) ?_
          refine S_goVirtS X8 hx hZ (y := (⟨"com/example/security_target_reader/securitytargetreader/Identification", "isEmpty", "()Z"⟩ : MethodName)) hown (hw _ (List.mem_of_getElem? (i := 43) rfl)) (hw _ (List.mem_of_getElem? (i := 44) rfl)) (hw _ (List.mem_of_getElem? (i := 46) rfl)) (hw _ (List.mem_of_getElem? (i := 45) rfl)) (hw _ (List.mem_of_getElem? (i := 2) rfl)) (hw _ (List.mem_of_getElem? (i := 47) rfl)) (by decide) f8_7 (rm7 l Z a0 hw [] n0 h8 d o1 o2 o3 v1 v2 v3 sz8 f8_7 p8_0 p8_1 p8_2 f8_8 f8_10 f8_12 f8_9 f8_11 f8_13 ((own_bit h_k1 t1).2) ((own_bit h_k2 t2).2) ((own_bit h_k3 t3).2)) (by intro _ _ hq; obtain ⟨_, _, q, _⟩ := hq; exact Nat.le_of_eq (congrArg Array.size q.symm)) 0 (by decide) (by decide) (by rw [hml]; rfl) [] [] (lenOf pd_06e7e94b rfl) rfl rfl rfl (hb hby at_70) (by decide) (by decide) fun v10 T10 h10 X10 hq10 => ?_
          obtain ⟨r, rfl, eh10, hr⟩ := hq10
          rw [eh10] at X10
          show Go p e below _ T10 (mkF m 73 #[.val (.int fl), .val (.int c0), .val (.int c1), .val (.int c2), .val (.ref d), .val (.int ex)] [(.int r)])
          refine Go.st (T' := T10) (g' := (mkF m 75 #[.val (.int fl), .val (.int c0), .val (.int c1), .val (.int c2), .val (.ref d), .val (.int ex)] [(.int ex), (.int r)])) (fun t_ k_ => XS.iload X10.here hx rfl (hb hby at_73) rfl k_) ?_
          have hc75 : r = ex := own_end hr (own_bit h_k1 t1).1 (own_bit h_k2 t2).1 (own_bit h_k3 t3).1 h_ex
          refine Go.st (T' := T10) (g' := (mkF m 78 #[.val (.int fl), .val (.int c0), .val (.int c1), .val (.int c2), .val (.ref d), .val (.int ex)] [])) (fun t_ k_ => XS.icmpNo X10.here hx rfl (hb hby at_75) rfl (teq hc75).2 k_) ?_
          refine Go.st (T' := T10) (g' := (mkF m 79 #[.val (.int fl), .val (.int c0), .val (.int c1), .val (.int c2), .val (.ref d), .val (.int ex)] [(.int (1 : Int32))])) (fun t_ k_ => XS.iconst X10.here hx rfl (hb hby at_78) k_) ?_
          refine Go.st (T' := T10) (g' := (mkF m 83 #[.val (.int fl), .val (.int c0), .val (.int c1), .val (.int c2), .val (.ref d), .val (.int ex)] [(.int (1 : Int32))])) (fun t_ k_ => XS.goto X10.here hx rfl (pc0 := 79) (pc' := 83) rfl (hb hby at_79) (by decide) (by decide) k_) ?_
          refine S_goRetZ X10 hx hlk hret (hb hby at_83) (by decide) (by decide) (Or.inr rfl) ?_
          intro vm hW
          exact rfl
        by_cases hc58 : (fl &&& (7 : Int32)) = (0 : Int32)
        · skip
          refine Go.st (T' := T8) (g' := (mkF m 61 #[.val (.int fl), .val (.int c0), .val (.int c1), .val (.int c2), .val (.ref d), .unset] [])) (fun t_ k_ => XS.ifNo X8.here hx rfl (hb hby at_58) rfl ((if0 _ _).trans (teq hc58).2) k_) ?_
          refine Go.st (T' := T8) (g' := (mkF m 62 #[.val (.int fl), .val (.int c0), .val (.int c1), .val (.int c2), .val (.ref d), .unset] [(.int (1 : Int32))])) (fun t_ k_ => XS.iconst X8.here hx rfl (hb hby at_61) k_) ?_
          refine Go.st (T' := T8) (g' := (mkF m 66 #[.val (.int fl), .val (.int c0), .val (.int c1), .val (.int c2), .val (.ref d), .unset] [(.int (1 : Int32))])) (fun t_ k_ => XS.goto X8.here hx rfl (pc0 := 62) (pc' := 66) rfl (hb hby at_62) (by decide) (by decide) k_) ?_
          exact J66_9 (1 : Int32) (by rw [if_pos hc58])
        · skip
          refine Go.st (T' := T8) (g' := (mkF m 65 #[.val (.int fl), .val (.int c0), .val (.int c1), .val (.int c2), .val (.ref d), .unset] [])) (fun t_ k_ => XS.ifYes X8.here hx rfl (pc0 := 58) (pc' := 65) rfl (hb hby at_58) rfl ((if0 _ _).trans (feq hc58).2) (by decide) (by decide) k_) ?_
          refine Go.st (T' := T8) (g' := (mkF m 66 #[.val (.int fl), .val (.int c0), .val (.int c1), .val (.int c2), .val (.ref d), .unset] [(.int (0 : Int32))])) (fun t_ k_ => XS.iconst X8.here hx rfl (hb hby at_65) k_) ?_
          exact J66_9 (0 : Int32) (by rw [if_neg hc58])
      by_cases hc37 : (fl &&& (4 : Int32)) = (0 : Int32)
      · skip
        refine Go.st (T' := T5) (g' := (mkF m 44 #[.val (.int fl), .val (.int c0), .val (.int c1), .val (.int c2), .unset, .unset] [(.ref o2), (.ref o1), (.ref d), (.ref d)])) (fun t_ k_ => XS.ifYes X5.here hx rfl (pc0 := 37) (pc' := 44) rfl (hb hby at_37) rfl ((if0 _ _).trans (teq hc37).1) (by decide) (by decide) k_) ?_
        refine Go.st (T' := T5) (g' := (mkF m 45 #[.val (.int fl), .val (.int c0), .val (.int c1), .val (.int c2), .unset, .unset] [(.int (0 : Int32)), (.ref o2), (.ref o1), (.ref d), (.ref d)])) (fun t_ k_ => XS.iconst X5.here hx rfl (hb hby at_44) k_) ?_
        exact J45_6 (0 : Int32) (by rw [if_pos hc37])
      · skip
        refine Go.st (T' := T5) (g' := (mkF m 40 #[.val (.int fl), .val (.int c0), .val (.int c1), .val (.int c2), .unset, .unset] [(.ref o2), (.ref o1), (.ref d), (.ref d)])) (fun t_ k_ => XS.ifNo X5.here hx rfl (hb hby at_37) rfl ((if0 _ _).trans (feq hc37).1) k_) ?_
        refine Go.st (T' := T5) (g' := (mkF m 41 #[.val (.int fl), .val (.int c0), .val (.int c1), .val (.int c2), .unset, .unset] [(.int (1 : Int32)), (.ref o2), (.ref o1), (.ref d), (.ref d)])) (fun t_ k_ => XS.iconst X5.here hx rfl (hb hby at_40) k_) ?_
        refine Go.st (T' := T5) (g' := (mkF m 45 #[.val (.int fl), .val (.int c0), .val (.int c1), .val (.int c2), .unset, .unset] [(.int (1 : Int32)), (.ref o2), (.ref o1), (.ref d), (.ref d)])) (fun t_ k_ => XS.goto X5.here hx rfl (pc0 := 41) (pc' := 45) rfl (hb hby at_41) (by decide) (by decide) k_) ?_
        exact J45_6 (1 : Int32) (by rw [if_neg hc37])
    by_cases hc22 : (fl &&& (2 : Int32)) = (0 : Int32)
    · skip
      refine Go.st (T' := T3) (g' := (mkF m 29 #[.val (.int fl), .val (.int c0), .val (.int c1), .val (.int c2), .unset, .unset] [(.ref o1), (.ref d), (.ref d)])) (fun t_ k_ => XS.ifYes X3.here hx rfl (pc0 := 22) (pc' := 29) rfl (hb hby at_22) rfl ((if0 _ _).trans (teq hc22).1) (by decide) (by decide) k_) ?_
      refine Go.st (T' := T3) (g' := (mkF m 30 #[.val (.int fl), .val (.int c0), .val (.int c1), .val (.int c2), .unset, .unset] [(.int (0 : Int32)), (.ref o1), (.ref d), (.ref d)])) (fun t_ k_ => XS.iconst X3.here hx rfl (hb hby at_29) k_) ?_
      exact J30_4 (0 : Int32) (by rw [if_pos hc22])
    · skip
      refine Go.st (T' := T3) (g' := (mkF m 25 #[.val (.int fl), .val (.int c0), .val (.int c1), .val (.int c2), .unset, .unset] [(.ref o1), (.ref d), (.ref d)])) (fun t_ k_ => XS.ifNo X3.here hx rfl (hb hby at_22) rfl ((if0 _ _).trans (feq hc22).1) k_) ?_
      refine Go.st (T' := T3) (g' := (mkF m 26 #[.val (.int fl), .val (.int c0), .val (.int c1), .val (.int c2), .unset, .unset] [(.int (1 : Int32)), (.ref o1), (.ref d), (.ref d)])) (fun t_ k_ => XS.iconst X3.here hx rfl (hb hby at_25) k_) ?_
      refine Go.st (T' := T3) (g' := (mkF m 30 #[.val (.int fl), .val (.int c0), .val (.int c1), .val (.int c2), .unset, .unset] [(.int (1 : Int32)), (.ref o1), (.ref d), (.ref d)])) (fun t_ k_ => XS.goto X3.here hx rfl (pc0 := 26) (pc' := 30) rfl (hb hby at_26) (by decide) (by decide) k_) ?_
      exact J30_4 (1 : Int32) (by rw [if_neg hc22])
  by_cases hc7 : (fl &&& (1 : Int32)) = (0 : Int32)
  · skip
    refine Go.st (T' := T1) (g' := (mkF m 14 #[.val (.int fl), .val (.int c0), .val (.int c1), .val (.int c2), .unset, .unset] [(.ref d), (.ref d)])) (fun t_ k_ => XS.ifYes X1.here hx rfl (pc0 := 7) (pc' := 14) rfl (hb hby at_7) rfl ((if0 _ _).trans (teq hc7).1) (by decide) (by decide) k_) ?_
    refine Go.st (T' := T1) (g' := (mkF m 15 #[.val (.int fl), .val (.int c0), .val (.int c1), .val (.int c2), .unset, .unset] [(.int (0 : Int32)), (.ref d), (.ref d)])) (fun t_ k_ => XS.iconst X1.here hx rfl (hb hby at_14) k_) ?_
    exact J15_2 (0 : Int32) (by rw [if_pos hc7])
  · skip
    refine Go.st (T' := T1) (g' := (mkF m 10 #[.val (.int fl), .val (.int c0), .val (.int c1), .val (.int c2), .unset, .unset] [(.ref d), (.ref d)])) (fun t_ k_ => XS.ifNo X1.here hx rfl (hb hby at_7) rfl ((if0 _ _).trans (feq hc7).1) k_) ?_
    refine Go.st (T' := T1) (g' := (mkF m 11 #[.val (.int fl), .val (.int c0), .val (.int c1), .val (.int c2), .unset, .unset] [(.int (1 : Int32)), (.ref d), (.ref d)])) (fun t_ k_ => XS.iconst X1.here hx rfl (hb hby at_10) k_) ?_
    refine Go.st (T' := T1) (g' := (mkF m 15 #[.val (.int fl), .val (.int c0), .val (.int c1), .val (.int c2), .unset, .unset] [(.int (1 : Int32)), (.ref d), (.ref d)])) (fun t_ k_ => XS.goto X1.here hx rfl (pc0 := 11) (pc' := 15) rfl (hb hby at_11) (by decide) (by decide) k_) ?_
    exact J15_2 (1 : Int32) (by rw [if_neg hc7])

theorem own_nz {args : Array Value} {s : State} {t : Term} {z : Int32} (ht : t.eval args s none [] s = some (.int z)) (h : (Cond.not (Cond.eq t (Term.int 0))).value args s none s [] = some true) : ¬ z = 0 := by
  rintro rfl
  simp [Cond.value, Term.eval, ht] at h

set_option maxRecDepth 65536 in
set_option maxHeartbeats 40000000 in
theorem comes_1 {Post : Tables → Env → Array Value → State → Outcome → State → Prop} (hpost : ∀ tb e args s v u, (limb_1_1.after args s (.returned v) u = true ∧ limb_1_2.after args s (.returned v) u = true ∧ True) → ReturnedEndW s (.returned v) u (Jvm.fieldLocs frame_1_writes args s ++ Jvm.arrayLocs frame_1_arrays args s ++ Jvm.staticLocs frame_1_statics s) 48 4224 → Post tb e args s (.returned v) u) :
    ArmFor flags0 classFile x code maxLocals ret World_1 tables_1 room_1 Calls_1 rest_1 Pre_1 Post := by
  intro l hfl _ _ p e ha hc hk s m args below hf hA hF happ hP
  obtain ⟨hcalls, hrest, hpre⟩ := hP
  obtain ⟨-, -, -, hnamed, -, -, -, hat⟩ := (Spec.applies_iff hf).mp happ
  obtain ⟨hg, hn⟩ := and_e (Cond.before_iff.mp (show (Jvm.Cond.and given_1 narrow_1).before args s = true from hpre))
  obtain ⟨hcnt, hg⟩ := and_e hg
  obtain ⟨ha0, hg⟩ := and_e hg
  obtain ⟨ha1, hg⟩ := and_e hg
  obtain ⟨ha2, hg⟩ := and_e hg
  have ha3 := hg
  obtain ⟨w0, w1, w2, w3, rfl⟩ : ∃ w0 w1 w2 w3 : Value, args = #[w0, w1, w2, w3] := by
    have hs : args.size = 4 := by simpa [Cond.value, given_1] using hcnt
    obtain ⟨L⟩ := args
    match L, hs with
    | [w0, w1, w2, w3], _ => exact ⟨w0, w1, w2, w3, rfl⟩
  have hw := fun d (hd : d ∈ tables_1) => atoms_spec (ws := Jvm.Cond.code x code maxLocals ret :: tables_1) hat d (List.mem_cons_of_mem _ hd)
  have hfit : Fit s := fun {y c} hc i hi => by
    obtain ⟨ha, rfl⟩ := Array.getElem?_eq_some_iff.mp hc
    have q := List.all_eq_true.mp ((Array.all_eq_true_iff_forall_mem.mp hF) _ (Array.getElem_mem ha)) i (List.mem_range.mpr hi)
    simpa [Array.getElem?_eq_getElem hi] using q
  obtain ⟨hsets, hown0⟩ := atoms_of _ (rest_1_c_eq ▸ (show rest_1_c.before _ s = true from hrest))
  have hr0 := Cond.before_iff.mp hown0
  obtain ⟨i0, ei0⟩ := is_v ha0
  obtain rfl : w0 = (.int i0) := Option.some.inj ei0
  obtain ⟨i1, ei1⟩ := is_v ha1
  obtain rfl : w1 = (.int i1) := Option.some.inj ei1
  obtain ⟨i2, ei2⟩ := is_v ha2
  obtain rfl : w2 = (.int i2) := Option.some.inj ei2
  obtain ⟨i3, ei3⟩ := is_v ha3
  obtain rfl : w3 = (.int i3) := Option.some.inj ei3
  have hE0 := Cond.before_iff.mp (hsets _ (List.mem_of_getElem? (i := 2) rfl))
  obtain ⟨ea, eea⟩ := exa_v hE0
  have hS : Sta s s.heap "java/util/Optional" "EMPTY" "Ljava/util/Optional;" (.ref ea) := Sta.start eea (Or.inl (hsets _ (List.mem_of_getElem? (i := 1) rfl)))
  have hE : Exa s s.heap ea "java/util/Optional" := Exa.start eea hE0
  have hF : Fld s s.heap ea "java/util/Optional" "value" "Ljava/lang/Object;" .null := Fld.start ((fld_at eea).symm.trans (null_v (Cond.before_iff.mp (hsets _ (List.mem_of_getElem? (i := 3) rfl)))))
  obtain ⟨cz, ecz⟩ := is_v (Cond.before_iff.mp (hsets _ (List.mem_of_getElem? (i := 5) rfl)))
  have hC : Sta s s.heap "java/lang/String" "COMPACT_STRINGS" "Z" (.int cz) := Sta.start ecz (Or.inl (hsets _ (List.mem_of_getElem? (i := 4) rfl)))
  have hcw : Jvm.Lit.compactW.before _ s = true := hsets _ (List.mem_of_getElem? (i := 6) rfl)
  have hcz : ¬ cz = 0 := own_nz ecz (Cond.before_iff.mp (hsets _ (List.mem_of_getElem? (i := 6) rfl)))
  have hheld : Jvm.Lit.constHeld s "java/lang/String" 7 := hcalls.1 ("java/lang/String", 7) (by simp [consts_1])
  obtain ⟨n, o, h1, h2, h3, v, L, rfl, ⟨N, hv⟩, hq⟩ := rm0 l s _ hw tables_1 s.heap.size s.heap i0 i1 i2 i3 ea cz (Nat.le_refl _) hS hE hF hC (Old.start s) hheld hcw hcz p e ha hc hk s m _ below hf ((Spec.applies_iff_loose hf).mp happ).1 ⟨rfl, State.Warmed39.refl s, rfl, Or.inl IB.start⟩ trivial
  obtain rfl : v = some (.int 1) := hv
  refine ⟨n, _, h1, h2, h3, hpost _ _ _ _ _ _ ⟨Cond.after_iff.mpr rfl, Cond.after_iff.mpr (eq_i res_at (Term.int_eval (1)) rfl), trivial⟩ ⟨hq.1, hq.2.1, hq.2.2.1, (hq.2.2.2.sift fun y hy => Or.inr (N y hy)).mono (by decide) (by decide)⟩⟩
theorem main_1_1 : Claimed_1_1 := comes_1 fun _ _ _ _ _ _ h hF => ⟨h.1, hF⟩
theorem main_1_2 : Claimed_1_2 := comes_1 fun _ _ _ _ _ _ h hF => ⟨h.2.1, hF⟩
end Jvm.Pilot.@@N@@
namespace Jvm.Pilot.@@N@@
open Jvm Jvm.ClassFile Sem Op Lib Jvm.Free Jvm.Stand Jvm.Pilot.@@N@@.Jvm.D
/-! MADE BY PROGRAM (witnessworld.py) out of the Statement's table words and the real class files: 23 classes; the members and pool entries that the words name. The judged class is class 1, her method 2. -/
namespace start1
open Jvm.ClassFile
def u (s : String) : CpInfo := .utf8 (stringToUtf16 s)
/-- a pool by its gaps: so many unusable entries, then the entry; so many at the end -/
def gap : Nat → List CpInfo → List CpInfo
  | 0, r => r
  | n + 1, r => .unusable :: gap n r
def poolList (es : List (Nat × CpInfo)) (last : Nat) : List CpInfo := es.foldr (fun e r => gap e.1 (e.2 :: r)) (gap last [])
def pool (es : List (Nat × CpInfo)) (last : Nat) : Array CpInfo := ⟨poolList es last⟩
def fileOf (pool : Array CpInfo) (this : Nat) (attrs : Array Attribute := #[]) (ms : Array MethodInfo := #[]) (fl : Nat := 33) (sup : Nat := 0) (ifs : Array Nat := #[]) (fds : Array FieldInfo := #[]) : ClassFile where
  minorVersion := 0
  majorVersion := 65
  constantPool := pool
  accessFlags := fl
  thisClass := this
  superClass := sup
  interfaces := ifs
  fields := fds
  methods := ms
  attributes := attrs
def plain (name : String) (sup : Option ClassId) : Class where
  name := name
  kind := .ordinary
  loader := none
  accessFlags := 33
  super := sup
  interfaces := #[]
  cf := none
  fields := #[]
  methods := #[]
  instanceTypes := #[]
  staticTypes := #[]
  resolved := #[]
  callSites := []
  init := .initialized
  statics := none
  mirror := none

def pool0 : Array CpInfo := pool [(5, u "<init>"), (0, u "()V"), (1, .class_ 10), (1, u "java/lang/Object")] 113

def k0c0 : Code := { maxStack := 0, maxLocals := 1, code := object_method_1_code, exceptionTable := #[], attributes := #[] }
def k0m0 : Method := { name := "<init>", desc := "()V", sig := { parameters := [], returnType := none }, accessFlags := 1, code := some k0c0 }
/-- java/lang/Object -/
def k0 : Class := { plain "java/lang/Object" none with
  accessFlags := 33
  interfaces := #[]
  cf := some (fileOf pool0 8 #[] #[{ accessFlags := 1, nameIndex := 5, descriptorIndex := 6, attributes := #[] }] 33 0 #[] #[])
  fields := #[]
  methods := #[k0m0]
  instanceTypes := #[]
  staticTypes := #[]
  resolved := Array.replicate 124 none
  statics := none }

def pool1 : Array CpInfo := pool [(2, .class_ 4), (1, u "java/lang/Object"), (0, u "<init>"), (0, u "()V"), (0, .methodref 8 9), (0, .class_ 10), (0, .nameAndType 11 12), (0, u "java/util/Optional"), (0, u "empty"), (0, u "()Ljava/util/Optional;"), (0, .class_ 14), (0, u "java/lang/String"), (0, .methodref 13 16), (0, .nameAndType 5 17), (0, u "([C)V"), (0, .methodref 8 19), (0, .nameAndType 20 21), (0, u "of"), (0, u "(Ljava/lang/Object;)Ljava/util/Optional;"), (0, .class_ 23), (0, u "com/example/security_target_reader/securitytargetreader/Identification"), (0, .methodref 25 26), (0, .class_ 27), (0, .nameAndType 28 29), (0, u "com/example/security_target_reader/securitytargetreader/IdentificationIsEmptyPinLaw"), (0, u "field"), (0, u "(ZI)Ljava/util/Optional;"), (0, .methodref 22 31), (0, .nameAndType 5 32), (0, u "(Ljava/util/Optional;Ljava/util/Optional;Ljava/util/Optional;)V"), (0, .methodref 22 34), (0, .nameAndType 35 36), (0, u "isEmpty"), (0, u "()Z"), (5, u "law"), (0, u "(IIII)Z")] 2

def k1m0 : Method := { name := "<init>", desc := "()V", sig := { parameters := [], returnType := none }, accessFlags := 1, code := none }
def k1c1 : Code := { maxStack := 4, maxLocals := 3, code := method_2_code, exceptionTable := #[], attributes := #[] }
def k1m1 : Method := { name := "field", desc := "(ZI)Ljava/util/Optional;", sig := { parameters := [.boolean, .int], returnType := some (.object "java/util/Optional") }, accessFlags := 10, code := some k1c1 }
def k1c2 : Code := { maxStack := 6, maxLocals := 6, code := code, exceptionTable := #[], attributes := #[] }
def k1m2 : Method := { name := "law", desc := "(IIII)Z", sig := { parameters := [.int, .int, .int, .int], returnType := some .boolean }, accessFlags := 9, code := some k1c2 }
/-- com/example/security_target_reader/securitytargetreader/IdentificationIsEmptyPinLaw -/
def k1 : Class := { plain "com/example/security_target_reader/securitytargetreader/IdentificationIsEmptyPinLaw" (some 0) with
  accessFlags := 49
  interfaces := #[]
  cf := some (fileOf pool1 25 #[] #[{ accessFlags := 1, nameIndex := 5, descriptorIndex := 6, attributes := #[] }, { accessFlags := 10, nameIndex := 28, descriptorIndex := 29, attributes := #[] }, { accessFlags := 9, nameIndex := 42, descriptorIndex := 43, attributes := #[] }] 49 2 #[] #[])
  fields := #[]
  methods := #[k1m0, k1m1, k1m2]
  instanceTypes := #[]
  staticTypes := #[]
  resolved := Array.replicate 46 none
  statics := none }

def pool2 : Array CpInfo := pool [(1, .methodref 2 3), (0, .class_ 4), (0, .nameAndType 5 6), (0, u "java/lang/Object"), (0, u "<init>"), (0, u "()V"), (0, .class_ 8), (0, u "java/lang/Record")] 13

def k2c0 : Code := { maxStack := 1, maxLocals := 1, code := jdk_30_method_1_code, exceptionTable := #[], attributes := #[] }
def k2m0 : Method := { name := "<init>", desc := "()V", sig := { parameters := [], returnType := none }, accessFlags := 4, code := some k2c0 }
/-- java/lang/Record -/
def k2 : Class := { plain "java/lang/Record" (some 0) with
  accessFlags := 1057
  interfaces := #[]
  cf := some (fileOf pool2 7 #[] #[{ accessFlags := 4, nameIndex := 5, descriptorIndex := 6, attributes := #[] }] 1057 2 #[] #[])
  fields := #[]
  methods := #[k2m0]
  instanceTypes := #[]
  staticTypes := #[]
  resolved := Array.replicate 22 none
  statics := none }

def pool3 : Array CpInfo := pool [(1, .methodref 2 3), (0, .class_ 4), (0, .nameAndType 5 6), (0, u "java/lang/Record"), (0, u "<init>"), (0, u "()V"), (0, .string 8), (0, u "title"), (0, .methodref 10 11), (0, .class_ 12), (0, .nameAndType 13 14), (0, u "java/util/Objects"), (0, u "requireNonNull"), (0, u "(Ljava/lang/Object;Ljava/lang/String;)Ljava/lang/Object;"), (0, .string 16), (0, u "version"), (0, .string 18), (0, u "date"), (0, .fieldref 20 21), (0, .class_ 22), (0, .nameAndType 8 23), (0, u "com/example/security_target_reader/securitytargetreader/Identification"), (0, u "Ljava/util/Optional;"), (0, .fieldref 20 25), (0, .nameAndType 16 23), (0, .fieldref 20 27), (0, .nameAndType 18 23), (0, .methodref 29 30), (0, .class_ 31), (0, .nameAndType 32 33), (0, u "java/util/Optional"), (0, u "isEmpty"), (0, u "()Z"), (18, u "(Ljava/util/Optional;Ljava/util/Optional;Ljava/util/Optional;)V"), (2, u "NONE"), (0, u "Lcom/example/security_target_reader/securitytargetreader/Identification;")] 34

def k3c0 : Code := { maxStack := 2, maxLocals := 4, code := prog_18_method_1_code, exceptionTable := #[], attributes := #[] }
def k3m0 : Method := { name := "<init>", desc := "(Ljava/util/Optional;Ljava/util/Optional;Ljava/util/Optional;)V", sig := { parameters := [(.object "java/util/Optional"), (.object "java/util/Optional"), (.object "java/util/Optional")], returnType := none }, accessFlags := 1, code := some k3c0 }
def k3c1 : Code := { maxStack := 1, maxLocals := 1, code := prog_18_method_2_code, exceptionTable := #[], attributes := #[] }
def k3m1 : Method := { name := "isEmpty", desc := "()Z", sig := { parameters := [], returnType := some .boolean }, accessFlags := 1, code := some k3c1 }
/-- com/example/security_target_reader/securitytargetreader/Identification -/
def k3 : Class := { plain "com/example/security_target_reader/securitytargetreader/Identification" (some 2) with
  accessFlags := 49
  interfaces := #[]
  cf := some (fileOf pool3 20 #[] #[{ accessFlags := 1, nameIndex := 5, descriptorIndex := 52, attributes := #[] }, { accessFlags := 1, nameIndex := 32, descriptorIndex := 33, attributes := #[] }] 49 2 #[] #[{ accessFlags := 18, nameIndex := 8, descriptorIndex := 23, attributes := #[] }, { accessFlags := 18, nameIndex := 16, descriptorIndex := 23, attributes := #[] }, { accessFlags := 18, nameIndex := 18, descriptorIndex := 23, attributes := #[] }, { accessFlags := 24, nameIndex := 55, descriptorIndex := 56, attributes := #[] }])
  fields := #[{ name := "title", type := (.object "java/util/Optional"), accessFlags := 18, slot := 0, constantValue := 0 }, { name := "version", type := (.object "java/util/Optional"), accessFlags := 18, slot := 1, constantValue := 0 }, { name := "date", type := (.object "java/util/Optional"), accessFlags := 18, slot := 2, constantValue := 0 }, { name := "NONE", type := (.object "com/example/security_target_reader/securitytargetreader/Identification"), accessFlags := 24, slot := 0, constantValue := 0 }]
  methods := #[k3m0, k3m1]
  instanceTypes := #[(.object "java/util/Optional"), (.object "java/util/Optional"), (.object "java/util/Optional")]
  staticTypes := #[(.object "com/example/security_target_reader/securitytargetreader/Identification")]
  resolved := Array.replicate 91 none
  statics := none }

def pool4 : Array CpInfo := pool [(1, .fieldref 2 3), (0, .class_ 4), (0, .nameAndType 5 6), (0, u "java/util/Optional"), (0, u "EMPTY"), (0, u "Ljava/util/Optional;"), (0, .methodref 8 9), (0, .class_ 10), (0, .nameAndType 11 12), (0, u "java/lang/Object"), (0, u "<init>"), (0, u "()V"), (0, .fieldref 2 14), (0, .nameAndType 15 16), (0, u "value"), (0, u "Ljava/lang/Object;"), (0, .methodref 18 19), (0, .class_ 20), (0, .nameAndType 21 22), (0, u "java/util/Objects"), (0, u "requireNonNull"), (0, u "(Ljava/lang/Object;)Ljava/lang/Object;"), (0, .methodref 2 24), (0, .nameAndType 11 25), (0, u "(Ljava/lang/Object;)V"), (19, u "isEmpty"), (0, u "()Z"), (8, u "empty"), (0, u "()Ljava/util/Optional;"), (8, u "(Ljava/lang/Object;)Ljava/util/Optional;"), (16, u "of")] 104

def k4c0 : Code := { maxStack := 1, maxLocals := 1, code := jdk_32_method_1_code, exceptionTable := #[], attributes := #[] }
def k4m0 : Method := { name := "empty", desc := "()Ljava/util/Optional;", sig := { parameters := [], returnType := some (.object "java/util/Optional") }, accessFlags := 9, code := some k4c0 }
def k4c1 : Code := { maxStack := 2, maxLocals := 2, code := jdk_32_method_2_code, exceptionTable := #[], attributes := #[] }
def k4m1 : Method := { name := "<init>", desc := "(Ljava/lang/Object;)V", sig := { parameters := [(.object "java/lang/Object")], returnType := none }, accessFlags := 2, code := some k4c1 }
def k4c2 : Code := { maxStack := 3, maxLocals := 1, code := jdk_32_method_3_code, exceptionTable := #[], attributes := #[] }
def k4m2 : Method := { name := "of", desc := "(Ljava/lang/Object;)Ljava/util/Optional;", sig := { parameters := [(.object "java/lang/Object")], returnType := some (.object "java/util/Optional") }, accessFlags := 9, code := some k4c2 }
def k4c3 : Code := { maxStack := 1, maxLocals := 1, code := jdk_32_method_7_code, exceptionTable := #[], attributes := #[] }
def k4m3 : Method := { name := "isEmpty", desc := "()Z", sig := { parameters := [], returnType := some .boolean }, accessFlags := 1, code := some k4c3 }
/-- java/util/Optional -/
def k4 : Class := { plain "java/util/Optional" (some 0) with
  accessFlags := 49
  interfaces := #[]
  cf := some (fileOf pool4 2 #[] #[{ accessFlags := 9, nameIndex := 55, descriptorIndex := 56, attributes := #[] }, { accessFlags := 2, nameIndex := 11, descriptorIndex := 25, attributes := #[] }, { accessFlags := 9, nameIndex := 82, descriptorIndex := 65, attributes := #[] }, { accessFlags := 1, nameIndex := 45, descriptorIndex := 46, attributes := #[] }] 49 8 #[] #[{ accessFlags := 26, nameIndex := 5, descriptorIndex := 6, attributes := #[] }, { accessFlags := 18, nameIndex := 15, descriptorIndex := 16, attributes := #[] }])
  fields := #[{ name := "EMPTY", type := (.object "java/util/Optional"), accessFlags := 26, slot := 0, constantValue := 0 }, { name := "value", type := (.object "java/lang/Object"), accessFlags := 18, slot := 0, constantValue := 0 }]
  methods := #[k4m0, k4m1, k4m2, k4m3]
  instanceTypes := #[(.object "java/lang/Object")]
  staticTypes := #[(.object "java/util/Optional")]
  resolved := Array.replicate 187 none
  statics := some 0 }

def pool5 : Array CpInfo := pool [(1, .class_ 2), (0, u "java/io/Serializable"), (0, .class_ 4), (0, u "java/lang/Object")] 2

/-- java/io/Serializable -/
def k5 : Class := { plain "java/io/Serializable" (some 0) with
  accessFlags := 1537
  interfaces := #[]
  cf := some (fileOf pool5 1 #[] #[] 1537 3 #[] #[])
  fields := #[]
  methods := #[]
  instanceTypes := #[]
  staticTypes := #[]
  resolved := Array.replicate 7 none
  statics := none }

def pool6 : Array CpInfo := pool [(1, .class_ 2), (0, u "java/lang/Comparable"), (0, .class_ 4), (0, u "java/lang/Object")] 7

/-- java/lang/Comparable -/
def k6 : Class := { plain "java/lang/Comparable" (some 0) with
  accessFlags := 1537
  interfaces := #[]
  cf := some (fileOf pool6 1 #[] #[] 1537 3 #[] #[])
  fields := #[]
  methods := #[]
  instanceTypes := #[]
  staticTypes := #[]
  resolved := Array.replicate 12 none
  statics := none }

def pool7 : Array CpInfo := pool [(2, .class_ 4), (1, u "java/lang/CharSequence"), (42, .class_ 48), (0, u "java/lang/CharSequence$1CodePointIterator"), (10, .class_ 60), (0, u "java/lang/CharSequence$1CharIterator"), (5, .class_ 67), (0, u "java/lang/Object")] 63

/-- java/lang/CharSequence -/
def k7 : Class := { plain "java/lang/CharSequence" (some 0) with
  accessFlags := 1537
  interfaces := #[]
  cf := some (fileOf pool7 2 #[.nestMembers #[47, 59]] #[] 1537 66 #[] #[])
  fields := #[]
  methods := #[]
  instanceTypes := #[]
  staticTypes := #[]
  resolved := Array.replicate 131 none
  statics := none }

def pool8 : Array CpInfo := pool [(1, .class_ 2), (0, u "java/lang/constant/Constable"), (0, .class_ 4), (0, u "java/lang/Object")] 6

/-- java/lang/constant/Constable -/
def k8 : Class := { plain "java/lang/constant/Constable" (some 0) with
  accessFlags := 1537
  interfaces := #[]
  cf := some (fileOf pool8 1 #[] #[] 1537 3 #[] #[])
  fields := #[]
  methods := #[]
  instanceTypes := #[]
  staticTypes := #[]
  resolved := Array.replicate 11 none
  statics := none }

def pool9 : Array CpInfo := pool [(1, .class_ 2), (0, u "java/lang/constant/ConstantDesc"), (0, .class_ 4), (0, u "java/lang/Object")] 32

/-- java/lang/constant/ConstantDesc -/
def k9 : Class := { plain "java/lang/constant/ConstantDesc" (some 0) with
  accessFlags := 1537
  interfaces := #[]
  cf := some (fileOf pool9 1 #[] #[] 1537 3 #[] #[])
  fields := #[]
  methods := #[]
  instanceTypes := #[]
  staticTypes := #[]
  resolved := Array.replicate 37 none
  statics := none }

def pool10 : Array CpInfo := pool [(1, .methodref 2 3), (0, .class_ 4), (0, .nameAndType 5 6), (0, u "java/lang/Object"), (0, u "<init>"), (0, u "()V"), (0, .string 8), (0, u ""), (0, .fieldref 10 11), (0, .class_ 12), (0, .nameAndType 13 14), (0, u "java/lang/String"), (0, u "value"), (0, u "[B"), (0, .fieldref 10 16), (0, .nameAndType 17 18), (0, u "coder"), (0, u "B"), (2, u "hash"), (0, u "I"), (2, u "hashIsZero"), (0, u "Z"), (0, .methodref 10 28), (0, .nameAndType 5 29), (0, u "([CIILjava/lang/Void;)V"), (8, .fieldref 10 39), (0, .nameAndType 40 26), (0, u "COMPACT_STRINGS"), (1, .class_ 44), (1, u "java/lang/StringUTF16"), (0, u "compress"), (1, .methodref 42 48), (0, .nameAndType 49 50), (0, u "coderFromArrayLen"), (0, u "([BI)B"), (126, .methodref 42 178), (0, .nameAndType 45 179), (0, u "([CII)[B"), (395, .class_ 576), (0, u "java/lang/CharSequence"), (22, u "CASE_INSENSITIVE_ORDER"), (0, u "Ljava/util/Comparator;"), (409, u "([C)V"), (90, u "serialPersistentFields"), (0, u "[Ljava/io/ObjectStreamField;"), (0, .class_ 1104), (0, u "java/lang/String$CaseInsensitiveComparator"), (1, .class_ 1107), (0, u "java/io/Serializable"), (0, .class_ 1109), (0, u "java/lang/Comparable"), (0, .class_ 1111), (0, u "java/lang/constant/Constable"), (0, .class_ 1113), (0, u "java/lang/constant/ConstantDesc"), (2, u "serialVersionUID"), (0, u "J"), (3, u "REPL"), (0, u "C"), (2, u "LATIN1"), (1, u "UTF16")] 323

def k10m0 : Method := { name := "<init>", desc := "()V", sig := { parameters := [], returnType := none }, accessFlags := 1, code := none }
def k10c1 : Code := { maxStack := 5, maxLocals := 2, code := jdk_42_method_3_code, exceptionTable := #[], attributes := #[] }
def k10m1 : Method := { name := "<init>", desc := "([C)V", sig := { parameters := [(.array .char)], returnType := none }, accessFlags := 1, code := some k10c1 }
def k10c2 : Code := { maxStack := 4, maxLocals := 6, code := jdk_42_method_149_code, exceptionTable := #[], attributes := #[] }
def k10m2 : Method := { name := "<init>", desc := "([CIILjava/lang/Void;)V", sig := { parameters := [(.array .char), .int, .int, (.object "java/lang/Void")], returnType := none }, accessFlags := 2, code := some k10c2 }
/-- java/lang/String -/
def k10 : Class := { plain "java/lang/String" (some 0) with
  accessFlags := 49
  interfaces := #[5, 6, 7, 8, 9]
  cf := some (fileOf pool10 10 #[.nestMembers #[1103]] #[{ accessFlags := 1, nameIndex := 5, descriptorIndex := 6, attributes := #[] }, { accessFlags := 1, nameIndex := 5, descriptorIndex := 1010, attributes := #[] }, { accessFlags := 2, nameIndex := 5, descriptorIndex := 29, attributes := #[] }] 49 2 #[1106, 1108, 575, 1110, 1112] #[{ accessFlags := 18, nameIndex := 13, descriptorIndex := 14, attributes := #[] }, { accessFlags := 18, nameIndex := 17, descriptorIndex := 18, attributes := #[] }, { accessFlags := 2, nameIndex := 21, descriptorIndex := 22, attributes := #[] }, { accessFlags := 2, nameIndex := 25, descriptorIndex := 26, attributes := #[] }, { accessFlags := 26, nameIndex := 1116, descriptorIndex := 1117, attributes := #[] }, { accessFlags := 24, nameIndex := 40, descriptorIndex := 26, attributes := #[] }, { accessFlags := 26, nameIndex := 1101, descriptorIndex := 1102, attributes := #[] }, { accessFlags := 26, nameIndex := 1121, descriptorIndex := 1122, attributes := #[] }, { accessFlags := 25, nameIndex := 599, descriptorIndex := 600, attributes := #[] }, { accessFlags := 24, nameIndex := 1125, descriptorIndex := 18, attributes := #[] }, { accessFlags := 24, nameIndex := 1127, descriptorIndex := 18, attributes := #[] }])
  fields := #[{ name := "value", type := (.array .byte), accessFlags := 18, slot := 0, constantValue := 0 }, { name := "coder", type := .byte, accessFlags := 18, slot := 1, constantValue := 0 }, { name := "hash", type := .int, accessFlags := 2, slot := 2, constantValue := 0 }, { name := "hashIsZero", type := .boolean, accessFlags := 2, slot := 3, constantValue := 0 }, { name := "serialVersionUID", type := .long, accessFlags := 26, slot := 0, constantValue := 0 }, { name := "COMPACT_STRINGS", type := .boolean, accessFlags := 24, slot := 1, constantValue := 0 }, { name := "serialPersistentFields", type := (.array (.object "java/io/ObjectStreamField")), accessFlags := 26, slot := 2, constantValue := 0 }, { name := "REPL", type := .char, accessFlags := 26, slot := 3, constantValue := 0 }, { name := "CASE_INSENSITIVE_ORDER", type := (.object "java/util/Comparator"), accessFlags := 25, slot := 4, constantValue := 0 }, { name := "LATIN1", type := .byte, accessFlags := 24, slot := 5, constantValue := 0 }, { name := "UTF16", type := .byte, accessFlags := 24, slot := 6, constantValue := 0 }]
  methods := #[k10m0, k10m1, k10m2]
  instanceTypes := #[(.array .byte), .byte, .int, .boolean]
  staticTypes := #[.long, .boolean, (.array (.object "java/io/ObjectStreamField")), .char, (.object "java/util/Comparator"), .byte, .byte]
  resolved := Array.replicate 1451 none
  statics := some 1 }

def pool11 : Array CpInfo := pool [(2, .class_ 4), (1, u "java/lang/Object"), (0, u "<init>"), (0, u "()V"), (35, .class_ 44), (1, u "java/util/Objects"), (0, u "requireNonNull"), (0, u "(Ljava/lang/Object;)Ljava/lang/Object;"), (47, u "(Ljava/lang/Object;Ljava/lang/String;)Ljava/lang/Object;")] 89

def k11m0 : Method := { name := "<init>", desc := "()V", sig := { parameters := [], returnType := none }, accessFlags := 2, code := none }
def k11c1 : Code := { maxStack := 2, maxLocals := 1, code := jdk_31_method_10_code, exceptionTable := #[], attributes := #[] }
def k11m1 : Method := { name := "requireNonNull", desc := "(Ljava/lang/Object;)Ljava/lang/Object;", sig := { parameters := [(.object "java/lang/Object")], returnType := some (.object "java/lang/Object") }, accessFlags := 9, code := some k11c1 }
def k11c2 : Code := { maxStack := 3, maxLocals := 2, code := jdk_31_method_11_code, exceptionTable := #[], attributes := #[] }
def k11m2 : Method := { name := "requireNonNull", desc := "(Ljava/lang/Object;Ljava/lang/String;)Ljava/lang/Object;", sig := { parameters := [(.object "java/lang/Object"), (.object "java/lang/String")], returnType := some (.object "java/lang/Object") }, accessFlags := 9, code := some k11c2 }
/-- java/util/Objects -/
def k11 : Class := { plain "java/util/Objects" (some 0) with
  accessFlags := 49
  interfaces := #[]
  cf := some (fileOf pool11 42 #[] #[{ accessFlags := 2, nameIndex := 5, descriptorIndex := 6, attributes := #[] }, { accessFlags := 9, nameIndex := 45, descriptorIndex := 46, attributes := #[] }, { accessFlags := 9, nameIndex := 45, descriptorIndex := 94, attributes := #[] }] 49 2 #[] #[])
  fields := #[]
  methods := #[k11m0, k11m1, k11m2]
  instanceTypes := #[]
  staticTypes := #[]
  resolved := Array.replicate 184 none
  statics := none }

def pool12 : Array CpInfo := pool [(6, .class_ 8), (1, u "java/lang/Object"), (0, u "<init>"), (0, u "()V"), (1, .class_ 14), (1, u "java/lang/StringUTF16"), (31, u "$assertionsDisabled"), (0, u "Z"), (13, u "HI_BYTE_SHIFT"), (0, u "I"), (2, u "LO_BYTE_SHIFT"), (49, .methodref 12 116), (0, .nameAndType 117 118), (0, u "compress"), (0, u "([CI[BII)I"), (3, u "([CII)[B"), (138, u "coderFromArrayLen"), (0, u "([BI)B"), (106, .class_ 371), (1, u "java/lang/StringUTF16$LinesSpliterator"), (58, u "MAX_LENGTH"), (196, .class_ 628), (0, u "java/lang/StringUTF16$CodePointsSpliterator"), (0, .class_ 630), (0, u "java/lang/StringUTF16$CharsSpliterator")] 4

def k12m0 : Method := { name := "<init>", desc := "()V", sig := { parameters := [], returnType := none }, accessFlags := 0, code := none }
def k12c1 : Code := { maxStack := 2, maxLocals := 2, code := jdk_52_method_15_code, exceptionTable := #[], attributes := #[] }
def k12m1 : Method := { name := "coderFromArrayLen", desc := "([BI)B", sig := { parameters := [(.array .byte), .int], returnType := some .byte }, accessFlags := 8, code := some k12c1 }
def k12c2 : Code := { maxStack := 5, maxLocals := 6, code := jdk_52_method_16_code, exceptionTable := #[], attributes := #[] }
def k12m2 : Method := { name := "compress", desc := "([CII)[B", sig := { parameters := [(.array .char), .int, .int], returnType := some (.array .byte) }, accessFlags := 9, code := some k12c2 }
def k12c3 : Code := { maxStack := 3, maxLocals := 7, code := jdk_52_method_21_code, exceptionTable := #[], attributes := #[] }
def k12m3 : Method := { name := "compress", desc := "([CI[BII)I", sig := { parameters := [(.array .char), .int, (.array .byte), .int, .int], returnType := some .int }, accessFlags := 9, code := some k12c3 }
/-- java/lang/StringUTF16 -/
def k12 : Class := { plain "java/lang/StringUTF16" (some 0) with
  accessFlags := 48
  interfaces := #[]
  cf := some (fileOf pool12 12 #[.nestMembers #[627, 629, 369]] #[{ accessFlags := 0, nameIndex := 9, descriptorIndex := 10, attributes := #[] }, { accessFlags := 8, nameIndex := 261, descriptorIndex := 262, attributes := #[] }, { accessFlags := 9, nameIndex := 117, descriptorIndex := 122, attributes := #[] }, { accessFlags := 9, nameIndex := 117, descriptorIndex := 118, attributes := #[] }] 48 6 #[] #[{ accessFlags := 26, nameIndex := 61, descriptorIndex := 62, attributes := #[] }, { accessFlags := 26, nameIndex := 65, descriptorIndex := 62, attributes := #[] }, { accessFlags := 24, nameIndex := 430, descriptorIndex := 62, attributes := #[] }, { accessFlags := 4120, nameIndex := 46, descriptorIndex := 47, attributes := #[] }])
  fields := #[{ name := "HI_BYTE_SHIFT", type := .int, accessFlags := 26, slot := 0, constantValue := 0 }, { name := "LO_BYTE_SHIFT", type := .int, accessFlags := 26, slot := 1, constantValue := 0 }, { name := "MAX_LENGTH", type := .int, accessFlags := 24, slot := 2, constantValue := 0 }, { name := "$assertionsDisabled", type := .boolean, accessFlags := 4120, slot := 3, constantValue := 0 }]
  methods := #[k12m0, k12m1, k12m2, k12m3]
  instanceTypes := #[]
  staticTypes := #[.int, .int, .int, .boolean]
  resolved := Array.replicate 635 none
  statics := none }

def pool13 : Array CpInfo := pool [(4, .class_ 6), (1, u "java/lang/Object"), (0, u "<init>"), (0, u "()V"), (5, .class_ 16), (1, u "java/lang/StringLatin1"), (104, u "$assertionsDisabled"), (0, u "Z"), (98, .class_ 223), (1, u "java/lang/StringLatin1$LinesSpliterator"), (166, .class_ 391), (0, u "java/lang/StringLatin1$CharsSpliterator")] 3

def k13m0 : Method := { name := "<init>", desc := "()V", sig := { parameters := [], returnType := none }, accessFlags := 0, code := none }
/-- java/lang/StringLatin1 -/
def k13 : Class := { plain "java/lang/StringLatin1" (some 0) with
  accessFlags := 48
  interfaces := #[]
  cf := some (fileOf pool13 14 #[.nestMembers #[390, 221]] #[{ accessFlags := 0, nameIndex := 7, descriptorIndex := 8, attributes := #[] }] 48 4 #[] #[{ accessFlags := 4120, nameIndex := 121, descriptorIndex := 122, attributes := #[] }])
  fields := #[{ name := "$assertionsDisabled", type := .boolean, accessFlags := 4120, slot := 0, constantValue := 0 }]
  methods := #[k13m0]
  instanceTypes := #[]
  staticTypes := #[.boolean]
  resolved := Array.replicate 395 none
  statics := none }

def pool14 : Array CpInfo := pool [(2, .class_ 4), (1, u "java/lang/Object"), (0, u "<init>"), (0, u "()V"), (17, .class_ 26), (1, u "jdk/internal/util/Preconditions"), (28, .class_ 56), (0, u "jdk/internal/util/Preconditions$4"), (57, .class_ 115), (0, u "jdk/internal/util/Preconditions$1"), (7, u "SIOOBE_FORMATTER"), (0, u "Ljava/util/function/BiFunction;"), (0, .class_ 126), (0, u "jdk/internal/util/Preconditions$2"), (3, u "AIOOBE_FORMATTER"), (0, .class_ 132), (0, u "jdk/internal/util/Preconditions$3"), (3, u "IOOBE_FORMATTER")] 57

def k14m0 : Method := { name := "<init>", desc := "()V", sig := { parameters := [], returnType := none }, accessFlags := 1, code := none }
/-- jdk/internal/util/Preconditions -/
def k14 : Class := { plain "jdk/internal/util/Preconditions" (some 0) with
  accessFlags := 33
  interfaces := #[]
  cf := some (fileOf pool14 24 #[.nestMembers #[55, 131, 125, 114]] #[{ accessFlags := 1, nameIndex := 5, descriptorIndex := 6, attributes := #[] }] 33 2 #[] #[{ accessFlags := 25, nameIndex := 123, descriptorIndex := 124, attributes := #[] }, { accessFlags := 25, nameIndex := 130, descriptorIndex := 124, attributes := #[] }, { accessFlags := 25, nameIndex := 136, descriptorIndex := 124, attributes := #[] }])
  fields := #[{ name := "SIOOBE_FORMATTER", type := (.object "java/util/function/BiFunction"), accessFlags := 25, slot := 0, constantValue := 0 }, { name := "AIOOBE_FORMATTER", type := (.object "java/util/function/BiFunction"), accessFlags := 25, slot := 1, constantValue := 0 }, { name := "IOOBE_FORMATTER", type := (.object "java/util/function/BiFunction"), accessFlags := 25, slot := 2, constantValue := 0 }]
  methods := #[k14m0]
  instanceTypes := #[]
  staticTypes := #[(.object "java/util/function/BiFunction"), (.object "java/util/function/BiFunction"), (.object "java/util/function/BiFunction")]
  resolved := Array.replicate 194 none
  statics := some 2 }

def pool15 : Array CpInfo := pool [(9, u "<init>"), (6, .class_ 18), (1, u "java/lang/Object"), (0, u "()V"), (1, .class_ 23), (1, u "jdk/internal/util/ArraysSupport"), (0, u "LOG2_ARRAY_LONG_INDEX_SCALE"), (0, u "I"), (2, u "U"), (0, u "Ljdk/internal/misc/Unsafe;"), (8, u "BIG_ENDIAN"), (0, u "Z"), (8, u "LOG2_BYTE_BIT_SIZE"), (4, u "LOG2_ARRAY_INT_INDEX_SCALE"), (54, u "JLA"), (0, u "Ljdk/internal/access/JavaLangAccess;"), (11, u "LOG2_ARRAY_BOOLEAN_INDEX_SCALE"), (9, u "LOG2_ARRAY_BYTE_INDEX_SCALE"), (5, u "LOG2_ARRAY_CHAR_INDEX_SCALE"), (5, u "LOG2_ARRAY_SHORT_INDEX_SCALE"), (18, u "LOG2_ARRAY_FLOAT_INDEX_SCALE"), (24, u "LOG2_ARRAY_DOUBLE_INDEX_SCALE"), (89, u "T_BOOLEAN"), (2, u "T_CHAR"), (1, u "T_FLOAT"), (1, u "T_DOUBLE"), (1, u "T_BYTE"), (1, u "T_SHORT"), (1, u "T_INT"), (1, u "T_LONG"), (1, u "SOFT_MAX_ARRAY_LENGTH")] 83

def k15m0 : Method := { name := "<init>", desc := "()V", sig := { parameters := [], returnType := none }, accessFlags := 2, code := none }
/-- jdk/internal/util/ArraysSupport -/
def k15 : Class := { plain "jdk/internal/util/ArraysSupport" (some 0) with
  accessFlags := 33
  interfaces := #[]
  cf := some (fileOf pool15 21 #[] #[{ accessFlags := 2, nameIndex := 9, descriptorIndex := 19, attributes := #[] }] 33 16 #[] #[{ accessFlags := 24, nameIndex := 28, descriptorIndex := 29, attributes := #[] }, { accessFlags := 26, nameIndex := 38, descriptorIndex := 39, attributes := #[] }, { accessFlags := 25, nameIndex := 121, descriptorIndex := 25, attributes := #[] }, { accessFlags := 25, nameIndex := 131, descriptorIndex := 25, attributes := #[] }, { accessFlags := 25, nameIndex := 137, descriptorIndex := 25, attributes := #[] }, { accessFlags := 25, nameIndex := 143, descriptorIndex := 25, attributes := #[] }, { accessFlags := 25, nameIndex := 53, descriptorIndex := 25, attributes := #[] }, { accessFlags := 25, nameIndex := 24, descriptorIndex := 25, attributes := #[] }, { accessFlags := 25, nameIndex := 162, descriptorIndex := 25, attributes := #[] }, { accessFlags := 25, nameIndex := 187, descriptorIndex := 25, attributes := #[] }, { accessFlags := 26, nameIndex := 48, descriptorIndex := 25, attributes := #[] }, { accessFlags := 25, nameIndex := 277, descriptorIndex := 25, attributes := #[] }, { accessFlags := 25, nameIndex := 280, descriptorIndex := 25, attributes := #[] }, { accessFlags := 25, nameIndex := 282, descriptorIndex := 25, attributes := #[] }, { accessFlags := 25, nameIndex := 284, descriptorIndex := 25, attributes := #[] }, { accessFlags := 25, nameIndex := 286, descriptorIndex := 25, attributes := #[] }, { accessFlags := 25, nameIndex := 288, descriptorIndex := 25, attributes := #[] }, { accessFlags := 25, nameIndex := 290, descriptorIndex := 25, attributes := #[] }, { accessFlags := 25, nameIndex := 292, descriptorIndex := 25, attributes := #[] }, { accessFlags := 26, nameIndex := 108, descriptorIndex := 109, attributes := #[] }, { accessFlags := 25, nameIndex := 294, descriptorIndex := 25, attributes := #[] }])
  fields := #[{ name := "U", type := (.object "jdk/internal/misc/Unsafe"), accessFlags := 24, slot := 0, constantValue := 0 }, { name := "BIG_ENDIAN", type := .boolean, accessFlags := 26, slot := 1, constantValue := 0 }, { name := "LOG2_ARRAY_BOOLEAN_INDEX_SCALE", type := .int, accessFlags := 25, slot := 2, constantValue := 0 }, { name := "LOG2_ARRAY_BYTE_INDEX_SCALE", type := .int, accessFlags := 25, slot := 3, constantValue := 0 }, { name := "LOG2_ARRAY_CHAR_INDEX_SCALE", type := .int, accessFlags := 25, slot := 4, constantValue := 0 }, { name := "LOG2_ARRAY_SHORT_INDEX_SCALE", type := .int, accessFlags := 25, slot := 5, constantValue := 0 }, { name := "LOG2_ARRAY_INT_INDEX_SCALE", type := .int, accessFlags := 25, slot := 6, constantValue := 0 }, { name := "LOG2_ARRAY_LONG_INDEX_SCALE", type := .int, accessFlags := 25, slot := 7, constantValue := 0 }, { name := "LOG2_ARRAY_FLOAT_INDEX_SCALE", type := .int, accessFlags := 25, slot := 8, constantValue := 0 }, { name := "LOG2_ARRAY_DOUBLE_INDEX_SCALE", type := .int, accessFlags := 25, slot := 9, constantValue := 0 }, { name := "LOG2_BYTE_BIT_SIZE", type := .int, accessFlags := 26, slot := 10, constantValue := 0 }, { name := "T_BOOLEAN", type := .int, accessFlags := 25, slot := 11, constantValue := 0 }, { name := "T_CHAR", type := .int, accessFlags := 25, slot := 12, constantValue := 0 }, { name := "T_FLOAT", type := .int, accessFlags := 25, slot := 13, constantValue := 0 }, { name := "T_DOUBLE", type := .int, accessFlags := 25, slot := 14, constantValue := 0 }, { name := "T_BYTE", type := .int, accessFlags := 25, slot := 15, constantValue := 0 }, { name := "T_SHORT", type := .int, accessFlags := 25, slot := 16, constantValue := 0 }, { name := "T_INT", type := .int, accessFlags := 25, slot := 17, constantValue := 0 }, { name := "T_LONG", type := .int, accessFlags := 25, slot := 18, constantValue := 0 }, { name := "JLA", type := (.object "jdk/internal/access/JavaLangAccess"), accessFlags := 26, slot := 19, constantValue := 0 }, { name := "SOFT_MAX_ARRAY_LENGTH", type := .int, accessFlags := 25, slot := 20, constantValue := 0 }]
  methods := #[k15m0]
  instanceTypes := #[]
  staticTypes := #[(.object "jdk/internal/misc/Unsafe"), .boolean, .int, .int, .int, .int, .int, .int, .int, .int, .int, .int, .int, .int, .int, .int, .int, .int, .int, (.object "jdk/internal/access/JavaLangAccess"), .int]
  resolved := Array.replicate 378 none
  statics := none }

def pool16 : Array CpInfo := pool [(1, u "java/lang/Cloneable"), (0, .class_ 1), (0, u "java/lang/Object"), (0, .class_ 3)] 3

/-- java/lang/Cloneable -/
def k16 : Class := { plain "java/lang/Cloneable" (some 0) with
  accessFlags := 1537
  interfaces := #[]
  cf := some (fileOf pool16 2 #[] #[] 1537 4 #[] #[])
  fields := #[]
  methods := #[]
  instanceTypes := #[]
  staticTypes := #[]
  resolved := Array.replicate 8 none
  statics := none }

/-- the primitive byte -/
def k17 : Class := { plain "byte" none with kind := .primitive 'B', accessFlags := 0x411 }
/-- [B -/
def k18 : Class := { plain "[B" (some 0) with kind := .array 17 .byte, interfaces := #[16, 5], accessFlags := 1041 }

/-- the primitive char -/
def k19 : Class := { plain "char" none with kind := .primitive 'C', accessFlags := 0x411 }
/-- [C -/
def k20 : Class := { plain "[C" (some 0) with kind := .array 19 .char, interfaces := #[16, 5], accessFlags := 1041 }

/-- the primitive int -/
def k21 : Class := { plain "int" none with kind := .primitive 'I', accessFlags := 0x411 }
/-- [I -/
def k22 : Class := { plain "[I" (some 0) with kind := .array 21 .int, interfaces := #[16, 5], accessFlags := 1041 }

def heap : Heap := #[{ cls := 4, slots := #[.ref 3], vm := .statics 4 },
  { cls := 10, slots := #[.long 0, .int 1, .null, .int 0, .null, .int 0, .int 0], vm := .statics 10 },
  { cls := 14, slots := #[.null, .null, .null], vm := .statics 14 },
  { cls := 4, slots := #[.null], vm := .none }]
def classes : Array Class := #[k0, k1, k2, k3, k4, k5, k6, k7, k8, k9, k10, k11, k12, k13, k14, k15, k16, k17, k18, k19, k20, k21, k22]
def interned : List (Array UInt16 × Addr) := []
def slotsUsed : Nat := 12
def theMethod : MethodId := ⟨1, 2⟩
def args0 : Array Value := #[.int 7, .int 65, .int 256, .int 300]
def aboutOver (below : List Frame) : State where
  vm := { classes := classes, interned := interned.toArray }
  heap := heap
  slotsUsed := slotsUsed
  threads := #[{ frames := .invoking theMethod args0 :: below }]
def below0 : List Frame := [.native { method := ⟨0, 0⟩, args := #[] }]
def about1 : State := aboutOver below0
def p0 : Program := .bare "" "" ""
def e0 : Env := launch0.env 0 0 0
theorem w_frames : about1.frames = Frame.invoking theMethod args0 :: below0 := rfl
set_option maxRecDepth 65536 in
theorem w_args : argsFit about1.vm theMethod args0 = true := by decide +kernel
set_option maxRecDepth 65536 in
theorem w_heap : heapFits about1 = true := by decide +kernel
set_option maxRecDepth 65536 in
theorem w_runnable : about1.curStatus? = some .runnable := by decide +kernel
set_option maxRecDepth 65536 in
theorem w_alone : about1.alone = true := by decide +kernel
set_option maxRecDepth 65536 in
theorem w_named : about1.methodNamed? x = some theMethod := by decide +kernel
set_option maxRecDepth 65536 in
theorem w_hears : about1.hears theMethod below0 = true := by decide +kernel
set_option maxRecDepth 65536 in
theorem w_ripe : about1.ripe theMethod args0 below0 = true := by decide +kernel
theorem w_running : about1.status = .running := rfl
set_option maxRecDepth 65536 in
theorem w_room : about1.hasRoom e0.platform room_1 = true :=
  launch0.hasRoom_least _ room_1 (by decide +kernel) (by decide +kernel) (by decide +kernel) (by decide +kernel) (by decide +kernel) (by decide +kernel)
theorem allAtoms_all (ts : List Jvm.Cond) (a : Array Jvm.Value) (st : Jvm.State) : (allAtoms ts).before a st = ts.all (fun c => c.before a st) := by
  induction ts with
  | nil => rfl
  | cons c t ih =>
    show (Jvm.Cond.and c (allAtoms t)).before a st = _
    rw [Jvm.Cond.before_and, ih, List.all_cons]
def words1 : List Jvm.Cond := Jvm.Cond.code x code maxLocals ret :: tables_1
/-- a 'code' word, met by the world's own term for the bytes: nothing is compared byte by byte -/
theorem code_word {y : MethodName} {bytes : ByteArray} {mx : Nat} {rt : Option FieldType} {a : Array Value} {s : State} {m : MethodId} {meth : Method} {c : Code} (h1 : s.methodNamed? y = some m) (h2 : s.vm.method? m = some meth) (h3 : meth.code = some c) (h4 : c.code = bytes)
    (h5 : (c.maxLocals == mx && c.exceptionTable.isEmpty && decide (c.maxStack ≤ mostOperands) && decide (meth.sig.returnType = rt) && !meth.locks && decide (parseMethodDescriptor y.desc = some meth.sig)) = true) : (Jvm.Cond.code y bytes mx rt).before a s = true := by
  simp only [Bool.and_eq_true, beq_iff_eq, Bool.not_eq_true', decide_eq_true_eq] at h5
  obtain ⟨⟨⟨⟨⟨g1, g2⟩, g3⟩, g4⟩, g5⟩, g6⟩ := h5
  simp [Cond.before, Cond.holds, Cond.value, h1, h2, h3, h4, g1, g2, g3, g4, g5, g6]
def isCode : Jvm.Cond → Bool
  | .code _ _ _ _ => true
  | _ => false
theorem all_split {L : List Jvm.Cond} {P : Jvm.Cond → Bool} (h1 : L.all (fun c => isCode c || P c) = true) (h2 : ∀ c ∈ L.filter isCode, P c = true) : L.all P = true := by
  refine List.all_eq_true.mpr fun c hc => ?_
  have h := List.all_eq_true.mp h1 c hc
  rcases Bool.eq_false_or_eq_true (isCode c) with hi | hi
  · exact h2 c (List.mem_filter.mpr ⟨hc, hi⟩)
  · simpa [hi] using h
set_option maxRecDepth 65536 in
theorem w_c0 : (Jvm.Cond.code x code maxLocals ret).before args0 about1 = true := code_word (m := ⟨1, 2⟩) (meth := k1m2) (c := k1c2) (by decide +kernel) rfl rfl rfl (by decide +kernel)
set_option maxRecDepth 65536 in
theorem w_c1 : (Jvm.Cond.code ({ cls := "com/example/security_target_reader/securitytargetreader/IdentificationIsEmptyPinLaw", name := "field", desc := "(ZI)Ljava/util/Optional;" } : Jvm.MethodName) method_2_code (3 : Nat) (Option.some (Jvm.ClassFile.FieldType.object "java/util/Optional"))).before args0 about1 = true := code_word (m := ⟨1, 1⟩) (meth := k1m1) (c := k1c1) (by decide +kernel) rfl rfl rfl (by decide +kernel)
set_option maxRecDepth 65536 in
theorem w_c2 : (Jvm.Cond.code ({ cls := "java/util/Optional", name := "empty", desc := "()Ljava/util/Optional;" } : Jvm.MethodName) jdk_32_method_1_code (1 : Nat) (Option.some (Jvm.ClassFile.FieldType.object "java/util/Optional"))).before args0 about1 = true := code_word (m := ⟨4, 0⟩) (meth := k4m0) (c := k4c0) (by decide +kernel) rfl rfl rfl (by decide +kernel)
set_option maxRecDepth 65536 in
theorem w_c3 : (Jvm.Cond.code ({ cls := "com/example/security_target_reader/securitytargetreader/Identification", name := "<init>", desc := "(Ljava/util/Optional;Ljava/util/Optional;Ljava/util/Optional;)V" } : Jvm.MethodName) prog_18_method_1_code (4 : Nat) (Option.none : Option Jvm.ClassFile.FieldType)).before args0 about1 = true := code_word (m := ⟨3, 0⟩) (meth := k3m0) (c := k3c0) (by decide +kernel) rfl rfl rfl (by decide +kernel)
set_option maxRecDepth 65536 in
theorem w_c4 : (Jvm.Cond.code ({ cls := "java/lang/Record", name := "<init>", desc := "()V" } : Jvm.MethodName) jdk_30_method_1_code (1 : Nat) (Option.none : Option Jvm.ClassFile.FieldType)).before args0 about1 = true := code_word (m := ⟨2, 0⟩) (meth := k2m0) (c := k2c0) (by decide +kernel) rfl rfl rfl (by decide +kernel)
set_option maxRecDepth 65536 in
theorem w_c5 : (Jvm.Cond.code ({ cls := "java/lang/Object", name := "<init>", desc := "()V" } : Jvm.MethodName) object_method_1_code (1 : Nat) (Option.none : Option Jvm.ClassFile.FieldType)).before args0 about1 = true := code_word (m := ⟨0, 0⟩) (meth := k0m0) (c := k0c0) (by decide +kernel) rfl rfl rfl (by decide +kernel)
set_option maxRecDepth 65536 in
theorem w_c6 : (Jvm.Cond.code ({ cls := "java/util/Objects", name := "requireNonNull", desc := "(Ljava/lang/Object;Ljava/lang/String;)Ljava/lang/Object;" } : Jvm.MethodName) jdk_31_method_11_code (2 : Nat) (Option.some (Jvm.ClassFile.FieldType.object "java/lang/Object"))).before args0 about1 = true := code_word (m := ⟨11, 2⟩) (meth := k11m2) (c := k11c2) (by decide +kernel) rfl rfl rfl (by decide +kernel)
set_option maxRecDepth 65536 in
theorem w_c7 : (Jvm.Cond.code ({ cls := "com/example/security_target_reader/securitytargetreader/Identification", name := "isEmpty", desc := "()Z" } : Jvm.MethodName) prog_18_method_2_code (1 : Nat) (Option.some Jvm.ClassFile.FieldType.boolean)).before args0 about1 = true := code_word (m := ⟨3, 1⟩) (meth := k3m1) (c := k3c1) (by decide +kernel) rfl rfl rfl (by decide +kernel)
set_option maxRecDepth 65536 in
theorem w_c8 : (Jvm.Cond.code ({ cls := "java/util/Optional", name := "isEmpty", desc := "()Z" } : Jvm.MethodName) jdk_32_method_7_code (1 : Nat) (Option.some Jvm.ClassFile.FieldType.boolean)).before args0 about1 = true := code_word (m := ⟨4, 3⟩) (meth := k4m3) (c := k4c3) (by decide +kernel) rfl rfl rfl (by decide +kernel)
set_option maxRecDepth 65536 in
theorem w_c9 : (Jvm.Cond.code ({ cls := "java/lang/String", name := "<init>", desc := "([C)V" } : Jvm.MethodName) jdk_42_method_3_code (2 : Nat) (Option.none : Option Jvm.ClassFile.FieldType)).before args0 about1 = true := code_word (m := ⟨10, 1⟩) (meth := k10m1) (c := k10c1) (by decide +kernel) rfl rfl rfl (by decide +kernel)
set_option maxRecDepth 65536 in
theorem w_c10 : (Jvm.Cond.code ({ cls := "java/lang/String", name := "<init>", desc := "([CIILjava/lang/Void;)V" } : Jvm.MethodName) jdk_42_method_149_code (6 : Nat) (Option.none : Option Jvm.ClassFile.FieldType)).before args0 about1 = true := code_word (m := ⟨10, 2⟩) (meth := k10m2) (c := k10c2) (by decide +kernel) rfl rfl rfl (by decide +kernel)
set_option maxRecDepth 65536 in
theorem w_c11 : (Jvm.Cond.code ({ cls := "java/lang/StringUTF16", name := "compress", desc := "([CII)[B" } : Jvm.MethodName) jdk_52_method_16_code (6 : Nat) (Option.some (Jvm.ClassFile.FieldType.array Jvm.ClassFile.FieldType.byte))).before args0 about1 = true := code_word (m := ⟨12, 2⟩) (meth := k12m2) (c := k12c2) (by decide +kernel) rfl rfl rfl (by decide +kernel)
set_option maxRecDepth 65536 in
theorem w_c12 : (Jvm.Cond.code ({ cls := "java/lang/StringUTF16", name := "compress", desc := "([CI[BII)I" } : Jvm.MethodName) jdk_52_method_21_code (7 : Nat) (Option.some Jvm.ClassFile.FieldType.int)).before args0 about1 = true := code_word (m := ⟨12, 3⟩) (meth := k12m3) (c := k12c3) (by decide +kernel) rfl rfl rfl (by decide +kernel)
set_option maxRecDepth 65536 in
theorem w_c13 : (Jvm.Cond.code ({ cls := "java/lang/StringUTF16", name := "coderFromArrayLen", desc := "([BI)B" } : Jvm.MethodName) jdk_52_method_15_code (2 : Nat) (Option.some Jvm.ClassFile.FieldType.byte)).before args0 about1 = true := code_word (m := ⟨12, 1⟩) (meth := k12m1) (c := k12c1) (by decide +kernel) rfl rfl rfl (by decide +kernel)
set_option maxRecDepth 65536 in
theorem w_c14 : (Jvm.Cond.code ({ cls := "java/util/Optional", name := "of", desc := "(Ljava/lang/Object;)Ljava/util/Optional;" } : Jvm.MethodName) jdk_32_method_3_code (1 : Nat) (Option.some (Jvm.ClassFile.FieldType.object "java/util/Optional"))).before args0 about1 = true := code_word (m := ⟨4, 2⟩) (meth := k4m2) (c := k4c2) (by decide +kernel) rfl rfl rfl (by decide +kernel)
set_option maxRecDepth 65536 in
theorem w_c15 : (Jvm.Cond.code ({ cls := "java/util/Objects", name := "requireNonNull", desc := "(Ljava/lang/Object;)Ljava/lang/Object;" } : Jvm.MethodName) jdk_31_method_10_code (1 : Nat) (Option.some (Jvm.ClassFile.FieldType.object "java/lang/Object"))).before args0 about1 = true := code_word (m := ⟨11, 1⟩) (meth := k11m1) (c := k11c1) (by decide +kernel) rfl rfl rfl (by decide +kernel)
set_option maxRecDepth 65536 in
theorem w_c16 : (Jvm.Cond.code ({ cls := "java/util/Optional", name := "<init>", desc := "(Ljava/lang/Object;)V" } : Jvm.MethodName) jdk_32_method_2_code (2 : Nat) (Option.none : Option Jvm.ClassFile.FieldType)).before args0 about1 = true := code_word (m := ⟨4, 1⟩) (meth := k4m1) (c := k4c1) (by decide +kernel) rfl rfl rfl (by decide +kernel)
def codes1 : List Jvm.Cond := [Jvm.Cond.code x code maxLocals ret, Jvm.Cond.code ({ cls := "com/example/security_target_reader/securitytargetreader/IdentificationIsEmptyPinLaw", name := "field", desc := "(ZI)Ljava/util/Optional;" } : Jvm.MethodName) method_2_code (3 : Nat) (Option.some (Jvm.ClassFile.FieldType.object "java/util/Optional")), Jvm.Cond.code ({ cls := "java/util/Optional", name := "empty", desc := "()Ljava/util/Optional;" } : Jvm.MethodName) jdk_32_method_1_code (1 : Nat) (Option.some (Jvm.ClassFile.FieldType.object "java/util/Optional")), Jvm.Cond.code ({ cls := "com/example/security_target_reader/securitytargetreader/Identification", name := "<init>", desc := "(Ljava/util/Optional;Ljava/util/Optional;Ljava/util/Optional;)V" } : Jvm.MethodName) prog_18_method_1_code (4 : Nat) (Option.none : Option Jvm.ClassFile.FieldType), Jvm.Cond.code ({ cls := "java/lang/Record", name := "<init>", desc := "()V" } : Jvm.MethodName) jdk_30_method_1_code (1 : Nat) (Option.none : Option Jvm.ClassFile.FieldType), Jvm.Cond.code ({ cls := "java/lang/Object", name := "<init>", desc := "()V" } : Jvm.MethodName) object_method_1_code (1 : Nat) (Option.none : Option Jvm.ClassFile.FieldType), Jvm.Cond.code ({ cls := "java/util/Objects", name := "requireNonNull", desc := "(Ljava/lang/Object;Ljava/lang/String;)Ljava/lang/Object;" } : Jvm.MethodName) jdk_31_method_11_code (2 : Nat) (Option.some (Jvm.ClassFile.FieldType.object "java/lang/Object")), Jvm.Cond.code ({ cls := "com/example/security_target_reader/securitytargetreader/Identification", name := "isEmpty", desc := "()Z" } : Jvm.MethodName) prog_18_method_2_code (1 : Nat) (Option.some Jvm.ClassFile.FieldType.boolean), Jvm.Cond.code ({ cls := "java/util/Optional", name := "isEmpty", desc := "()Z" } : Jvm.MethodName) jdk_32_method_7_code (1 : Nat) (Option.some Jvm.ClassFile.FieldType.boolean), Jvm.Cond.code ({ cls := "java/lang/String", name := "<init>", desc := "([C)V" } : Jvm.MethodName) jdk_42_method_3_code (2 : Nat) (Option.none : Option Jvm.ClassFile.FieldType), Jvm.Cond.code ({ cls := "java/lang/String", name := "<init>", desc := "([CIILjava/lang/Void;)V" } : Jvm.MethodName) jdk_42_method_149_code (6 : Nat) (Option.none : Option Jvm.ClassFile.FieldType), Jvm.Cond.code ({ cls := "java/lang/StringUTF16", name := "compress", desc := "([CII)[B" } : Jvm.MethodName) jdk_52_method_16_code (6 : Nat) (Option.some (Jvm.ClassFile.FieldType.array Jvm.ClassFile.FieldType.byte)), Jvm.Cond.code ({ cls := "java/lang/StringUTF16", name := "compress", desc := "([CI[BII)I" } : Jvm.MethodName) jdk_52_method_21_code (7 : Nat) (Option.some Jvm.ClassFile.FieldType.int), Jvm.Cond.code ({ cls := "java/lang/StringUTF16", name := "coderFromArrayLen", desc := "([BI)B" } : Jvm.MethodName) jdk_52_method_15_code (2 : Nat) (Option.some Jvm.ClassFile.FieldType.byte), Jvm.Cond.code ({ cls := "java/util/Optional", name := "of", desc := "(Ljava/lang/Object;)Ljava/util/Optional;" } : Jvm.MethodName) jdk_32_method_3_code (1 : Nat) (Option.some (Jvm.ClassFile.FieldType.object "java/util/Optional")), Jvm.Cond.code ({ cls := "java/util/Objects", name := "requireNonNull", desc := "(Ljava/lang/Object;)Ljava/lang/Object;" } : Jvm.MethodName) jdk_31_method_10_code (1 : Nat) (Option.some (Jvm.ClassFile.FieldType.object "java/lang/Object")), Jvm.Cond.code ({ cls := "java/util/Optional", name := "<init>", desc := "(Ljava/lang/Object;)V" } : Jvm.MethodName) jdk_32_method_2_code (2 : Nat) (Option.none : Option Jvm.ClassFile.FieldType)]
set_option maxRecDepth 65536 in
theorem codes_eq : words1.filter isCode = codes1 := rfl
theorem w_codes : ∀ c ∈ words1.filter isCode, c.before args0 about1 = true := by
  rw [codes_eq]
  intro c hc
  simp only [codes1, List.mem_cons, List.not_mem_nil, or_false] at hc
  rcases hc with rfl | rfl | rfl | rfl | rfl | rfl | rfl | rfl | rfl | rfl | rfl | rfl | rfl | rfl | rfl | rfl | rfl
  · exact w_c0
  · exact w_c1
  · exact w_c2
  · exact w_c3
  · exact w_c4
  · exact w_c5
  · exact w_c6
  · exact w_c7
  · exact w_c8
  · exact w_c9
  · exact w_c10
  · exact w_c11
  · exact w_c12
  · exact w_c13
  · exact w_c14
  · exact w_c15
  · exact w_c16
set_option maxRecDepth 65536 in
theorem w_t1 : (words1.take 24).all (fun c => isCode c || c.before args0 about1) = true := by decide +kernel
set_option maxRecDepth 65536 in
theorem w_t2 : ((words1.drop 24).take 24).all (fun c => isCode c || c.before args0 about1) = true := by decide +kernel
set_option maxRecDepth 65536 in
theorem w_t3 : (((words1.drop 24).drop 24).take 24).all (fun c => isCode c || c.before args0 about1) = true := by decide +kernel
set_option maxRecDepth 65536 in
theorem w_t4 : (((words1.drop 24).drop 24).drop 24).all (fun c => isCode c || c.before args0 about1) = true := by decide +kernel
theorem w_tables : (allAtoms (Jvm.Cond.code x code maxLocals ret :: tables_1)).before args0 about1 = true := by
  rw [allAtoms_all]
  show words1.all (fun c => c.before args0 about1) = true
  refine all_split ?_ w_codes
  rw [← List.take_append_drop 24 words1, List.all_append, w_t1, ← List.take_append_drop 24 (words1.drop 24), List.all_append, w_t2, ← List.take_append_drop 24 ((words1.drop 24).drop 24), List.all_append, w_t3, w_t4]
  rfl
set_option maxRecDepth 65536 in
theorem w_rest : rest_1_c.before args0 about1 = true := by decide +kernel
set_option maxRecDepth 65536 in
theorem w_case : (Jvm.Cond.and given_1 narrow_1).before args0 about1 = true := by decide +kernel
set_option maxRecDepth 65536 in
theorem w_consts : constsHeld consts_1 about1 := Jvm.Lit.constsHeldB_iff.mp (by decide +kernel)
theorem w_applies : (headSpec (Jvm.Cond.code x code maxLocals ret :: tables_1) room_1).applies x e0.platform about1 = true :=
  (Spec.applies_iff w_frames).mpr ⟨w_running, w_runnable, w_alone, w_named, w_hears, w_ripe, w_room, w_tables⟩
theorem atStart : AtStart classFile x code maxLocals ret World_1 tables_1 room_1 Calls_1 rest_1 Pre_1 launch0 p0 e0 about1 theMethod args0 below0 :=
  ⟨lists_1, trivial, launch0.admits_env _ _ _, launch0.least_env, fairChoices_fair.cas, fairChoices_fair.clock, w_frames, w_args, w_heap, w_applies, ⟨w_consts, trivial⟩, w_rest, w_case⟩
end start1
theorem witness_1 : WitnessClaimed_1 := ⟨start1.p0, start1.e0, start1.about1, start1.theMethod, start1.args0, start1.below0, start1.atStart⟩
end Jvm.Pilot.@@N@@

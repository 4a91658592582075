import JvmDerived
import JvmDerived.Pilot.@@N@@Statement
import JvmDerived.Pilot.@@N@@Code
set_option linter.unusedVariables false
set_option linter.unusedSimpArgs false
@@BLOCK:NumsL.lean.txt@@
namespace Jvm.RoadKit
open Sem ClassFile Op Lib Jvm.Stand Jvm.Free Jvm.LawKit
section New
variable {p : Program} {l : Launch} {e : Env} {R : Room} {s : State} {m : MethodId} {args : Array Value} {below : List Frame} {meth : Method} {c : Code} {T : State} {locs : List Loc} {cells slots : Nat}
theorem retI (X : Stand p l e R s m args below meth c T locs cells slots) (hx : p.tables.exec = Jvm.exec) {pc : Nat} {Ls : Array Slot} {z : Int32} {rest : List Value} (hret : meth.sig.returnType = some .int) (hd : decode c.code pc = .ok (.ireturn, 1)) {fs : List Frame}
    (hl : ∀ (f : JFrame) (acts : List Action), f.method = m → f.locked = none → f.entered = [] → (doReturn e (T.setTop f) acts (some (.int z))).1 = T.setFrames fs) : Steps p.tables e below (T.setTop (mkF m pc Ls (.int z :: rest))) (T.setFrames fs) := by
  have hm' : T.vm.method? m = some meth := X.method'
  have hn : narrow .int (.int z) = .int z := rfl
  show Steps p.tables e below (T.setTop { method := m, pc := pc, locals := Ls, stack := _ :: rest, locked := none }) _
  jvm_step X.here [X.here.top, hx, hd, hm', hret, hn]
  first | (intro acts; rw [hl _ acts rfl rfl rfl]) | rw [hl _ _ rfl rfl rfl]
  exact Steps.refl _
end New
end Jvm.RoadKit
namespace Jvm.Pilot.@@N@@
open Jvm Jvm.ClassFile Sem Op Lib Jvm.Free Jvm.Stand Jvm.LawKit Jvm.RoadKit Bundle Jvm.Pilot.@@N@@.Jvm.D
section OwnLayer
variable {p : Program} {l : Launch} {e : Env} {R : Room} {s : State} {m : MethodId} {args : Array Value} {below : List Frame} {meth : Method} {c : Code} {T T' : State} {h h' : Heap} {n0 ck sk ck' sk' : Nat} {Z : State} {a0 : Array Value} {Post : Outcome → State → Prop} {g g' : JFrame}
/-- from this state and frame the run comes to an end of the invocation of which Post holds -/
def Go (p : Program) (e : Env) (below : List Frame) (Post : Outcome → State → Prop) (T : State) (g : JFrame) : Prop :=
  ∃ s₂ o, Steps p.tables e below (T.setTop g) s₂ ∧ s₂.status = .running ∧ Ended s₂ below o ∧ Post o s₂
theorem Go.st (hs : ∀ t, Steps p.tables e below (T'.setTop g') t → Steps p.tables e below (T.setTop g) t) (k : Go p e below Post T' g') : Go p e below Post T g := by
  obtain ⟨s2, o, h1, h2⟩ := k
  exact ⟨s2, o, hs _ h1, h2⟩
/-- where the walk stands: the heap is h; what was written lies at or above n0; at most ck cells and sk slots were made -/
def Stn (p : Program) (l : Launch) (e : Env) (R : Room) (s : State) (m : MethodId) (args : Array Value) (below : List Frame) (meth : Method) (c : Code) (n0 : Nat) (T : State) (h : Heap) (ck sk : Nat) : Prop :=
  T.heap = h ∧ ∃ locs, Fr n0 locs ∧ Stand p l e R s m args below meth c T locs ck sk
theorem Stn.here (X : Stn p l e R s m args below meth c n0 T h ck sk) : At T m c below := by
  obtain ⟨_, _, _, Y⟩ := X
  exact Y.here
theorem Stn.mono (X : Stn p l e R s m args below meth c n0 T h ck sk) (h1 : ck ≤ ck') (h2 : sk ≤ sk') : Stn p l e R s m args below meth c n0 T h ck' sk' := by
  obtain ⟨e1, L, N, Y⟩ := X
  exact ⟨e1, L, N, Y.more h1 h2⟩
/-- what a body's end says -/
def PostW (s : State) (n0 C S : Nat) (Q : Option Value → Heap → Prop) (o : Outcome) (U : State) : Prop :=
  ∃ v L, o = .returned v ∧ (Fr n0 L ∧ Q v U.heap) ∧ FrameEnd s o U L C S
/-- a body's contract -/
def Con (l : Launch) (y : MethodName) (bytes : ByteArray) (maxL : Nat) (ret : Option FieldType) (rm : Room) (ws : List Jvm.Cond) (Z : State) (n0 : Nat) (as' : Array Value) (h : Heap) (Q : Option Value → Heap → Prop) : Prop :=
  MetFree l y (head1 (Jvm.Cond.code y bytes maxL ret :: ws) rm) (fun a U => a = as' ∧ Z.Warmed39 U.vm ∧ U.heap = h) (fun _ _ _ _ _ => True) (fun _ U o U' => ∃ v L, o = .returned v ∧ (Fr n0 L ∧ Q v U'.heap) ∧ FrameEnd U o U' L rm.cells rm.slots)
theorem Con.body {y : MethodName} {bytes : ByteArray} {maxL : Nat} {ret : Option FieldType} {rm : Room} {ws : List Jvm.Cond} {as' : Array Value} {Q : Option Value → Heap → Prop} (hp : plainFor y = true)
    (k : ∀ (p : Program) (e : Env) (s : State) (m : MethodId) (below : List Frame) (meth : Method) (c : Code) (s₁ : State), p.tables.exec = Jvm.exec → c.code = bytes → c.maxLocals = maxL → s.vm.findClass y.cls = some m.cls → meth.name = y.name → meth.sig.returnType = ret → meth.locks = false → Z.Warmed39 s.vm →
      Stn p l e rm s m as' below meth c n0 s₁ h 0 0 → Go p e below (PostW s n0 rm.cells rm.slots Q) s₁ (entryFrame m as' maxL)) : Con l y bytes maxL ret rm ws Z n0 as' h Q := by
  refine MetFree.of_bodySF hp hisR ?_
  intro p e s m args below meth c s₁ Bd hml0 hP hK
  obtain ⟨rfl, hZ, hh⟩ := hP
  have e0 : s₁.heap = h := by rw [← hh, Bd.state]; rfl
  exact k p e s m below meth c s₁ Bd.exec Bd.bytes hml0 (findClass_of_methodNamed Bd.named) (name_of_methodNamed Bd.named Bd.method).1 Bd.returns Bd.notSynchronized hZ ⟨e0, [], Fr.nil n0, Stand.of_body Bd⟩
theorem Con.mono {y : MethodName} {bytes : ByteArray} {maxL : Nat} {ret : Option FieldType} {rm : Room} {ws : List Jvm.Cond} {as' : Array Value} {Q Q' : Option Value → Heap → Prop} (hM : Con l y bytes maxL ret rm ws Z n0 as' h Q) (hq : ∀ v h', Q v h' → Q' v h') : Con l y bytes maxL ret rm ws Z n0 as' h Q' := by
  intro p e ha hc hk s m args below hf happ hP hK
  obtain ⟨n, o, h1, h2, h3, v, L, h4, ⟨h5, h6⟩, h7⟩ := hM p e ha hc hk s m args below hf happ hP hK
  exact ⟨n, o, h1, h2, h3, v, L, h4, ⟨h5, hq _ _ h6⟩, h7⟩
/-! a long's comparison -/
theorem lcTlt {a b : Int64} (h : a < b) : ifCond.holds .lt (lcmpW a b) = true ∧ ifCond.holds .ge (lcmpW a b) = false := by
  have q : lcmpW a b < 0 := by rw [lcW]; exact (lc_lt a b).mpr h
  exact ⟨(if0 _ _).trans (tlt q).1, (if0 _ _).trans (tlt q).2.1⟩
theorem lcFlt {a b : Int64} (h : ¬ a < b) : ifCond.holds .lt (lcmpW a b) = false ∧ ifCond.holds .ge (lcmpW a b) = true := by
  have q : ¬ lcmpW a b < 0 := fun z => h ((lc_lt a b).mp (by rw [← lcW]; exact z))
  exact ⟨(if0 _ _).trans (flt q).1, (if0 _ _).trans (flt q).2.1⟩
theorem lcTgt {a b : Int64} (h : b < a) : ifCond.holds .gt (lcmpW a b) = true ∧ ifCond.holds .le (lcmpW a b) = false := by
  have q : 0 < lcmpW a b := by rw [lcW]; exact (lc_gt a b).mpr h
  exact ⟨(if0 _ _).trans (tlt q).2.2.1, (if0 _ _).trans (tlt q).2.2.2⟩
theorem lcFgt {a b : Int64} (h : ¬ b < a) : ifCond.holds .gt (lcmpW a b) = false ∧ ifCond.holds .le (lcmpW a b) = true := by
  have q : ¬ 0 < lcmpW a b := fun z => h ((lc_gt a b).mp (by rw [← lcW]; exact z))
  exact ⟨(if0 _ _).trans (flt q).2.2.1, (if0 _ _).trans (flt q).2.2.2⟩
theorem lcTeq {a b : Int64} (h : a = b) : ifCond.holds .eq (lcmpW a b) = true ∧ ifCond.holds .ne (lcmpW a b) = false := by
  have q : lcmpW a b = 0 := by rw [lcW]; exact (lc_eq a b).mpr h
  exact ⟨(if0 _ _).trans (teq q).1, (if0 _ _).trans (teq q).2⟩
theorem lcFeq {a b : Int64} (h : ¬ a = b) : ifCond.holds .eq (lcmpW a b) = false ∧ ifCond.holds .ne (lcmpW a b) = true := by
  have q : ¬ lcmpW a b = 0 := fun z => h ((lc_eq a b).mp (by rw [← lcW]; exact z))
  exact ⟨(if0 _ _).trans (feq q).1, (if0 _ _).trans (feq q).2⟩
theorem acT {a b : Addr} (h : a = b) : if_acmp.holds .eq (some a) (some b) = true ∧ if_acmp.holds .ne (some a) (some b) = false := by subst h; simp [if_acmp.holds]
theorem acF {a b : Addr} (h : ¬ a = b) : if_acmp.holds .eq (some a) (some b) = false ∧ if_acmp.holds .ne (some a) (some b) = true := by simp [if_acmp.holds, h]
/-! returns -/
theorem goRet {v : Option Value} {Q : Option Value → Heap → Prop} {C S : Nat} (X : Stn p l e R s m args below meth c n0 T h ck sk) (hlk : meth.locks = false) (hv : meth.sig.returnType = none → v = none)
    (hst : ∀ locs fs, Stand p l e R s m args below meth c T locs ck sk → (∀ (f : JFrame) (acts : List Action), f.method = m → f.locked = none → f.entered = [] → (doReturn e (T.setTop f) acts v).1 = T.setFrames fs) → Steps p.tables e below (T.setTop g) (T.setFrames fs))
    (hq : Q v h) (h1 : ck ≤ C) (h2 : sk ≤ S) : Go p e below (PostW s n0 C S Q) T g := by
  obtain ⟨eT, locs, N, Y⟩ := X
  obtain ⟨fs, hr, hrun, hended, hW, hsame⟩ := Y.leave hv hlk
  exact ⟨_, _, hst locs fs Y hr, hrun, hended, _, _, rfl, ⟨N, (by show Q v T.heap; rw [eT]; exact hq)⟩, ⟨_, rfl⟩, hW, hsame.mono h1 h2⟩
theorem goRetI {pc : Nat} {Ls : Array Slot} {z : Int32} {rest : List Value} {Q : Option Value → Heap → Prop} {C S : Nat} (X : Stn p l e R s m args below meth c n0 T h ck sk) (hx : p.tables.exec = Jvm.exec) (hlk : meth.locks = false) (hret : meth.sig.returnType = some .int)
    (hd : decode c.code pc = .ok (.ireturn, 1)) (h1 : ck ≤ C) (h2 : sk ≤ S) (hq : Q (some (.int z)) h) : Go p e below (PostW s n0 C S Q) T (mkF m pc Ls (.int z :: rest)) :=
  goRet X hlk (fun h => by rw [hret] at h; cases h) (fun _ _ Y hr => retI Y hx hret hd hr) hq h1 h2
theorem goRetZ {pc : Nat} {Ls : Array Slot} {z : Int32} {rest : List Value} {Q : Option Value → Heap → Prop} {C S : Nat} (X : Stn p l e R s m args below meth c n0 T h ck sk) (hx : p.tables.exec = Jvm.exec) (hlk : meth.locks = false) (hret : meth.sig.returnType = some .boolean)
    (hd : decode c.code pc = .ok (.ireturn, 1)) (h1 : ck ≤ C) (h2 : sk ≤ S) (hz : z = 0 ∨ z = 1) (hq : Q (some (.int z)) h) : Go p e below (PostW s n0 C S Q) T (mkF m pc Ls (.int z :: rest)) := by
  rcases hz with rfl | rfl
  · exact goRet X hlk (fun h => by rw [hret] at h; cases h) (fun _ _ Y hr => retN Y hx (t := .boolean) hret (by simp) hd hr) hq h1 h2
  · exact goRet X hlk (fun h => by rw [hret] at h; cases h) (fun _ _ Y hr => retN Y hx (t := .boolean) hret (by simp) hd hr) hq h1 h2
theorem goRetV {pc : Nat} {Ls : Array Slot} {Q : Option Value → Heap → Prop} {C S : Nat} (X : Stn p l e R s m args below meth c n0 T h ck sk) (hx : p.tables.exec = Jvm.exec) (hlk : meth.locks = false) (hret : meth.sig.returnType = none)
    (hd : decode c.code pc = .ok (.return_, 1)) (h1 : ck ≤ C) (h2 : sk ≤ S) (hq : Q none h) : Go p e below (PostW s n0 C S Q) T (mkF m pc Ls []) :=
  goRet X hlk (fun _ => rfl) (fun _ _ Y hr => Y.returnOut hx hret hd hr) hq h1 h2
theorem goRetL {pc : Nat} {Ls : Array Slot} {z : Int64} {rest : List Value} {Q : Option Value → Heap → Prop} {C S : Nat} (X : Stn p l e R s m args below meth c n0 T h ck sk) (hx : p.tables.exec = Jvm.exec) (hlk : meth.locks = false) (hret : meth.sig.returnType = some .long)
    (hd : decode c.code pc = .ok (.lreturn, 1)) (h1 : ck ≤ C) (h2 : sk ≤ S) (hq : Q (some (.long z)) h) : Go p e below (PostW s n0 C S Q) T (mkF m pc Ls (.long z :: rest)) :=
  goRet X hlk (fun h => by rw [hret] at h; cases h) (fun _ _ Y hr => by
    jvm_step Y.here [Y.here.top, hx, hd, Y.method', hret, narrow]
    first | (intro acts; rw [hr _ acts rfl rfl rfl]) | rw [hr _ _ rfl rfl rfl]
    exact Steps.refl _) hq h1 h2
theorem goRetA {pc : Nat} {Ls : Array Slot} {z : Addr} {rest : List Value} {t : FieldType} {Q : Option Value → Heap → Prop} {C S : Nat} (X : Stn p l e R s m args below meth c n0 T h ck sk) (hx : p.tables.exec = Jvm.exec) (hlk : meth.locks = false) (hret : meth.sig.returnType = some t) (ht : t.isReference = true)
    (hd : decode c.code pc = .ok (.areturn, 1)) (h1 : ck ≤ C) (h2 : sk ≤ S) (hq : Q (some (.ref z)) h) : Go p e below (PostW s n0 C S Q) T (mkF m pc Ls (.ref z :: rest)) :=
  goRet X hlk (fun h => by rw [hret] at h; cases h) (fun _ _ Y hr => by
    jvm_step Y.here [Y.here.top, hx, hd, Y.method', hret, Value.isRef, ht]
    first | (intro acts; rw [hr _ acts rfl rfl rfl]) | rw [hr _ _ rfl rfl rfl]
    exact Steps.refl _) hq h1 h2
/-! fields, objects -/
theorem goGet (X : Stn p l e R s m args below meth c n0 T h ck sk) (hx : p.tables.exec = Jvm.exec) (hZ : Z.Warmed39 s.vm) {own R0 O n d host : String} {index : Nat} (hown : s.vm.findClass own = some m.cls) (w : (Cond.fieldLink own index R0 n d).before a0 Z = true ∨ (Cond.fieldLinkNest own index R0 n d host).before a0 Z = true) (via : Via Z R0 O n d)
    {a : Addr} {v : Value} (F : Fld Z h a O n d v) {pc : Nat} {ls : Array Slot} {rest : List Value} (hd : decode c.code pc = .ok (.getfield index, 3))
    (k : ∀ T', Stn p l e R s m args below meth c n0 T' h ck sk → Go p e below Post T' (mkF m (pc + 3) ls (v :: rest))) : Go p e below Post T (mkF m pc ls (.ref a :: rest)) := by
  obtain ⟨eT, locs, N, Y⟩ := X
  obtain ⟨T', X', e', st⟩ := getF Y hx hZ hown w via eT F (g := mkF m pc ls (.ref a :: rest)) rfl rfl hd
  exact Go.st st (k T' ⟨e', locs, N, X'⟩)
theorem goPut (X : Stn p l e R s m args below meth c n0 T h ck sk) (hx : p.tables.exec = Jvm.exec) (hZ : Z.Warmed39 s.vm) {own R0 O n d host C : String} {index kk : Nat} {ty : FieldType} (hown : s.vm.findClass own = some m.cls) (w : (Cond.fieldLink own index R0 n d).before a0 Z = true ∨ (Cond.fieldLinkNest own index R0 n d host).before a0 Z = true) (via : Via Z R0 O n d)
    {a : Addr} {v old : Value} (F : Fld Z h a O n d old) (E : Exa Z h a C) (L : (Cond.lays C O n d).before a0 Z = true ∨ ((Cond.laysFinal C O n d).before a0 Z = true ∧ own = O ∧ meth.name = "<init>")) (wi : (Cond.instantiable C kk).before a0 Z = true)
    (hty : parseFieldDescriptor d = some ty) (hn : narrow ty v = v) (hf : fits ty v = true) (ha : n0 ≤ a) {pc : Nat} {ls : Array Slot} {rest : List Value} (hd : decode c.code pc = .ok (.putfield index, 3))
    (k : ∀ T' h', Stn p l e R s m args below meth c n0 T' h' ck sk → Wr h h' a (Jvm.RoadKit.slotOf Z O n d) v → Go p e below Post T' (mkF m (pc + 3) ls rest)) : Go p e below Post T (mkF m pc ls (v :: .ref a :: rest)) := by
  obtain ⟨eT, locs, N, Y⟩ := X
  obtain ⟨T', h', X', e', W, st⟩ := putF Y hx hZ hown w via eT F E L wi hty hn hf (g := mkF m pc ls (v :: .ref a :: rest)) rfl rfl hd
  exact Go.st st (k T' h' ⟨e', _, Fr.snoc X' N ha, X'⟩ W)
theorem goPutN (X : Stn p l e R s m args below meth c n0 T h ck sk) (hx : p.tables.exec = Jvm.exec) (hZ : Z.Warmed39 s.vm) {own R0 O n d C : String} {index kk : Nat} {ty : FieldType} (hown : s.vm.findClass own = some m.cls) (w : (Cond.fieldLink own index R0 n d).before a0 Z = true) (via : Via Z R0 O n d)
    {a : Addr} {v v' old : Value} (F : Fld Z h a O n d old) (E : Exa Z h a C) (L : (Cond.lays C O n d).before a0 Z = true ∨ ((Cond.laysFinal C O n d).before a0 Z = true ∧ own = O ∧ meth.name = "<init>")) (wi : (Cond.instantiable C kk).before a0 Z = true)
    (hty : parseFieldDescriptor d = some ty) (hn : narrow ty v = v') (hf : fits ty v' = true) (ha : n0 ≤ a) {pc : Nat} {ls : Array Slot} {rest : List Value} (hd : decode c.code pc = .ok (.putfield index, 3))
    (k : ∀ T' h', Stn p l e R s m args below meth c n0 T' h' ck sk → Wr h h' a (Jvm.RoadKit.slotOf Z O n d) v' → Go p e below Post T' (mkF m (pc + 3) ls rest)) : Go p e below Post T (mkF m pc ls (v :: .ref a :: rest)) := by
  obtain ⟨eT, locs, N, Y⟩ := X
  obtain ⟨T', h', X', e', W, st⟩ := putFN Y hx hZ hown w via eT F E L wi hty hn hf (g := mkF m pc ls (v :: .ref a :: rest)) rfl rfl hd
  exact Go.st st (k T' h' ⟨e', _, Fr.snoc X' N ha, X'⟩ W)
theorem goNew (X : Stn p l e R s m args below meth c n0 T h ck sk) (hx : p.tables.exec = Jvm.exec) (hZ : Z.Warmed39 s.vm) {own C : String} {index n : Nat} (hown : s.vm.findClass own = some m.cls) (w : (Cond.classLink own index C).before a0 Z = true) (wi : (Cond.instantiable C n).before a0 Z = true) (wz : (Cond.initialized C).before a0 Z = true)
    {pc : Nat} {ls : Array Slot} {st : List Value} (hd : decode c.code pc = .ok (.new index, 3)) (hc : ck + 1 ≤ R.cells) (hl : sk + n ≤ R.slots)
    (k : ∀ T' h' a, a = h.size → Stn p l e R s m args below meth c n0 T' h' (ck + 1) (sk + n) → Ext h h' → Exa Z h' a C → (∀ {O nm d : String} {ty : FieldType}, Laid Z a0 C O nm d → parseFieldDescriptor d = some ty → Fld Z h' a O nm d (defaultValue ty)) → Go p e below Post T' (mkF m (pc + 3) ls (.ref a :: st))) : Go p e below Post T (mkF m pc ls st) := by
  obtain ⟨eT, locs, N, Y⟩ := X
  obtain ⟨T', h', X', e', E, A, D, -, stp⟩ := newO Y hx hZ hown w wi wz eT (g := mkF m pc ls st) rfl hd hc hl
  exact Go.st stp (k T' h' _ rfl ⟨e', locs, N, X'⟩ E A D)
theorem goInit (X : Stn p l e R s m args below meth c n0 T h ck sk) (hx : p.tables.exec = Jvm.exec) (hZ : Z.Warmed39 s.vm) {own : String} {idx : Nat} (hown : s.vm.findClass own = some m.cls) (w1 : (Cond.methodLink own idx Lib.objectInit).before a0 Z = true) (w2 : (Cond.instanceMethod Lib.objectInit).before a0 Z = true)
    (w3 : (Cond.code Lib.objectInit object_method_1_code 1 none).before a0 Z = true) {pc : Nat} {ls : Array Slot} {a : Addr} {rest : List Value} (hsize : ls.size = c.maxLocals) (hd : decode c.code pc = .ok (.invokespecial idx, 3))
    (hf : 1 ≤ R.frames) {W : Nat} (hW : (rest.map fun v => v.category).sum ≤ W) (hl : W + 12 ≤ R.locals)
    (k : ∀ T', Stn p l e R s m args below meth c n0 T' h ck sk → Go p e below Post T' (mkF m (pc + 3) ls rest)) : Go p e below Post T (mkF m pc ls (.ref a :: rest)) := by
  obtain ⟨eT, locs, N, Y⟩ := X
  obtain ⟨T', X', e', st⟩ := initO Y hx hZ hown w1 w2 w3 eT (g := mkF m pc ls (.ref a :: rest)) rfl hsize rfl hd hf (W := W) (by show 2 * 0 + _ ≤ _; omega) hl
  exact Go.st st (k T' ⟨e', locs, N, X'⟩)
theorem Stn.ldcI (X : Stn p l e R s m args below meth c n0 T h ck sk) (hx : p.tables.exec = Jvm.exec) (hZ : Z.Warmed39 s.vm) {own : String} {index : Nat} {v : Int32} (hown : s.vm.findClass own = some m.cls) (w : (Cond.constant own index v).before a0 Z = true)
    {pc : Nat} {ls : Array Slot} {st : List Value} (hd : decode c.code pc = .ok (.ldc index, 2)) {t : State} (k : Steps p.tables e below (T.setTop (mkF m (pc + 2) ls (.int v :: st))) t) : Steps p.tables e below (T.setTop (mkF m pc ls st)) t := by
  obtain ⟨eT, locs, N, Y⟩ := X
  exact Y.ldcInt hx hown (mvT hZ w) (g := mkF m pc ls st) rfl hd t k
theorem Stn.ldcJ (X : Stn p l e R s m args below meth c n0 T h ck sk) (hx : p.tables.exec = Jvm.exec) (hZ : Z.Warmed39 s.vm) {own : String} {index : Nat} {v : Int64} (hown : s.vm.findClass own = some m.cls) (w : (Cond.constantLong own index v).before a0 Z = true)
    {pc : Nat} {ls : Array Slot} {st : List Value} (hd : decode c.code pc = .ok (.ldc2_w index, 3)) {t : State} (k : Steps p.tables e below (T.setTop (mkF m (pc + 3) ls (.long v :: st))) t) : Steps p.tables e below (T.setTop (mkF m pc ls st)) t := by
  obtain ⟨eT, locs, N, Y⟩ := X
  exact Y.ldc2Long hx hown (mvT hZ w) (g := mkF m pc ls st) rfl hd t k
/-! arrays: of kind ty, length n, whose places hold f -/
def Ary (Z : State) (h : Heap) (a : Addr) (ty : FieldType) (n : Nat) (f : Nat → Value) : Prop := ∃ cl : Cell, Arr Z h a cl ty ∧ cl.slots.size = n ∧ ∀ i, i < n → cl.slots[i]? = some (f i)
theorem Ary.lt {a : Addr} {ty : FieldType} {n : Nat} {f : Nat → Value} (A : Ary Z h a ty n f) : a < h.size := by obtain ⟨cl, A, -⟩ := A; exact A.lt
theorem Ary.ext {a : Addr} {ty : FieldType} {n : Nat} {f : Nat → Value} (E : Ext h h') (A : Ary Z h a ty n f) : Ary Z h' a ty n f := by obtain ⟨cl, A, r⟩ := A; exact ⟨cl, A.ext E, r⟩
theorem Ary.other {a b : Addr} {ty : FieldType} {n sl : Nat} {f : Nat → Value} {v : Value} (W : Wr h h' b sl v) (A : Ary Z h a ty n f) (q : a ≠ b) : Ary Z h' a ty n f := by obtain ⟨cl, A, r⟩ := A; exact ⟨cl, A.other W q, r⟩
theorem Ary.keep {a : Addr} {ty : FieldType} {n : Nat} {f : Nat → Value} {ws : List Addr} (A : Ary Z h a ty n f) (K : Keep h h' ws) (q : a ∉ ws) : Ary Z h' a ty n f := by obtain ⟨cl, A, r⟩ := A; exact ⟨cl, ⟨K.2.1 a cl A.1 q, A.2⟩, r⟩
theorem Ary.congr {a : Addr} {ty : FieldType} {n : Nat} {f f' : Nat → Value} (A : Ary Z h a ty n f) (q : ∀ i, i < n → f i = f' i) : Ary Z h a ty n f' := by obtain ⟨cl, A, r1, r2⟩ := A; exact ⟨cl, A, r1, fun i hi => by rw [← q i hi]; exact r2 i hi⟩
theorem Ary.set {a : Addr} {ty : FieldType} {n j : Nat} {f : Nat → Value} {v : Value} (A : Ary Z h a ty n f) (W : Wr h h' a j v) : Ary Z h' a ty n (fun i => if i = j then v else f i) := by
  obtain ⟨cl, A, r1, r2⟩ := A
  have A' := A.same W
  obtain ⟨c1, q1, -, q2, -⟩ := W
  cases q1.symm.trans A.1
  refine ⟨_, A', by rw [sz_set]; exact r1, fun i hi => ?_⟩
  by_cases hij : i = j
  · subst hij
    simp [Cell.setSlot, q2]
  · have : j ≠ i := fun z => hij z.symm
    simp [Cell.setSlot, hij, Array.getElem?_setIfInBounds_ne this, r2 i hi]
theorem Ary.new {k : ClassId} {a : Addr} {ty : FieldType} {z : Int32} (A : Arr Z h a (newA k ty z) ty) : Ary Z h a ty z.toNatClampNeg (fun _ => defaultValue ty) :=
  ⟨_, A, sz_new _ _ _, fun i hi => by simp [newA, hi]⟩
theorem ne_ary {a b : Addr} {C : String} {kk n : Nat} {ty : FieldType} {f : Nat → Value} (F : Exa Z h a C) (wi : (Cond.instantiable C kk).before a0 Z = true) (G : Ary Z h b ty n f) : a ≠ b := by
  obtain ⟨cl, A, -⟩ := G
  exact ne_arr F wi A
theorem goNewA (X : Stn p l e R s m args below meth c n0 T h ck sk) (hx : p.tables.exec = Jvm.exec) (hZ : Z.Warmed39 s.vm) {aty : ArrayType} (w : (Cond.arrayClass (newarray.typeOf aty)).before a0 Z = true)
    {pc : Nat} {ls : Array Slot} {n : Int32} {rest : List Value} (hd : decode c.code pc = .ok (.newarray aty, 2)) (hn : ¬ n < 0) {cap : Nat} (hcap : n.toNatClampNeg ≤ cap) (hb : cap * 8 ≤ 536870912) (hc : ck + 1 ≤ R.cells) (hl : sk + cap ≤ R.slots) {ad : String} (had : "[" ++ (newarray.typeOf aty).toString = ad)
    (k : ∀ T' h' a, a = h.size → Stn p l e R s m args below meth c n0 T' h' (ck + 1) (sk + cap) → Ext h h' → Exa Z h' a ad → Ary Z h' a (newarray.typeOf aty) n.toNatClampNeg (fun _ => defaultValue (newarray.typeOf aty)) → Go p e below Post T' (mkF m (pc + 2) ls (.ref a :: rest))) : Go p e below Post T (mkF m pc ls (.int n :: rest)) := by
  obtain ⟨eT, locs, N, Y⟩ := X
  obtain ⟨T', h', cA, X', e', E, A, Ex, st⟩ := newPE Y hx hZ w eT (g := mkF m pc ls (.int n :: rest)) rfl hd rfl hn hcap hb hc hl had
  exact Go.st st (k T' h' _ rfl ⟨e', locs, N, X'⟩ E Ex (Ary.new A))
theorem goClone (X : Stn p l e R s m args below meth c n0 T h ck sk) (hx : p.tables.exec = Jvm.exec) (hZ : Z.Warmed39 s.vm) {own ad : String} {index : Nat} (hown : s.vm.findClass own = some m.cls)
    (w1 : (Cond.methodLink own index ⟨ad, "clone", "()Ljava/lang/Object;"⟩).before a0 Z = true) (w2 : (Cond.sameMethod ad "java/lang/Object" "clone" "()Ljava/lang/Object;").before a0 Z = true) (w3 : (Cond.native ⟨"java/lang/Object", "clone", "()Ljava/lang/Object;"⟩).before a0 Z = true)
    (w4 : (Cond.instanceMethod ⟨"java/lang/Object", "clone", "()Ljava/lang/Object;"⟩).before a0 Z = true) (w5 : (Cond.selects ad ⟨ad, "clone", "()Ljava/lang/Object;"⟩ ⟨"java/lang/Object", "clone", "()Ljava/lang/Object;"⟩).before a0 Z = true) (w6 : (Cond.castable ad "java/lang/Cloneable").before a0 Z = true)
    {a : Addr} {ty : FieldType} {n : Nat} {f : Nat → Value} (A : Ary Z h a ty n f) (E : Exa Z h a ad) (hfit : ∀ i, i < n → fits ty (f i) = true) {pc : Nat} {ls : Array Slot} {rest : List Value} (hsize : ls.size = c.maxLocals) (hd : decode c.code pc = .ok (.invokevirtual index, 3))
    (hf : 1 ≤ R.frames) {W cap : Nat} (hW : (rest.map fun v => v.category).sum = W) (hl : W + 14 ≤ R.locals) (hcap : n ≤ cap) (hc : ck + 1 ≤ R.cells) (hsl : sk + cap ≤ R.slots)
    (k : ∀ T' h' b, b = h.size → Stn p l e R s m args below meth c n0 T' h' (ck + 1) (sk + cap) → Ext h h' → Exa Z h' b ad → Ary Z h' b ty n f → Go p e below Post T' (mkF m (pc + 3) ls (.ref b :: rest))) : Go p e below Post T (mkF m pc ls (.ref a :: rest)) := by
  obtain ⟨eT, locs, N, Y⟩ := X
  obtain ⟨cl, A, r1, r2⟩ := A
  have FC : FitC Z cl := fitC_of A fun i hi v hv => by
    rw [r2 i (r1 ▸ hi)] at hv
    cases hv
    exact hfit i (r1 ▸ hi)
  obtain ⟨T', h', X', e', Ex, A', E', st⟩ := cloneA Y hx hZ hown w1 w2 w3 w4 w5 w6 eT A E FC (g := mkF m pc ls (.ref a :: rest)) rfl hsize rfl hd hf (W := W) (cap := cap) (by show 2 * 0 + _ ≤ _; omega) hl (by rw [r1]; exact hcap) hc hsl
  exact Go.st st (k T' h' _ rfl ⟨e', locs, N, X'⟩ Ex E' ⟨_, A', r1, r2⟩)
theorem goCast (X : Stn p l e R s m args below meth c n0 T h ck sk) (hx : p.tables.exec = Jvm.exec) (hZ : Z.Warmed39 s.vm) {own K : String} {index : Nat} (hown : s.vm.findClass own = some m.cls) (w : (Cond.classLink own index K).before a0 Z = true) {a : Addr} (F : Ins Z h a K true)
    {pc : Nat} {ls : Array Slot} {rest : List Value} (hd : decode c.code pc = .ok (.checkcast index, 3)) (k : ∀ T', Stn p l e R s m args below meth c n0 T' h ck sk → Go p e below Post T' (mkF m (pc + 3) ls (.ref a :: rest))) : Go p e below Post T (mkF m pc ls (.ref a :: rest)) := by
  obtain ⟨eT, locs, N, Y⟩ := X
  obtain ⟨T', X', e', st⟩ := castY Y hx hZ hown w eT F (g := mkF m pc ls (.ref a :: rest)) rfl rfl hd
  exact Go.st st (k T' ⟨e', locs, N, X'⟩)
theorem goLen (X : Stn p l e R s m args below meth c n0 T h ck sk) (hx : p.tables.exec = Jvm.exec) (hZ : Z.Warmed39 s.vm) {a : Addr} {ty : FieldType} {n : Nat} {f : Nat → Value} (A : Ary Z h a ty n f) {pc : Nat} {ls : Array Slot} {rest : List Value} (hd : decode c.code pc = .ok (.arraylength, 1))
    (k : Go p e below Post T (mkF m (pc + 1) ls (.int n.toInt32 :: rest))) : Go p e below Post T (mkF m pc ls (.ref a :: rest)) := by
  obtain ⟨eT, locs, N, Y⟩ := X
  obtain ⟨cl, A, r1, -⟩ := A
  subst r1
  exact Go.st (fun t q => Y.arraylength hx (by rw [eT]; exact A.1) (State.isArrayOf_alike hZ.alike A.2.1) (g := mkF m pc ls (.ref a :: rest)) rfl rfl hd t q) k
theorem goLdI (X : Stn p l e R s m args below meth c n0 T h ck sk) (hx : p.tables.exec = Jvm.exec) (hZ : Z.Warmed39 s.vm) {a : Addr} {n : Nat} {f : Nat → Int32} (A : Ary Z h a .int n (fun i => .int (f i))) {j : Int32} (hj : ¬ (j < 0 ∨ n ≤ j.toNatClampNeg)) {pc : Nat} {ls : Array Slot} {rest : List Value} (hd : decode c.code pc = .ok (.iaload, 1))
    (k : Go p e below Post T (mkF m (pc + 1) ls (.int (f j.toNatClampNeg) :: rest))) : Go p e below Post T (mkF m pc ls (.int j :: .ref a :: rest)) := by
  obtain ⟨eT, locs, N, Y⟩ := X
  obtain ⟨cl, A, r1, r2⟩ := A
  subst r1
  exact Go.st (fun t q => Y.iaload hx (j := j) (v := .int (f j.toNatClampNeg)) (by rw [eT]; exact A.1) (State.isArrayOf_alike hZ.alike A.2.1) A.2.2 hj (r2 _ (by omega)) (g := mkF m pc ls (.int j :: .ref a :: rest)) rfl rfl hd t q) k
theorem goLdJ (X : Stn p l e R s m args below meth c n0 T h ck sk) (hx : p.tables.exec = Jvm.exec) (hZ : Z.Warmed39 s.vm) {a : Addr} {n : Nat} {f : Nat → Int64} (A : Ary Z h a .long n (fun i => .long (f i))) {j : Int32} (hj : ¬ (j < 0 ∨ n ≤ j.toNatClampNeg)) {pc : Nat} {ls : Array Slot} {rest : List Value} (hd : decode c.code pc = .ok (.laload, 1))
    (k : Go p e below Post T (mkF m (pc + 1) ls (.long (f j.toNatClampNeg) :: rest))) : Go p e below Post T (mkF m pc ls (.int j :: .ref a :: rest)) := by
  obtain ⟨eT, locs, N, Y⟩ := X
  obtain ⟨cl, A, r1, r2⟩ := A
  subst r1
  exact Go.st (fun t q => Y.laload hx (j := j) (v := .long (f j.toNatClampNeg)) (by rw [eT]; exact A.1) (State.isArrayOf_alike hZ.alike A.2.1) A.2.2 hj (r2 _ (by omega)) (g := mkF m pc ls (.int j :: .ref a :: rest)) rfl rfl hd t q) k
theorem goStI (X : Stn p l e R s m args below meth c n0 T h ck sk) (hx : p.tables.exec = Jvm.exec) (hZ : Z.Warmed39 s.vm) {a : Addr} {n : Nat} {f : Nat → Int32} (A : Ary Z h a .int n (fun i => .int (f i))) {j x : Int32} (hj : ¬ (j < 0 ∨ n ≤ j.toNatClampNeg)) (ha : n0 ≤ a) {pc : Nat} {ls : Array Slot} {rest : List Value} (hd : decode c.code pc = .ok (.iastore, 1))
    (k : ∀ T' h', Stn p l e R s m args below meth c n0 T' h' ck sk → Wr h h' a j.toNatClampNeg (.int x) → Ary Z h' a .int n (fun i => .int (if i = j.toNatClampNeg then x else f i)) → Go p e below Post T' (mkF m (pc + 1) ls rest)) : Go p e below Post T (mkF m pc ls (.int x :: .int j :: .ref a :: rest)) := by
  obtain ⟨eT, locs, N, Y⟩ := X
  have A0 := A
  obtain ⟨cl, A, r1, r2⟩ := A
  subst r1
  obtain ⟨T', h', X', e', W, st⟩ := stI Y hx hZ eT A hj (g := mkF m pc ls (.int x :: .int j :: .ref a :: rest)) rfl rfl hd
  exact Go.st st (k T' h' ⟨e', _, Fr.snoc X' N ha, X'⟩ W ((A0.set W).congr fun i _ => by split <;> rfl))
theorem goStJ (X : Stn p l e R s m args below meth c n0 T h ck sk) (hx : p.tables.exec = Jvm.exec) (hZ : Z.Warmed39 s.vm) {a : Addr} {n : Nat} {f : Nat → Int64} (A : Ary Z h a .long n (fun i => .long (f i))) {j : Int32} {x : Int64} (hj : ¬ (j < 0 ∨ n ≤ j.toNatClampNeg)) (ha : n0 ≤ a) {pc : Nat} {ls : Array Slot} {rest : List Value} (hd : decode c.code pc = .ok (.lastore, 1))
    (k : ∀ T' h', Stn p l e R s m args below meth c n0 T' h' ck sk → Wr h h' a j.toNatClampNeg (.long x) → Ary Z h' a .long n (fun i => .long (if i = j.toNatClampNeg then x else f i)) → Go p e below Post T' (mkF m (pc + 1) ls rest)) : Go p e below Post T (mkF m pc ls (.long x :: .int j :: .ref a :: rest)) := by
  obtain ⟨eT, locs, N, Y⟩ := X
  have A0 := A
  obtain ⟨cl, A, r1, r2⟩ := A
  subst r1
  obtain ⟨T', h', X', e', W, st⟩ := stJ Y hx hZ eT A hj (g := mkF m pc ls (.long x :: .int j :: .ref a :: rest)) rfl rfl hd
  exact Go.st st (k T' h' ⟨e', _, Fr.snoc X' N ha, X'⟩ W ((A0.set W).congr fun i _ => by split <;> rfl))
/-! calls -/
theorem goStatic (X : Stn p l e R s m args below meth c n0 T h ck sk) (hx : p.tables.exec = Jvm.exec) (hZ : Z.Warmed39 s.vm) {own : String} {index : Nat} {y : MethodName} {bytes : ByteArray} {maxL : Nat} {ret : Option FieldType} {rm : Room} {as' : Array Value} {Q : Option Value → Heap → Prop}
    (hown : s.vm.findClass own = some m.cls) (w1 : (Cond.methodLink own index y).before a0 Z = true) (w2 : (Cond.static y).before a0 Z = true) (w3 : (Cond.initialized y.cls).before a0 Z = true) (w4 : (Cond.code y bytes maxL ret).before a0 Z = true)
    (hy : y.cls ≠ "java/lang/invoke/MethodHandle" ∧ y.cls ≠ "java/lang/invoke/VarHandle") (hM : Con l y bytes maxL ret rm [] Z n0 as' h Q) (W : Nat) (hf : rm.frames + 1 ≤ R.frames) (hl : W + (maxL + 11) + rm.locals ≤ R.locals)
    {pc : Nat} {ls : Array Slot} {stk : List Value} (hsize : ls.size = c.maxLocals) (argsL rest : List Value) (hlen : ∀ sig, parseMethodDescriptor y.desc = some sig → argsL.length = sig.parameters.length) (has : argsL.toArray = as') (hstk : stk = argsL.reverse ++ rest) (hW : (rest.map fun v => v.category).sum = W)
    (hd : decode c.code pc = .ok (.invokestatic index, 3)) (hc : ck + rm.cells ≤ R.cells) (hs : sk + rm.slots ≤ R.slots)
    (k : ∀ v T' h', Stn p l e R s m args below meth c n0 T' h' (ck + rm.cells) (sk + rm.slots) → Q v h' → Go p e below Post T' (mkF m (pc + 3) ls (v.toList ++ rest))) : Go p e below Post T (mkF m pc ls stk) := by
  obtain ⟨eT, locs, N, Y⟩ := X
  obtain ⟨v, _, ⟨T', L', k', n'⟩, -, X', ⟨Lc, ⟨hN, hQ⟩, l', y', z'⟩, st⟩ := Jvm.LawKit.callS Y hx (y := y) hown (mvT hZ w1) (mvT hZ w2) (mvT hZ w3) (mvT hZ w4) hy (backOf (W := W) (Q := fun v h' L => Fr n0 L ∧ Q v h') hM hZ w4 w3 hf hl) (g := mkF m pc ls stk) rfl hsize (argsL := argsL) (rest := rest) hlen hstk (by show 2 * 0 + _ ≤ _; omega) hd (fun _ _ => ⟨has, eT, hc, hs⟩)
  dsimp only [Pt.U, Pt.locs, Pt.cells, Pt.slots] at X' l' y' z' st hQ
  subst l' y' z'
  exact Go.st st (k v T' T'.heap ⟨rfl, _, Fr.app N hN, X'⟩ hQ)
theorem goCtor (X : Stn p l e R s m args below meth c n0 T h ck sk) (hx : p.tables.exec = Jvm.exec) (hZ : Z.Warmed39 s.vm) {own : String} {index : Nat} {y : MethodName} {bytes : ByteArray} {maxL : Nat} {rm : Room} {as' : Array Value} {Q : Option Value → Heap → Prop} (hy1 : y.name = "<init>")
    (hown : s.vm.findClass own = some m.cls) (w1 : (Cond.methodLink own index y).before a0 Z = true) (w2 : (Cond.instanceMethod y).before a0 Z = true) (w3 : (Cond.initialized y.cls).before a0 Z = true) (w4 : (Cond.code y bytes maxL none).before a0 Z = true)
    (hy : y.cls ≠ "java/lang/invoke/MethodHandle" ∧ y.cls ≠ "java/lang/invoke/VarHandle") (hM : Con l y bytes maxL none rm [] Z n0 as' h Q) (W : Nat) (hf : rm.frames + 1 ≤ R.frames) (hl : W + (maxL + 11) + rm.locals ≤ R.locals)
    {pc : Nat} {ls : Array Slot} {stk : List Value} (hsize : ls.size = c.maxLocals) (a : Addr) (argsL rest : List Value) (hlen : ∀ sig, parseMethodDescriptor y.desc = some sig → argsL.length = sig.parameters.length) (has : (.ref a :: argsL).toArray = as') (hstk : stk = argsL.reverse ++ .ref a :: rest) (hW : (rest.map fun v => v.category).sum = W)
    (hd : decode c.code pc = .ok (.invokespecial index, 3)) (hc : ck + rm.cells ≤ R.cells) (hs : sk + rm.slots ≤ R.slots)
    (k : ∀ v T' h', Stn p l e R s m args below meth c n0 T' h' (ck + rm.cells) (sk + rm.slots) → Q v h' → Go p e below Post T' (mkF m (pc + 3) ls (v.toList ++ rest))) : Go p e below Post T (mkF m pc ls stk) := by
  obtain ⟨eT, locs, N, Y⟩ := X
  obtain ⟨v, _, ⟨T', L', k', n'⟩, -, X', ⟨Lc, ⟨hN, hQ⟩, l', y', z'⟩, st⟩ := Y.specialBack hx (y := y) hy1 hown (mvT hZ w1) (mvT hZ w2) (mvT hZ w4) hy (backOf (W := W) (Q := fun v h' L => Fr n0 L ∧ Q v h') hM hZ w4 w3 hf hl) (g := mkF m pc ls stk) rfl hsize (Steps.refl _) (a := a) (argsL := argsL) (rest := rest) hlen hstk (by show 2 * 0 + _ ≤ _; omega) hd (fun _ _ => ⟨has, eT, hc, hs⟩)
  dsimp only [Pt.U, Pt.locs, Pt.cells, Pt.slots] at X' l' y' z' st hQ
  subst l' y' z'
  exact Go.st (fun t q => st.trans q) (k v T' T'.heap ⟨rfl, _, Fr.app N hN, X'⟩ hQ)
theorem goVirt (X : Stn p l e R s m args below meth c n0 T h ck sk) (hx : p.tables.exec = Jvm.exec) (hZ : Z.Warmed39 s.vm) {own C : String} {index : Nat} {y z : MethodName} {bytes : ByteArray} {maxL : Nat} {ret : Option FieldType} {rm : Room} {as' : Array Value} {Q : Option Value → Heap → Prop}
    (hown : s.vm.findClass own = some m.cls) (w1 : (Cond.methodLink own index y).before a0 Z = true) (w2 : (Cond.declares y).before a0 Z = true) (nf : NotFace s y) (w5 : (Cond.selects C y z).before a0 Z = true) (w6 : (Cond.instanceMethod z).before a0 Z = true) (w3 : (Cond.initialized z.cls).before a0 Z = true) (w4 : (Cond.code z bytes maxL ret).before a0 Z = true)
    (hy : y.cls ≠ "java/lang/invoke/MethodHandle" ∧ y.cls ≠ "java/lang/invoke/VarHandle") {a : Addr} (E : Exa Z h a C) (hM : Con l z bytes maxL ret rm [] Z n0 as' h Q) (W : Nat) (hf : rm.frames + 1 ≤ R.frames) (hl : W + (maxL + 11) + rm.locals ≤ R.locals)
    {pc : Nat} {ls : Array Slot} {stk : List Value} (hsize : ls.size = c.maxLocals) (argsL rest : List Value) (hlen : ∀ sig, parseMethodDescriptor y.desc = some sig → argsL.length = sig.parameters.length) (has : (.ref a :: argsL).toArray = as') (hstk : stk = argsL.reverse ++ .ref a :: rest) (hW : (rest.map fun v => v.category).sum = W)
    (hd : decode c.code pc = .ok (.invokevirtual index, 3)) (hc : ck + rm.cells ≤ R.cells) (hs : sk + rm.slots ≤ R.slots)
    (k : ∀ v T' h', Stn p l e R s m args below meth c n0 T' h' (ck + rm.cells) (sk + rm.slots) → Q v h' → Go p e below Post T' (mkF m (pc + 3) ls (v.toList ++ rest))) : Go p e below Post T (mkF m pc ls stk) := by
  obtain ⟨eT, locs, N, Y⟩ := X
  obtain ⟨cq, kq, q1, q2, q3⟩ := isOf hZ eT E
  obtain ⟨v, _, ⟨T', L', k', n'⟩, -, X', ⟨Lc, ⟨hN, hQ⟩, l', y', z'⟩, st⟩ := Y.virtualBack hx (y := y) (z := z) hown (mvT hZ w1) (mvT hZ w2) nf (mvT hZ w5) (mvT hZ w6) hy (backOf (W := W) (Q := fun v h' L => Fr n0 L ∧ Q v h') hM hZ w4 w3 hf hl) q1 q3 (g := mkF m pc ls stk) rfl hsize (Steps.refl _) (argsL := argsL) (rest := rest) hlen hstk (by show 2 * 0 + _ ≤ _; omega) hd (fun _ _ => ⟨has, eT, hc, hs⟩)
  dsimp only [Pt.U, Pt.locs, Pt.cells, Pt.slots] at X' l' y' z' st hQ
  subst l' y' z'
  exact Go.st (fun t q => st.trans q) (k v T' T'.heap ⟨rfl, _, Fr.app N hN, X'⟩ hQ)
theorem goVirtS (X : Stn p l e R s m args below meth c n0 T h ck sk) (hx : p.tables.exec = Jvm.exec) (hZ : Z.Warmed39 s.vm) {own : String} {index : Nat} {y : MethodName} {bytes : ByteArray} {maxL : Nat} {ret : Option FieldType} {rm : Room} {as' : Array Value} {Q : Option Value → Heap → Prop}
    (hown : s.vm.findClass own = some m.cls) (w1 : (Cond.methodLink own index y).before a0 Z = true) (w2 : (Cond.declares y).before a0 Z = true) (w5 : (Cond.selects y.cls y y).before a0 Z = true) (w6 : (Cond.instanceMethod y).before a0 Z = true) (w3 : (Cond.initialized y.cls).before a0 Z = true) (w4 : (Cond.code y bytes maxL ret).before a0 Z = true)
    (hy : y.cls ≠ "java/lang/invoke/MethodHandle" ∧ y.cls ≠ "java/lang/invoke/VarHandle") {a : Addr} (E : Exa Z h a y.cls) (hM : Con l y bytes maxL ret rm [] Z n0 as' h Q) (W : Nat) (hf : rm.frames + 1 ≤ R.frames) (hl : W + (maxL + 11) + rm.locals ≤ R.locals)
    {pc : Nat} {ls : Array Slot} {stk : List Value} (hsize : ls.size = c.maxLocals) (argsL rest : List Value) (hlen : ∀ sig, parseMethodDescriptor y.desc = some sig → argsL.length = sig.parameters.length) (has : (.ref a :: argsL).toArray = as') (hstk : stk = argsL.reverse ++ .ref a :: rest) (hW : (rest.map fun v => v.category).sum = W)
    (hd : decode c.code pc = .ok (.invokevirtual index, 3)) (hc : ck + rm.cells ≤ R.cells) (hs : sk + rm.slots ≤ R.slots)
    (k : ∀ v T' h', Stn p l e R s m args below meth c n0 T' h' (ck + rm.cells) (sk + rm.slots) → Q v h' → Go p e below Post T' (mkF m (pc + 3) ls (v.toList ++ rest))) : Go p e below Post T (mkF m pc ls stk) :=
  goVirt X hx hZ hown w1 w2 (notFace_of_selects (args := #[]) (mvT hZ w5)) w5 w6 w3 w4 hy E hM W hf hl hsize argsL rest hlen has hstk hW hd hc hs k
theorem goPriv (X : Stn p l e R s m args below meth c n0 T h ck sk) (hx : p.tables.exec = Jvm.exec) (hZ : Z.Warmed39 s.vm) {own C : String} {index : Nat} {y : MethodName} {bytes : ByteArray} {maxL : Nat} {ret : Option FieldType} {rm : Room} {as' : Array Value} {Q : Option Value → Heap → Prop}
    (hown : s.vm.findClass own = some m.cls) (w1 : (Cond.methodLink own index y).before a0 Z = true) (w6 : (Cond.instanceMethod y).before a0 Z = true) {kk : Nat} (wi : (Cond.instantiable y.cls kk).before a0 Z = true) (w7 : (Cond.privateMethod y).before a0 Z = true) (w3 : (Cond.initialized y.cls).before a0 Z = true) (w4 : (Cond.code y bytes maxL ret).before a0 Z = true)
    (hy : y.cls ≠ "java/lang/invoke/MethodHandle" ∧ y.cls ≠ "java/lang/invoke/VarHandle") {a : Addr} (E : Exa Z h a C) (hM : Con l y bytes maxL ret rm [] Z n0 as' h Q) (W : Nat) (hf : rm.frames + 1 ≤ R.frames) (hl : W + (maxL + 11) + rm.locals ≤ R.locals)
    {pc : Nat} {ls : Array Slot} {stk : List Value} (hsize : ls.size = c.maxLocals) (argsL rest : List Value) (hlen : ∀ sig, parseMethodDescriptor y.desc = some sig → argsL.length = sig.parameters.length) (has : (.ref a :: argsL).toArray = as') (hstk : stk = argsL.reverse ++ .ref a :: rest) (hW : (rest.map fun v => v.category).sum = W)
    (hd : decode c.code pc = .ok (.invokevirtual index, 3)) (hc : ck + rm.cells ≤ R.cells) (hs : sk + rm.slots ≤ R.slots)
    (k : ∀ v T' h', Stn p l e R s m args below meth c n0 T' h' (ck + rm.cells) (sk + rm.slots) → Q v h' → Go p e below Post T' (mkF m (pc + 3) ls (v.toList ++ rest))) : Go p e below Post T (mkF m pc ls stk) := by
  obtain ⟨eT, locs, N, Y⟩ := X
  obtain ⟨cq, q1, q2⟩ := E.cell
  have hi : (Cond.instantiable y.cls kk).before args s = true := mvT hZ wi
  obtain ⟨ci, ki, i1, i2, -, i4, -⟩ := Cond.instantiable_spec hi
  have i7 : ki.isInterface = false := by
    cases q : ki.isInterface
    · rfl
    · rw [q] at i4; cases i4
  have hsel : (Cond.selects y.cls y y).before args s = true := selects_self_of_private i1 i2 i7 (Cond.privateMethod_at (mvP hZ w7 (args := #[]))) (mvT hZ w6) hy
  obtain ⟨v, _, ⟨T', L', k', n'⟩, -, X', ⟨Lc, ⟨hN, hQ⟩, l', y', z'⟩, st⟩ := Y.privateBack hx (y := y) hown (mvT hZ w1) (mvT hZ w6) hsel (Cond.privateMethod_at (mvP hZ w7 (args := #[]))) (mvT hZ w4) hy (backOf (W := W) (Q := fun v h' L => Fr n0 L ∧ Q v h') hM hZ w4 w3 hf hl) (g := mkF m pc ls stk) rfl hsize (Steps.refl _) (a := a) (by rw [eT]; exact q1) q2 (argsL := argsL) (rest := rest) hlen hstk (by show 2 * 0 + _ ≤ _; omega) hd (fun _ _ => ⟨has, eT, hc, hs⟩)
  dsimp only [Pt.U, Pt.locs, Pt.cells, Pt.slots] at X' l' y' z' st hQ
  subst l' y' z'
  exact Go.st (fun t q => st.trans q) (k v T' T'.heap ⟨rfl, _, Fr.app N hN, X'⟩ hQ)
theorem own_i32_rem (x y : Int32) : x - (x / y) * y = x % y := by
  apply Int32.toInt_inj.mp
  rw [Int32.toInt_mod, Int32.toInt_sub, Int32.toInt_mul, Int32.toInt_div]
  have hb : x.toInt.tmod y.toInt = (x.toInt.tmod y.toInt).bmod (2 ^ 32) := by
    rw [← Int32.toInt_mod]
    exact (Int32.toInt_bmod _).symm
  rw [hb, Int.tmod_def]
  simp [Int.mul_comm]
theorem own_irem {T target : State} (X : At T m c below) (hx : p.tables.exec = Jvm.exec) {pc : Nat} {ls : Array Slot} {x y : Int32} {rest : List Value} (hd : decode c.code pc = .ok (.irem, 1)) (hy : y ≠ 0)
    (hr : Steps p.tables e below (T.setTop (mkF m (pc + 1) ls (.int (x % y) :: rest))) target) : Steps p.tables e below (T.setTop (mkF m pc ls (.int y :: .int x :: rest))) target :=
  XS.irem X hx (g := mkF m pc ls (.int y :: .int x :: rest)) rfl hd rfl hy (by rw [own_i32_rem]; exact hr)
end OwnLayer

theorem own_m61 (u : Int64) : 0 ≤ (u &&& (2305843009213693951 : Int64)).toInt ∧ (u &&& (2305843009213693951 : Int64)).toInt < 2305843009213693952 := by
  rw [Jvm.Kit.i64_mask u 2305843009213693951 (k := 61) (by decide) (by decide)]
  omega
theorem own_m63 (u : Int64) : 0 ≤ (u &&& (9223372036854775807 : Int64)).toInt := by
  rw [Jvm.Kit.i64_mask u 9223372036854775807 (k := 63) (by decide) (by decide)]
  omega
/-- one take of the budget -/
def own_take (w q : Int64) (r : Int32) (w' : Int64) : Prop := (r = 1 ∧ ¬ w < q ∧ w' = w - q) ∨ (r = 0 ∧ w < q ∧ w' = 0)
theorem own_law {bud a b d : Int64} {r1 r2 r3 e1 e2 e3 : Int32} {l1 l2 l3 : Int64} (hb : 0 ≤ bud.toInt) (ha : 0 ≤ a.toInt ∧ a.toInt < 2305843009213693952) (hb2 : 0 ≤ b.toInt ∧ b.toInt < 2305843009213693952) (hd : 0 ≤ d.toInt ∧ d.toInt < 2305843009213693952)
    (t1 : own_take bud a r1 l1) (t2 : own_take l1 b r2 l2) (t3 : own_take l2 d r3 l3)
    (q1 : e1 = (if bud < a then (0 : Int32) else (1 : Int32))) (q2 : e2 = (if e1 = (0 : Int32) then (if b = (0 : Int64) then (1 : Int32) else (0 : Int32)) else (if bud < (a + b) then (0 : Int32) else (1 : Int32))))
    (q3 : e3 = (if e1 = (0 : Int32) then (if d = (0 : Int64) then (1 : Int32) else (0 : Int32)) else (if e2 = (0 : Int32) then (if d = (0 : Int64) then (1 : Int32) else (0 : Int32)) else (if bud < ((a + b) + d) then (0 : Int32) else (1 : Int32))))) :
    r1 = e1 ∧ r2 = e2 ∧ r3 = e3 := by
  have hB := bud.toInt_lt
  have s1 : (a + b).toInt = a.toInt + b.toInt := Jvm.Kit.i64_add (by omega) (by omega)
  have s2 : (a + b + d).toInt = a.toInt + b.toInt + d.toInt := by rw [Jvm.Kit.i64_add (by omega) (by omega), s1]
  simp only [own_take, Int64.lt_iff_toInt_lt] at *
  have z32 : ¬ ((1 : Int32) = 0) := by decide
  rcases t1 with ⟨rfl, c1, rfl⟩ | ⟨rfl, c1, rfl⟩
  · have k1 : (bud - a).toInt = bud.toInt - a.toInt := Jvm.Kit.i64_sub (by omega) (by omega)
    rw [if_neg c1] at q1
    subst q1
    rw [if_neg z32] at q2 q3
    refine ⟨rfl, ?_⟩
    rcases t2 with ⟨rfl, c2, rfl⟩ | ⟨rfl, c2, rfl⟩
    · have k2 : (bud - a - b).toInt = bud.toInt - a.toInt - b.toInt := by rw [Jvm.Kit.i64_sub (by omega) (by omega), k1]
      rw [if_neg (by omega)] at q2
      subst q2
      rw [if_neg z32] at q3
      refine ⟨rfl, ?_⟩
      rcases t3 with ⟨rfl, c3, -⟩ | ⟨rfl, c3, -⟩
      · rw [if_neg (by omega)] at q3; exact q3.symm
      · rw [if_pos (by omega)] at q3; exact q3.symm
    · rw [if_pos (by omega)] at q2
      subst q2
      rw [if_pos rfl] at q3
      refine ⟨rfl, ?_⟩
      rcases t3 with ⟨rfl, c3, -⟩ | ⟨rfl, c3, -⟩
      · rw [if_pos (Int64.toInt_inj.mp (by simp at c3 ⊢; omega))] at q3; exact q3.symm
      · rw [if_neg (fun z => by rw [z] at c3; simp at c3)] at q3; exact q3.symm
  · rw [if_pos c1] at q1
    subst q1
    rw [if_pos rfl] at q2 q3
    refine ⟨rfl, ?_⟩
    rcases t2 with ⟨rfl, c2, rfl⟩ | ⟨rfl, c2, rfl⟩
    · have b0 : b = 0 := Int64.toInt_inj.mp (by simp at c2 ⊢; omega)
      rw [if_pos b0] at q2
      subst q2
      refine ⟨rfl, ?_⟩
      subst b0
      rcases t3 with ⟨rfl, c3, -⟩ | ⟨rfl, c3, -⟩
      · rw [if_pos (Int64.toInt_inj.mp (by simp at c3 ⊢; omega))] at q3; exact q3.symm
      · rw [if_neg (fun z => by rw [z] at c3; simp at c3)] at q3; exact q3.symm
    · rw [if_neg (fun z => by rw [z] at c2; simp at c2)] at q2
      subst q2
      refine ⟨rfl, ?_⟩
      rcases t3 with ⟨rfl, c3, -⟩ | ⟨rfl, c3, -⟩
      · rw [if_pos (Int64.toInt_inj.mp (by simp at c3 ⊢; omega))] at q3; exact q3.symm
      · rw [if_neg (fun z => by rw [z] at c3; simp at c3)] at q3; exact q3.symm

theorem d1_0 : decode prog_189_method_1_code 0 = .ok (.aload_n 0, 1) := by decide +kernel
theorem d1_1 : decode prog_189_method_1_code 1 = .ok (.invokespecial 1, 3) := by decide +kernel
theorem d1_4 : decode prog_189_method_1_code 4 = .ok (.aload_n 0, 1) := by decide +kernel
theorem d1_5 : decode prog_189_method_1_code 5 = .ok (.lload_n 1, 1) := by decide +kernel
theorem d1_6 : decode prog_189_method_1_code 6 = .ok (.putfield 7, 3) := by decide +kernel
theorem d1_9 : decode prog_189_method_1_code 9 = .ok (.return_, 1) := by decide +kernel
theorem pn_1 : plainFor (⟨"com/example/kenshinkit/kenshinkit/schema/WorkBudget", "<init>", "(J)V"⟩ : MethodName) = true := plainFor_of_name (by first | (simp [plainName, overriddenIn]; done) | decide +kernel)
theorem ef_rm1 (m : MethodId) (x0 : Addr) (x1 : Int64) : entryFrame m #[(.ref x0), (.long x1)] 3 = mkF m 0 #[.val (.ref x0), .val (.long x1), .second] [] := by first | (simp [entryFrame, mkF, argsToLocals, Value.category]; done) | rfl
def Q1 (Z : State) (n0 : Nat) (h0 : Heap) (a : Addr) (q : Int64) (u : Value) (v : Option Value) (h : Heap) : Prop := v = none ∧ Keep h0 h [a] ∧ Exa Z h a "com/example/kenshinkit/kenshinkit/schema/WorkBudget" ∧ Fld Z h a "com/example/kenshinkit/kenshinkit/schema/WorkBudget" "left" "J" (.long q)
set_option maxRecDepth 65536 in
set_option maxHeartbeats 40000000 in
theorem rm1 (l : Launch) (Z : State) (a0 : Array Value) (hw : ∀ d ∈ tables_1, d.before a0 Z = true) (ws : List Jvm.Cond) (n0 : Nat) (h0 : Heap) (a : Addr) (q : Int64) (u : Value) (sz0 : n0 ≤ h0.size) (g0 : Exa Z h0 a "com/example/kenshinkit/kenshinkit/schema/WorkBudget") (g1 : Fld Z h0 a "com/example/kenshinkit/kenshinkit/schema/WorkBudget" "left" "J" u) (g2 : n0 ≤ a) :
    Con l (⟨"com/example/kenshinkit/kenshinkit/schema/WorkBudget", "<init>", "(J)V"⟩ : MethodName) prog_189_method_1_code 3 none ({ frames := 1, cells := 0, slots := 0, locals := 12 } : Room) ws Z n0 #[(.ref a), (.long q)] h0 (Q1 Z n0 h0 a q u) := by
  refine Con.body pn_1 ?_
  intro p e s m below meth c s₁ hx hby hml hown hnm hret hlk hZ X0
  have hown : s.vm.findClass "com/example/kenshinkit/kenshinkit/schema/WorkBudget" = some m.cls := hown
  have hnm : meth.name = "<init>" := hnm
  have K0 : Keep h0 h0 [a] := Keep.refl _ _
  rw [show entryFrame m #[(.ref a), (.long q)] 3 = mkF m 0 #[.val (.ref a), .val (.long q), .second] [] from ef_rm1 m a q]
  show Go p e below (PostW s n0 (0 : Nat) (0 : Nat) (Q1 Z n0 h0 a q u)) s₁ (mkF m 0 #[.val (.ref a), .val (.long q), .second] [])
  refine Go.st (T' := s₁) (g' := (mkF m 1 #[.val (.ref a), .val (.long q), .second] [(.ref a)])) (fun t_ k_ => XS.aloadN X0.here hx rfl (hb hby d1_0) rfl rfl k_) ?_
  refine goInit X0 hx hZ hown (hw _ (List.mem_of_getElem? (i := 8) rfl)) (hw _ (List.mem_of_getElem? (i := 9) rfl)) (hw _ (List.mem_of_getElem? (i := 10) rfl)) (by rw [hml]; rfl) (hb hby d1_1) (by decide) (W := 0) (Nat.le_of_eq rfl) (by decide) fun T1 X1 => ?_
  show Go p e below _ T1 (mkF m 4 #[.val (.ref a), .val (.long q), .second] [])
  refine Go.st (T' := T1) (g' := (mkF m 5 #[.val (.ref a), .val (.long q), .second] [(.ref a)])) (fun t_ k_ => XS.aloadN X1.here hx rfl (hb hby d1_4) rfl rfl k_) ?_
  refine Go.st (T' := T1) (g' := (mkF m 6 #[.val (.ref a), .val (.long q), .second] [(.long q), (.ref a)])) (fun t_ k_ => XS.lloadN X1.here hx rfl (hb hby d1_5) rfl k_) ?_
  refine goPut X1 hx hZ hown (host := "") (Or.inl (hw _ (List.mem_of_getElem? (i := 11) rfl))) Via.refl g1 g0 (Or.inl (hw _ (List.mem_of_getElem? (i := 12) rfl))) (hw _ (List.mem_of_getElem? (i := 3) rfl)) (ty := .long) (by decide) rfl rfl g2 (hb hby d1_6) fun T2 h2 X2 W2 => ?_
  have Fw2 := g1.same W2
  have f2_0 : Exa Z h2 a "com/example/kenshinkit/kenshinkit/schema/WorkBudget" := g0.wr W2
  have sz2 : n0 ≤ h2.size := Nat.le_trans sz0 (Keep.of_wr W2).1
  have K2 : Keep h0 h2 [a] := K0.wr W2 (Or.inl (List.mem_of_getElem? (i := 0) rfl))
  show Go p e below _ T2 (mkF m 9 #[.val (.ref a), .val (.long q), .second] [])
  refine goRetV X2 hx hlk hret (hb hby d1_9) (by decide) (by decide) ?_
  refine ⟨rfl, K2, f2_0, Fw2⟩
theorem d3_0 : decode prog_189_method_2_code 0 = .ok (.lload_n 1, 1) := by decide +kernel
theorem d3_1 : decode prog_189_method_2_code 1 = .ok (.aload_n 0, 1) := by decide +kernel
theorem d3_2 : decode prog_189_method_2_code 2 = .ok (.getfield 7, 3) := by decide +kernel
theorem d3_5 : decode prog_189_method_2_code 5 = .ok (.lcmp, 1) := by decide +kernel
theorem d3_6 : decode prog_189_method_2_code 6 = .ok (.ifCond .gt 7, 3) := by decide +kernel
theorem d3_9 : decode prog_189_method_2_code 9 = .ok (.iconst 1, 1) := by decide +kernel
theorem d3_10 : decode prog_189_method_2_code 10 = .ok (.goto 4, 3) := by decide +kernel
theorem d3_13 : decode prog_189_method_2_code 13 = .ok (.iconst 0, 1) := by decide +kernel
theorem d3_14 : decode prog_189_method_2_code 14 = .ok (.istore_n 3, 1) := by decide +kernel
theorem d3_15 : decode prog_189_method_2_code 15 = .ok (.aload_n 0, 1) := by decide +kernel
theorem d3_16 : decode prog_189_method_2_code 16 = .ok (.iload_n 3, 1) := by decide +kernel
theorem d3_17 : decode prog_189_method_2_code 17 = .ok (.ifCond .eq 12, 3) := by decide +kernel
theorem d3_20 : decode prog_189_method_2_code 20 = .ok (.aload_n 0, 1) := by decide +kernel
theorem d3_21 : decode prog_189_method_2_code 21 = .ok (.getfield 7, 3) := by decide +kernel
theorem d3_24 : decode prog_189_method_2_code 24 = .ok (.lload_n 1, 1) := by decide +kernel
theorem d3_25 : decode prog_189_method_2_code 25 = .ok (.lsub, 1) := by decide +kernel
theorem d3_26 : decode prog_189_method_2_code 26 = .ok (.goto 4, 3) := by decide +kernel
theorem d3_29 : decode prog_189_method_2_code 29 = .ok (.lconst 0, 1) := by decide +kernel
theorem d3_30 : decode prog_189_method_2_code 30 = .ok (.putfield 7, 3) := by decide +kernel
theorem d3_33 : decode prog_189_method_2_code 33 = .ok (.iload_n 3, 1) := by decide +kernel
theorem d3_34 : decode prog_189_method_2_code 34 = .ok (.ireturn, 1) := by decide +kernel
theorem pn_3 : plainFor (⟨"com/example/kenshinkit/kenshinkit/schema/WorkBudget", "take", "(J)Z"⟩ : MethodName) = true := plainFor_of_name (by first | (simp [plainName, overriddenIn]; done) | decide +kernel)
theorem ef_rm3 (m : MethodId) (x0 : Addr) (x1 : Int64) : entryFrame m #[(.ref x0), (.long x1)] 4 = mkF m 0 #[.val (.ref x0), .val (.long x1), .second, .unset] [] := by first | (simp [entryFrame, mkF, argsToLocals, Value.category]; done) | rfl
def Q3 (Z : State) (n0 : Nat) (h0 : Heap) (a : Addr) (q : Int64) (w : Int64) (v : Option Value) (h : Heap) : Prop := ∃ (r : Int32) (w' : Int64), v = some (.int r) ∧ Keep h0 h [a] ∧ Exa Z h a "com/example/kenshinkit/kenshinkit/schema/WorkBudget" ∧ Fld Z h a "com/example/kenshinkit/kenshinkit/schema/WorkBudget" "left" "J" (.long w') ∧ (own_take w q r w')
set_option maxRecDepth 65536 in
set_option maxHeartbeats 40000000 in
theorem rm3 (l : Launch) (Z : State) (a0 : Array Value) (hw : ∀ d ∈ tables_1, d.before a0 Z = true) (ws : List Jvm.Cond) (n0 : Nat) (h0 : Heap) (a : Addr) (q : Int64) (w : Int64) (sz0 : n0 ≤ h0.size) (g0 : Exa Z h0 a "com/example/kenshinkit/kenshinkit/schema/WorkBudget") (g1 : Fld Z h0 a "com/example/kenshinkit/kenshinkit/schema/WorkBudget" "left" "J" (.long w)) (g2 : n0 ≤ a) :
    Con l (⟨"com/example/kenshinkit/kenshinkit/schema/WorkBudget", "take", "(J)Z"⟩ : MethodName) prog_189_method_2_code 4 (some .boolean) ({ frames := 0, cells := 0, slots := 0, locals := 0 } : Room) ws Z n0 #[(.ref a), (.long q)] h0 (Q3 Z n0 h0 a q w) := by
  refine Con.body pn_3 ?_
  intro p e s m below meth c s₁ hx hby hml hown hnm hret hlk hZ X0
  have hown : s.vm.findClass "com/example/kenshinkit/kenshinkit/schema/WorkBudget" = some m.cls := hown
  have hnm : meth.name = "take" := hnm
  have K0 : Keep h0 h0 [a] := Keep.refl _ _
  rw [show entryFrame m #[(.ref a), (.long q)] 4 = mkF m 0 #[.val (.ref a), .val (.long q), .second, .unset] [] from ef_rm3 m a q]
  show Go p e below (PostW s n0 (0 : Nat) (0 : Nat) (Q3 Z n0 h0 a q w)) s₁ (mkF m 0 #[.val (.ref a), .val (.long q), .second, .unset] [])
  refine Go.st (T' := s₁) (g' := (mkF m 1 #[.val (.ref a), .val (.long q), .second, .unset] [(.long q)])) (fun t_ k_ => XS.lloadN X0.here hx rfl (hb hby d3_0) rfl k_) ?_
  refine Go.st (T' := s₁) (g' := (mkF m 2 #[.val (.ref a), .val (.long q), .second, .unset] [(.ref a), (.long q)])) (fun t_ k_ => XS.aloadN X0.here hx rfl (hb hby d3_1) rfl rfl k_) ?_
  refine goGet X0 hx hZ hown (host := "") (Or.inl (hw _ (List.mem_of_getElem? (i := 11) rfl))) Via.refl g1 (hb hby d3_2) fun T1 X1 => ?_
  show Go p e below _ T1 (mkF m 5 #[.val (.ref a), .val (.long q), .second, .unset] [(.long w), (.long q)])
  refine Go.st (T' := T1) (g' := (mkF m 6 #[.val (.ref a), .val (.long q), .second, .unset] [(.int (lcmpW q w))])) (fun t_ k_ => XS.lcmp X1.here hx rfl (hb hby d3_5) rfl k_) ?_
  by_cases hc6 : w < q
  · skip
    refine Go.st (T' := T1) (g' := (mkF m 13 #[.val (.ref a), .val (.long q), .second, .unset] [])) (fun t_ k_ => XS.ifYes X1.here hx rfl (pc0 := 6) (pc' := 13) rfl (hb hby d3_6) rfl (lcTgt hc6).1 (by decide) (by decide) k_) ?_
    refine Go.st (T' := T1) (g' := (mkF m 14 #[.val (.ref a), .val (.long q), .second, .unset] [(.int (0 : Int32))])) (fun t_ k_ => XS.iconst X1.here hx rfl (hb hby d3_13) k_) ?_
    refine Go.st (T' := T1) (g' := (mkF m 15 #[.val (.ref a), .val (.long q), .second, .val (.int (0 : Int32))] [])) (fun t_ k_ => XS.istoreN X1.here hx rfl (hb hby d3_14) rfl (l' := #[.val (.ref a), .val (.long q), .second, .val (.int (0 : Int32))]) rfl k_) ?_
    refine Go.st (T' := T1) (g' := (mkF m 16 #[.val (.ref a), .val (.long q), .second, .val (.int (0 : Int32))] [(.ref a)])) (fun t_ k_ => XS.aloadN X1.here hx rfl (hb hby d3_15) rfl rfl k_) ?_
    refine Go.st (T' := T1) (g' := (mkF m 17 #[.val (.ref a), .val (.long q), .second, .val (.int (0 : Int32))] [(.int (0 : Int32)), (.ref a)])) (fun t_ k_ => XS.iloadN X1.here hx rfl (hb hby d3_16) rfl k_) ?_
    refine Go.st (T' := T1) (g' := (mkF m 29 #[.val (.ref a), .val (.long q), .second, .val (.int (0 : Int32))] [(.ref a)])) (fun t_ k_ => XS.ifYes X1.here hx rfl (pc0 := 17) (pc' := 29) rfl (hb hby d3_17) rfl (by decide) (by decide) (by decide) k_) ?_
    refine Go.st (T' := T1) (g' := (mkF m 30 #[.val (.ref a), .val (.long q), .second, .val (.int (0 : Int32))] [(.long (0 : Int64)), (.ref a)])) (fun t_ k_ => XS.lconst X1.here hx rfl (hb hby d3_29) k_) ?_
    refine goPut X1 hx hZ hown (host := "") (Or.inl (hw _ (List.mem_of_getElem? (i := 11) rfl))) Via.refl g1 g0 (Or.inl (hw _ (List.mem_of_getElem? (i := 12) rfl))) (hw _ (List.mem_of_getElem? (i := 3) rfl)) (ty := .long) (by decide) rfl rfl g2 (hb hby d3_30) fun T2 h2 X2 W2 => ?_
    have Fw2 := g1.same W2
    have f2_0 : Exa Z h2 a "com/example/kenshinkit/kenshinkit/schema/WorkBudget" := g0.wr W2
    have sz2 : n0 ≤ h2.size := Nat.le_trans sz0 (Keep.of_wr W2).1
    have K2 : Keep h0 h2 [a] := K0.wr W2 (Or.inl (List.mem_of_getElem? (i := 0) rfl))
    show Go p e below _ T2 (mkF m 33 #[.val (.ref a), .val (.long q), .second, .val (.int (0 : Int32))] [])
    refine Go.st (T' := T2) (g' := (mkF m 34 #[.val (.ref a), .val (.long q), .second, .val (.int (0 : Int32))] [(.int (0 : Int32))])) (fun t_ k_ => XS.iloadN X2.here hx rfl (hb hby d3_33) rfl k_) ?_
    refine goRetZ X2 hx hlk hret (hb hby d3_34) (by decide) (by decide) (Or.inl rfl) ?_
    refine ⟨(0 : Int32), (0 : Int64), rfl, K2, f2_0, Fw2, ?_⟩
    · first | exact Or.inl ⟨rfl, hc6, rfl⟩ | exact Or.inr ⟨rfl, hc6, rfl⟩
  · skip
    refine Go.st (T' := T1) (g' := (mkF m 9 #[.val (.ref a), .val (.long q), .second, .unset] [])) (fun t_ k_ => XS.ifNo X1.here hx rfl (hb hby d3_6) rfl (lcFgt hc6).1 k_) ?_
    refine Go.st (T' := T1) (g' := (mkF m 10 #[.val (.ref a), .val (.long q), .second, .unset] [(.int (1 : Int32))])) (fun t_ k_ => XS.iconst X1.here hx rfl (hb hby d3_9) k_) ?_
    refine Go.st (T' := T1) (g' := (mkF m 14 #[.val (.ref a), .val (.long q), .second, .unset] [(.int (1 : Int32))])) (fun t_ k_ => XS.goto X1.here hx rfl (pc0 := 10) (pc' := 14) rfl (hb hby d3_10) (by decide) (by decide) k_) ?_
    refine Go.st (T' := T1) (g' := (mkF m 15 #[.val (.ref a), .val (.long q), .second, .val (.int (1 : Int32))] [])) (fun t_ k_ => XS.istoreN X1.here hx rfl (hb hby d3_14) rfl (l' := #[.val (.ref a), .val (.long q), .second, .val (.int (1 : Int32))]) rfl k_) ?_
    refine Go.st (T' := T1) (g' := (mkF m 16 #[.val (.ref a), .val (.long q), .second, .val (.int (1 : Int32))] [(.ref a)])) (fun t_ k_ => XS.aloadN X1.here hx rfl (hb hby d3_15) rfl rfl k_) ?_
    refine Go.st (T' := T1) (g' := (mkF m 17 #[.val (.ref a), .val (.long q), .second, .val (.int (1 : Int32))] [(.int (1 : Int32)), (.ref a)])) (fun t_ k_ => XS.iloadN X1.here hx rfl (hb hby d3_16) rfl k_) ?_
    refine Go.st (T' := T1) (g' := (mkF m 20 #[.val (.ref a), .val (.long q), .second, .val (.int (1 : Int32))] [(.ref a)])) (fun t_ k_ => XS.ifNo X1.here hx rfl (hb hby d3_17) rfl (by decide) k_) ?_
    refine Go.st (T' := T1) (g' := (mkF m 21 #[.val (.ref a), .val (.long q), .second, .val (.int (1 : Int32))] [(.ref a), (.ref a)])) (fun t_ k_ => XS.aloadN X1.here hx rfl (hb hby d3_20) rfl rfl k_) ?_
    refine goGet X1 hx hZ hown (host := "") (Or.inl (hw _ (List.mem_of_getElem? (i := 11) rfl))) Via.refl g1 (hb hby d3_21) fun T3 X3 => ?_
    show Go p e below _ T3 (mkF m 24 #[.val (.ref a), .val (.long q), .second, .val (.int (1 : Int32))] [(.long w), (.ref a)])
    refine Go.st (T' := T3) (g' := (mkF m 25 #[.val (.ref a), .val (.long q), .second, .val (.int (1 : Int32))] [(.long q), (.long w), (.ref a)])) (fun t_ k_ => XS.lloadN X3.here hx rfl (hb hby d3_24) rfl k_) ?_
    refine Go.st (T' := T3) (g' := (mkF m 26 #[.val (.ref a), .val (.long q), .second, .val (.int (1 : Int32))] [(.long (w - q)), (.ref a)])) (fun t_ k_ => XS.lsub X3.here hx rfl (hb hby d3_25) rfl k_) ?_
    refine Go.st (T' := T3) (g' := (mkF m 30 #[.val (.ref a), .val (.long q), .second, .val (.int (1 : Int32))] [(.long (w - q)), (.ref a)])) (fun t_ k_ => XS.goto X3.here hx rfl (pc0 := 26) (pc' := 30) rfl (hb hby d3_26) (by decide) (by decide) k_) ?_
    refine goPut X3 hx hZ hown (host := "") (Or.inl (hw _ (List.mem_of_getElem? (i := 11) rfl))) Via.refl g1 g0 (Or.inl (hw _ (List.mem_of_getElem? (i := 12) rfl))) (hw _ (List.mem_of_getElem? (i := 3) rfl)) (ty := .long) (by decide) rfl rfl g2 (hb hby d3_30) fun T4 h4 X4 W4 => ?_
    have Fw4 := g1.same W4
    have f4_0 : Exa Z h4 a "com/example/kenshinkit/kenshinkit/schema/WorkBudget" := g0.wr W4
    have sz4 : n0 ≤ h4.size := Nat.le_trans sz0 (Keep.of_wr W4).1
    have K4 : Keep h0 h4 [a] := K0.wr W4 (Or.inl (List.mem_of_getElem? (i := 0) rfl))
    show Go p e below _ T4 (mkF m 33 #[.val (.ref a), .val (.long q), .second, .val (.int (1 : Int32))] [])
    refine Go.st (T' := T4) (g' := (mkF m 34 #[.val (.ref a), .val (.long q), .second, .val (.int (1 : Int32))] [(.int (1 : Int32))])) (fun t_ k_ => XS.iloadN X4.here hx rfl (hb hby d3_33) rfl k_) ?_
    refine goRetZ X4 hx hlk hret (hb hby d3_34) (by decide) (by decide) (Or.inr rfl) ?_
    refine ⟨(1 : Int32), (w - q), rfl, K4, f4_0, Fw4, ?_⟩
    · first | exact Or.inl ⟨rfl, hc6, rfl⟩ | exact Or.inr ⟨rfl, hc6, rfl⟩
theorem pn_0 : plainFor x = true := plainFor_of_name (by first | (simp [plainName, overriddenIn]; done) | decide +kernel)
theorem pd_ff813bf1 : parseMethodDescriptor "(J)V" = some ⟨[.long], none⟩ := by decide +kernel
theorem pd_f63777da : parseMethodDescriptor "(J)Z" = some ⟨[.long], some .boolean⟩ := by decide +kernel
theorem ef_rm0 (m : MethodId) (x0 : Int64) (x1 : Int64) (x2 : Int64) (x3 : Int64) : entryFrame m #[(.long x0), (.long x1), (.long x2), (.long x3)] maxLocals = mkF m 0 #[.val (.long x0), .second, .val (.long x1), .second, .val (.long x2), .second, .val (.long x3), .second, .unset, .unset, .unset, .unset, .unset, .unset, .unset, .unset, .unset, .unset, .unset, .unset, .unset, .unset, .unset] [] := by first | (simp [entryFrame, mkF, argsToLocals, Value.category, maxLocals]; done) | rfl
def Q0 (Z : State) (n0 : Nat) (h0 : Heap) (u : Int64) (a : Int64) (b : Int64) (d : Int64) (v : Option Value) (h : Heap) : Prop := v = some (.int (1 : Int32))
set_option maxRecDepth 65536 in
set_option maxHeartbeats 40000000 in
theorem rm0 (l : Launch) (Z : State) (a0 : Array Value) (hw : ∀ d ∈ tables_1, d.before a0 Z = true) (ws : List Jvm.Cond) (n0 : Nat) (h0 : Heap) (u : Int64) (a : Int64) (b : Int64) (d : Int64) (sz0 : n0 ≤ h0.size) :
    Con l x code maxLocals ret room_1 ws Z n0 #[(.long u), (.long a), (.long b), (.long d)] h0 (Q0 Z n0 h0 u a b d) := by
  refine Con.body pn_0 ?_
  intro p e s m below meth c s₁ hx hby hml hown hnm hret hlk hZ X0
  have hown : s.vm.findClass "com/example/kenshinkit/kenshinkit/schema/WorkBudgetTakePinLaw" = some m.cls := hown
  have hnm : meth.name = "law" := hnm
  have hml : c.maxLocals = 23 := hml
  have hret : meth.sig.returnType = some .boolean := hret
  rw [show entryFrame m #[(.long u), (.long a), (.long b), (.long d)] maxLocals = mkF m 0 #[.val (.long u), .second, .val (.long a), .second, .val (.long b), .second, .val (.long d), .second, .unset, .unset, .unset, .unset, .unset, .unset, .unset, .unset, .unset, .unset, .unset, .unset, .unset, .unset, .unset] [] from ef_rm0 m u a b d]
  show Go p e below (PostW s n0 room_1.cells room_1.slots (Q0 Z n0 h0 u a b d)) s₁ (mkF m 0 #[.val (.long u), .second, .val (.long a), .second, .val (.long b), .second, .val (.long d), .second, .unset, .unset, .unset, .unset, .unset, .unset, .unset, .unset, .unset, .unset, .unset, .unset, .unset, .unset, .unset] [])
  refine Go.st (T' := s₁) (g' := (mkF m 1 #[.val (.long u), .second, .val (.long a), .second, .val (.long b), .second, .val (.long d), .second, .unset, .unset, .unset, .unset, .unset, .unset, .unset, .unset, .unset, .unset, .unset, .unset, .unset, .unset, .unset] [(.long u)])) (fun t_ k_ => XS.lloadN X0.here hx rfl (hb hby at_0) rfl k_) ?_
  refine Go.st (T' := s₁) (g' := (mkF m 4 #[.val (.long u), .second, .val (.long a), .second, .val (.long b), .second, .val (.long d), .second, .unset, .unset, .unset, .unset, .unset, .unset, .unset, .unset, .unset, .unset, .unset, .unset, .unset, .unset, .unset] [(.long (9223372036854775807 : Int64)), (.long u)])) (fun t_ k_ => Stn.ldcJ X0 hx hZ hown (hw _ (List.mem_of_getElem? (i := 0) rfl)) (hb hby at_1) k_) ?_
  refine Go.st (T' := s₁) (g' := (mkF m 5 #[.val (.long u), .second, .val (.long a), .second, .val (.long b), .second, .val (.long d), .second, .unset, .unset, .unset, .unset, .unset, .unset, .unset, .unset, .unset, .unset, .unset, .unset, .unset, .unset, .unset] [(.long (u &&& (9223372036854775807 : Int64)))])) (fun t_ k_ => XS.land X0.here hx rfl (hb hby at_4) rfl k_) ?_
  refine Go.st (T' := s₁) (g' := (mkF m 7 #[.val (.long u), .second, .val (.long a), .second, .val (.long b), .second, .val (.long d), .second, .val (.long (u &&& (9223372036854775807 : Int64))), .second, .unset, .unset, .unset, .unset, .unset, .unset, .unset, .unset, .unset, .unset, .unset, .unset, .unset] [])) (fun t_ k_ => XS.lstore X0.here hx rfl (hb hby at_5) rfl (l' := #[.val (.long u), .second, .val (.long a), .second, .val (.long b), .second, .val (.long d), .second, .val (.long (u &&& (9223372036854775807 : Int64))), .second, .unset, .unset, .unset, .unset, .unset, .unset, .unset, .unset, .unset, .unset, .unset, .unset, .unset]) rfl k_) ?_
  refine Go.st (T' := s₁) (g' := (mkF m 8 #[.val (.long u), .second, .val (.long a), .second, .val (.long b), .second, .val (.long d), .second, .val (.long (u &&& (9223372036854775807 : Int64))), .second, .unset, .unset, .unset, .unset, .unset, .unset, .unset, .unset, .unset, .unset, .unset, .unset, .unset] [(.long a)])) (fun t_ k_ => XS.lloadN X0.here hx rfl (hb hby at_7) rfl k_) ?_
  refine Go.st (T' := s₁) (g' := (mkF m 11 #[.val (.long u), .second, .val (.long a), .second, .val (.long b), .second, .val (.long d), .second, .val (.long (u &&& (9223372036854775807 : Int64))), .second, .unset, .unset, .unset, .unset, .unset, .unset, .unset, .unset, .unset, .unset, .unset, .unset, .unset] [(.long (2305843009213693951 : Int64)), (.long a)])) (fun t_ k_ => Stn.ldcJ X0 hx hZ hown (hw _ (List.mem_of_getElem? (i := 1) rfl)) (hb hby at_8) k_) ?_
  refine Go.st (T' := s₁) (g' := (mkF m 12 #[.val (.long u), .second, .val (.long a), .second, .val (.long b), .second, .val (.long d), .second, .val (.long (u &&& (9223372036854775807 : Int64))), .second, .unset, .unset, .unset, .unset, .unset, .unset, .unset, .unset, .unset, .unset, .unset, .unset, .unset] [(.long (a &&& (2305843009213693951 : Int64)))])) (fun t_ k_ => XS.land X0.here hx rfl (hb hby at_11) rfl k_) ?_
  refine Go.st (T' := s₁) (g' := (mkF m 14 #[.val (.long u), .second, .val (.long a), .second, .val (.long b), .second, .val (.long d), .second, .val (.long (u &&& (9223372036854775807 : Int64))), .second, .val (.long (a &&& (2305843009213693951 : Int64))), .second, .unset, .unset, .unset, .unset, .unset, .unset, .unset, .unset, .unset, .unset, .unset] [])) (fun t_ k_ => XS.lstore X0.here hx rfl (hb hby at_12) rfl (l' := #[.val (.long u), .second, .val (.long a), .second, .val (.long b), .second, .val (.long d), .second, .val (.long (u &&& (9223372036854775807 : Int64))), .second, .val (.long (a &&& (2305843009213693951 : Int64))), .second, .unset, .unset, .unset, .unset, .unset, .unset, .unset, .unset, .unset, .unset, .unset]) rfl k_) ?_
  refine Go.st (T' := s₁) (g' := (mkF m 16 #[.val (.long u), .second, .val (.long a), .second, .val (.long b), .second, .val (.long d), .second, .val (.long (u &&& (9223372036854775807 : Int64))), .second, .val (.long (a &&& (2305843009213693951 : Int64))), .second, .unset, .unset, .unset, .unset, .unset, .unset, .unset, .unset, .unset, .unset, .unset] [(.long b)])) (fun t_ k_ => XS.lload X0.here hx rfl (hb hby at_14) rfl k_) ?_
  refine Go.st (T' := s₁) (g' := (mkF m 19 #[.val (.long u), .second, .val (.long a), .second, .val (.long b), .second, .val (.long d), .second, .val (.long (u &&& (9223372036854775807 : Int64))), .second, .val (.long (a &&& (2305843009213693951 : Int64))), .second, .unset, .unset, .unset, .unset, .unset, .unset, .unset, .unset, .unset, .unset, .unset] [(.long (2305843009213693951 : Int64)), (.long b)])) (fun t_ k_ => Stn.ldcJ X0 hx hZ hown (hw _ (List.mem_of_getElem? (i := 1) rfl)) (hb hby at_16) k_) ?_
  refine Go.st (T' := s₁) (g' := (mkF m 20 #[.val (.long u), .second, .val (.long a), .second, .val (.long b), .second, .val (.long d), .second, .val (.long (u &&& (9223372036854775807 : Int64))), .second, .val (.long (a &&& (2305843009213693951 : Int64))), .second, .unset, .unset, .unset, .unset, .unset, .unset, .unset, .unset, .unset, .unset, .unset] [(.long (b &&& (2305843009213693951 : Int64)))])) (fun t_ k_ => XS.land X0.here hx rfl (hb hby at_19) rfl k_) ?_
  refine Go.st (T' := s₁) (g' := (mkF m 22 #[.val (.long u), .second, .val (.long a), .second, .val (.long b), .second, .val (.long d), .second, .val (.long (u &&& (9223372036854775807 : Int64))), .second, .val (.long (a &&& (2305843009213693951 : Int64))), .second, .val (.long (b &&& (2305843009213693951 : Int64))), .second, .unset, .unset, .unset, .unset, .unset, .unset, .unset, .unset, .unset] [])) (fun t_ k_ => XS.lstore X0.here hx rfl (hb hby at_20) rfl (l' := #[.val (.long u), .second, .val (.long a), .second, .val (.long b), .second, .val (.long d), .second, .val (.long (u &&& (9223372036854775807 : Int64))), .second, .val (.long (a &&& (2305843009213693951 : Int64))), .second, .val (.long (b &&& (2305843009213693951 : Int64))), .second, .unset, .unset, .unset, .unset, .unset, .unset, .unset, .unset, .unset]) rfl k_) ?_
  refine Go.st (T' := s₁) (g' := (mkF m 24 #[.val (.long u), .second, .val (.long a), .second, .val (.long b), .second, .val (.long d), .second, .val (.long (u &&& (9223372036854775807 : Int64))), .second, .val (.long (a &&& (2305843009213693951 : Int64))), .second, .val (.long (b &&& (2305843009213693951 : Int64))), .second, .unset, .unset, .unset, .unset, .unset, .unset, .unset, .unset, .unset] [(.long d)])) (fun t_ k_ => XS.lload X0.here hx rfl (hb hby at_22) rfl k_) ?_
  refine Go.st (T' := s₁) (g' := (mkF m 27 #[.val (.long u), .second, .val (.long a), .second, .val (.long b), .second, .val (.long d), .second, .val (.long (u &&& (9223372036854775807 : Int64))), .second, .val (.long (a &&& (2305843009213693951 : Int64))), .second, .val (.long (b &&& (2305843009213693951 : Int64))), .second, .unset, .unset, .unset, .unset, .unset, .unset, .unset, .unset, .unset] [(.long (2305843009213693951 : Int64)), (.long d)])) (fun t_ k_ => Stn.ldcJ X0 hx hZ hown (hw _ (List.mem_of_getElem? (i := 1) rfl)) (hb hby at_24) k_) ?_
  refine Go.st (T' := s₁) (g' := (mkF m 28 #[.val (.long u), .second, .val (.long a), .second, .val (.long b), .second, .val (.long d), .second, .val (.long (u &&& (9223372036854775807 : Int64))), .second, .val (.long (a &&& (2305843009213693951 : Int64))), .second, .val (.long (b &&& (2305843009213693951 : Int64))), .second, .unset, .unset, .unset, .unset, .unset, .unset, .unset, .unset, .unset] [(.long (d &&& (2305843009213693951 : Int64)))])) (fun t_ k_ => XS.land X0.here hx rfl (hb hby at_27) rfl k_) ?_
  refine Go.st (T' := s₁) (g' := (mkF m 30 #[.val (.long u), .second, .val (.long a), .second, .val (.long b), .second, .val (.long d), .second, .val (.long (u &&& (9223372036854775807 : Int64))), .second, .val (.long (a &&& (2305843009213693951 : Int64))), .second, .val (.long (b &&& (2305843009213693951 : Int64))), .second, .val (.long (d &&& (2305843009213693951 : Int64))), .second, .unset, .unset, .unset, .unset, .unset, .unset, .unset] [])) (fun t_ k_ => XS.lstore X0.here hx rfl (hb hby at_28) rfl (l' := #[.val (.long u), .second, .val (.long a), .second, .val (.long b), .second, .val (.long d), .second, .val (.long (u &&& (9223372036854775807 : Int64))), .second, .val (.long (a &&& (2305843009213693951 : Int64))), .second, .val (.long (b &&& (2305843009213693951 : Int64))), .second, .val (.long (d &&& (2305843009213693951 : Int64))), .second, .unset, .unset, .unset, .unset, .unset, .unset, .unset]) rfl k_) ?_
  generalize e_bud : (u &&& (9223372036854775807 : Int64)) = bud
  generalize e_w1 : (a &&& (2305843009213693951 : Int64)) = w1
  generalize e_w2 : (b &&& (2305843009213693951 : Int64)) = w2
  generalize e_w3 : (d &&& (2305843009213693951 : Int64)) = w3
  refine goNew X0 hx hZ hown (hw _ (List.mem_of_getElem? (i := 2) rfl)) (hw _ (List.mem_of_getElem? (i := 3) rfl)) (hw _ (List.mem_of_getElem? (i := 4) rfl)) (hb hby at_30) (by decide) (by decide) fun T1 h1 b1 gb1 X1 E1 A1 D1 => ?_
  have ge1 : n0 ≤ b1 := gb1 ▸ sz0
  have sz1 : n0 ≤ h1.size := Nat.le_trans sz0 E1.1
  have F1_left : Fld Z h1 b1 "com/example/kenshinkit/kenshinkit/schema/WorkBudget" "left" "J" (.long (0 : Int64)) := D1 (Or.inl (hw _ (List.mem_of_getElem? (i := 12) rfl))) (ty := .long) (by decide)
  show Go p e below _ T1 (mkF m 33 #[.val (.long u), .second, .val (.long a), .second, .val (.long b), .second, .val (.long d), .second, .val (.long bud), .second, .val (.long w1), .second, .val (.long w2), .second, .val (.long w3), .second, .unset, .unset, .unset, .unset, .unset, .unset, .unset] [(.ref b1)])
  refine Go.st (T' := T1) (g' := (mkF m 34 #[.val (.long u), .second, .val (.long a), .second, .val (.long b), .second, .val (.long d), .second, .val (.long bud), .second, .val (.long w1), .second, .val (.long w2), .second, .val (.long w3), .second, .unset, .unset, .unset, .unset, .unset, .unset, .unset] [(.ref b1), (.ref b1)])) (fun t_ k_ => XS.dup X1.here hx rfl (hb hby at_33) rfl rfl k_) ?_
  refine Go.st (T' := T1) (g' := (mkF m 36 #[.val (.long u), .second, .val (.long a), .second, .val (.long b), .second, .val (.long d), .second, .val (.long bud), .second, .val (.long w1), .second, .val (.long w2), .second, .val (.long w3), .second, .unset, .unset, .unset, .unset, .unset, .unset, .unset] [(.long bud), (.ref b1), (.ref b1)])) (fun t_ k_ => XS.lload X1.here hx rfl (hb hby at_34) rfl k_) ?_
  refine goCtor X1 hx hZ (y := (⟨"com/example/kenshinkit/kenshinkit/schema/WorkBudget", "<init>", "(J)V"⟩ : MethodName)) rfl hown (hw _ (List.mem_of_getElem? (i := 5) rfl)) (hw _ (List.mem_of_getElem? (i := 6) rfl)) (hw _ (List.mem_of_getElem? (i := 4) rfl)) (hw _ (List.mem_of_getElem? (i := 7) rfl)) (by decide) (rm1 l Z a0 hw [] n0 h1 b1 bud (.long (0 : Int64)) sz1 A1 F1_left ge1) 1 (by decide) (by decide) (by rw [hml]; rfl) b1 [(.long bud)] [(.ref b1)] (lenOf pd_ff813bf1 rfl) rfl rfl rfl (hb hby at_36) (by decide) (by decide) fun v2 T2 h2 X2 hq2 => ?_
  obtain ⟨rfl, K2c, p2_0, p2_1⟩ := hq2
  have f2_1 : Exa Z h2 b1 "com/example/kenshinkit/kenshinkit/schema/WorkBudget" := A1.keep K2c
  have sz2 : n0 ≤ h2.size := Nat.le_trans sz1 K2c.1
  show Go p e below _ T2 (mkF m 39 #[.val (.long u), .second, .val (.long a), .second, .val (.long b), .second, .val (.long d), .second, .val (.long bud), .second, .val (.long w1), .second, .val (.long w2), .second, .val (.long w3), .second, .unset, .unset, .unset, .unset, .unset, .unset, .unset] [(.ref b1)])
  refine Go.st (T' := T2) (g' := (mkF m 41 #[.val (.long u), .second, .val (.long a), .second, .val (.long b), .second, .val (.long d), .second, .val (.long bud), .second, .val (.long w1), .second, .val (.long w2), .second, .val (.long w3), .second, .val (.ref b1), .unset, .unset, .unset, .unset, .unset, .unset] [])) (fun t_ k_ => XS.astore X2.here hx rfl (hb hby at_39) rfl rfl (l' := #[.val (.long u), .second, .val (.long a), .second, .val (.long b), .second, .val (.long d), .second, .val (.long bud), .second, .val (.long w1), .second, .val (.long w2), .second, .val (.long w3), .second, .val (.ref b1), .unset, .unset, .unset, .unset, .unset, .unset]) rfl k_) ?_
  refine Go.st (T' := T2) (g' := (mkF m 43 #[.val (.long u), .second, .val (.long a), .second, .val (.long b), .second, .val (.long d), .second, .val (.long bud), .second, .val (.long w1), .second, .val (.long w2), .second, .val (.long w3), .second, .val (.ref b1), .unset, .unset, .unset, .unset, .unset, .unset] [(.ref b1)])) (fun t_ k_ => XS.aload X2.here hx rfl (hb hby at_41) rfl rfl k_) ?_
  refine Go.st (T' := T2) (g' := (mkF m 45 #[.val (.long u), .second, .val (.long a), .second, .val (.long b), .second, .val (.long d), .second, .val (.long bud), .second, .val (.long w1), .second, .val (.long w2), .second, .val (.long w3), .second, .val (.ref b1), .unset, .unset, .unset, .unset, .unset, .unset] [(.long w1), (.ref b1)])) (fun t_ k_ => XS.lload X2.here hx rfl (hb hby at_43) rfl k_) ?_
  refine goVirtS X2 hx hZ (y := (⟨"com/example/kenshinkit/kenshinkit/schema/WorkBudget", "take", "(J)Z"⟩ : MethodName)) hown (hw _ (List.mem_of_getElem? (i := 13) rfl)) (hw _ (List.mem_of_getElem? (i := 14) rfl)) (hw _ (List.mem_of_getElem? (i := 16) rfl)) (hw _ (List.mem_of_getElem? (i := 15) rfl)) (hw _ (List.mem_of_getElem? (i := 4) rfl)) (hw _ (List.mem_of_getElem? (i := 17) rfl)) (by decide) p2_0 (rm3 l Z a0 hw [] n0 h2 b1 w1 bud sz2 p2_0 p2_1 ge1) 0 (by decide) (by decide) (by rw [hml]; rfl) [(.long w1)] [] (lenOf pd_f63777da rfl) rfl rfl rfl (hb hby at_45) (by decide) (by decide) fun v3 T3 h3 X3 hq3 => ?_
  obtain ⟨r1, l1, rfl, K3c, p3_0, p3_1, t1⟩ := hq3
  have f3_1 : Exa Z h3 b1 "com/example/kenshinkit/kenshinkit/schema/WorkBudget" := p2_0.keep K3c
  have sz3 : n0 ≤ h3.size := Nat.le_trans sz2 K3c.1
  show Go p e below _ T3 (mkF m 48 #[.val (.long u), .second, .val (.long a), .second, .val (.long b), .second, .val (.long d), .second, .val (.long bud), .second, .val (.long w1), .second, .val (.long w2), .second, .val (.long w3), .second, .val (.ref b1), .unset, .unset, .unset, .unset, .unset, .unset] [(.int r1)])
  refine Go.st (T' := T3) (g' := (mkF m 50 #[.val (.long u), .second, .val (.long a), .second, .val (.long b), .second, .val (.long d), .second, .val (.long bud), .second, .val (.long w1), .second, .val (.long w2), .second, .val (.long w3), .second, .val (.ref b1), .val (.int r1), .unset, .unset, .unset, .unset, .unset] [])) (fun t_ k_ => XS.istore X3.here hx rfl (hb hby at_48) rfl (l' := #[.val (.long u), .second, .val (.long a), .second, .val (.long b), .second, .val (.long d), .second, .val (.long bud), .second, .val (.long w1), .second, .val (.long w2), .second, .val (.long w3), .second, .val (.ref b1), .val (.int r1), .unset, .unset, .unset, .unset, .unset]) rfl k_) ?_
  refine Go.st (T' := T3) (g' := (mkF m 52 #[.val (.long u), .second, .val (.long a), .second, .val (.long b), .second, .val (.long d), .second, .val (.long bud), .second, .val (.long w1), .second, .val (.long w2), .second, .val (.long w3), .second, .val (.ref b1), .val (.int r1), .unset, .unset, .unset, .unset, .unset] [(.ref b1)])) (fun t_ k_ => XS.aload X3.here hx rfl (hb hby at_50) rfl rfl k_) ?_
  refine Go.st (T' := T3) (g' := (mkF m 54 #[.val (.long u), .second, .val (.long a), .second, .val (.long b), .second, .val (.long d), .second, .val (.long bud), .second, .val (.long w1), .second, .val (.long w2), .second, .val (.long w3), .second, .val (.ref b1), .val (.int r1), .unset, .unset, .unset, .unset, .unset] [(.long w2), (.ref b1)])) (fun t_ k_ => XS.lload X3.here hx rfl (hb hby at_52) rfl k_) ?_
  refine goVirtS X3 hx hZ (y := (⟨"com/example/kenshinkit/kenshinkit/schema/WorkBudget", "take", "(J)Z"⟩ : MethodName)) hown (hw _ (List.mem_of_getElem? (i := 13) rfl)) (hw _ (List.mem_of_getElem? (i := 14) rfl)) (hw _ (List.mem_of_getElem? (i := 16) rfl)) (hw _ (List.mem_of_getElem? (i := 15) rfl)) (hw _ (List.mem_of_getElem? (i := 4) rfl)) (hw _ (List.mem_of_getElem? (i := 17) rfl)) (by decide) p3_0 (rm3 l Z a0 hw [] n0 h3 b1 w2 l1 sz3 p3_0 p3_1 ge1) 0 (by decide) (by decide) (by rw [hml]; rfl) [(.long w2)] [] (lenOf pd_f63777da rfl) rfl rfl rfl (hb hby at_54) (by decide) (by decide) fun v4 T4 h4 X4 hq4 => ?_
  obtain ⟨r2, l2, rfl, K4c, p4_0, p4_1, t2⟩ := hq4
  have f4_1 : Exa Z h4 b1 "com/example/kenshinkit/kenshinkit/schema/WorkBudget" := p3_0.keep K4c
  have sz4 : n0 ≤ h4.size := Nat.le_trans sz3 K4c.1
  show Go p e below _ T4 (mkF m 57 #[.val (.long u), .second, .val (.long a), .second, .val (.long b), .second, .val (.long d), .second, .val (.long bud), .second, .val (.long w1), .second, .val (.long w2), .second, .val (.long w3), .second, .val (.ref b1), .val (.int r1), .unset, .unset, .unset, .unset, .unset] [(.int r2)])
  refine Go.st (T' := T4) (g' := (mkF m 59 #[.val (.long u), .second, .val (.long a), .second, .val (.long b), .second, .val (.long d), .second, .val (.long bud), .second, .val (.long w1), .second, .val (.long w2), .second, .val (.long w3), .second, .val (.ref b1), .val (.int r1), .val (.int r2), .unset, .unset, .unset, .unset] [])) (fun t_ k_ => XS.istore X4.here hx rfl (hb hby at_57) rfl (l' := #[.val (.long u), .second, .val (.long a), .second, .val (.long b), .second, .val (.long d), .second, .val (.long bud), .second, .val (.long w1), .second, .val (.long w2), .second, .val (.long w3), .second, .val (.ref b1), .val (.int r1), .val (.int r2), .unset, .unset, .unset, .unset]) rfl k_) ?_
  refine Go.st (T' := T4) (g' := (mkF m 61 #[.val (.long u), .second, .val (.long a), .second, .val (.long b), .second, .val (.long d), .second, .val (.long bud), .second, .val (.long w1), .second, .val (.long w2), .second, .val (.long w3), .second, .val (.ref b1), .val (.int r1), .val (.int r2), .unset, .unset, .unset, .unset] [(.ref b1)])) (fun t_ k_ => XS.aload X4.here hx rfl (hb hby at_59) rfl rfl k_) ?_
  refine Go.st (T' := T4) (g' := (mkF m 63 #[.val (.long u), .second, .val (.long a), .second, .val (.long b), .second, .val (.long d), .second, .val (.long bud), .second, .val (.long w1), .second, .val (.long w2), .second, .val (.long w3), .second, .val (.ref b1), .val (.int r1), .val (.int r2), .unset, .unset, .unset, .unset] [(.long w3), (.ref b1)])) (fun t_ k_ => XS.lload X4.here hx rfl (hb hby at_61) rfl k_) ?_
  refine goVirtS X4 hx hZ (y := (⟨"com/example/kenshinkit/kenshinkit/schema/WorkBudget", "take", "(J)Z"⟩ : MethodName)) hown (hw _ (List.mem_of_getElem? (i := 13) rfl)) (hw _ (List.mem_of_getElem? (i := 14) rfl)) (hw _ (List.mem_of_getElem? (i := 16) rfl)) (hw _ (List.mem_of_getElem? (i := 15) rfl)) (hw _ (List.mem_of_getElem? (i := 4) rfl)) (hw _ (List.mem_of_getElem? (i := 17) rfl)) (by decide) p4_0 (rm3 l Z a0 hw [] n0 h4 b1 w3 l2 sz4 p4_0 p4_1 ge1) 0 (by decide) (by decide) (by rw [hml]; rfl) [(.long w3)] [] (lenOf pd_f63777da rfl) rfl rfl rfl (hb hby at_63) (by decide) (by decide) fun v5 T5 h5 X5 hq5 => ?_
  obtain ⟨r3, l3, rfl, K5c, p5_0, p5_1, t3⟩ := hq5
  have f5_1 : Exa Z h5 b1 "com/example/kenshinkit/kenshinkit/schema/WorkBudget" := p4_0.keep K5c
  have sz5 : n0 ≤ h5.size := Nat.le_trans sz4 K5c.1
  show Go p e below _ T5 (mkF m 66 #[.val (.long u), .second, .val (.long a), .second, .val (.long b), .second, .val (.long d), .second, .val (.long bud), .second, .val (.long w1), .second, .val (.long w2), .second, .val (.long w3), .second, .val (.ref b1), .val (.int r1), .val (.int r2), .unset, .unset, .unset, .unset] [(.int r3)])
  refine Go.st (T' := T5) (g' := (mkF m 68 #[.val (.long u), .second, .val (.long a), .second, .val (.long b), .second, .val (.long d), .second, .val (.long bud), .second, .val (.long w1), .second, .val (.long w2), .second, .val (.long w3), .second, .val (.ref b1), .val (.int r1), .val (.int r2), .val (.int r3), .unset, .unset, .unset] [])) (fun t_ k_ => XS.istore X5.here hx rfl (hb hby at_66) rfl (l' := #[.val (.long u), .second, .val (.long a), .second, .val (.long b), .second, .val (.long d), .second, .val (.long bud), .second, .val (.long w1), .second, .val (.long w2), .second, .val (.long w3), .second, .val (.ref b1), .val (.int r1), .val (.int r2), .val (.int r3), .unset, .unset, .unset]) rfl k_) ?_
  refine Go.st (T' := T5) (g' := (mkF m 70 #[.val (.long u), .second, .val (.long a), .second, .val (.long b), .second, .val (.long d), .second, .val (.long bud), .second, .val (.long w1), .second, .val (.long w2), .second, .val (.long w3), .second, .val (.ref b1), .val (.int r1), .val (.int r2), .val (.int r3), .unset, .unset, .unset] [(.long w1)])) (fun t_ k_ => XS.lload X5.here hx rfl (hb hby at_68) rfl k_) ?_
  refine Go.st (T' := T5) (g' := (mkF m 72 #[.val (.long u), .second, .val (.long a), .second, .val (.long b), .second, .val (.long d), .second, .val (.long bud), .second, .val (.long w1), .second, .val (.long w2), .second, .val (.long w3), .second, .val (.ref b1), .val (.int r1), .val (.int r2), .val (.int r3), .unset, .unset, .unset] [(.long bud), (.long w1)])) (fun t_ k_ => XS.lload X5.here hx rfl (hb hby at_70) rfl k_) ?_
  refine Go.st (T' := T5) (g' := (mkF m 73 #[.val (.long u), .second, .val (.long a), .second, .val (.long b), .second, .val (.long d), .second, .val (.long bud), .second, .val (.long w1), .second, .val (.long w2), .second, .val (.long w3), .second, .val (.ref b1), .val (.int r1), .val (.int r2), .val (.int r3), .unset, .unset, .unset] [(.int (lcmpW w1 bud))])) (fun t_ k_ => XS.lcmp X5.here hx rfl (hb hby at_72) rfl k_) ?_
  have J81_6 : ∀ (e1 : Int32), e1 = (if bud < w1 then (0 : Int32) else (1 : Int32)) → Go p e below (PostW s n0 room_1.cells room_1.slots (Q0 Z n0 h0 u a b d)) T5 (mkF m 81 #[.val (.long u), .second, .val (.long a), .second, .val (.long b), .second, .val (.long d), .second, .val (.long bud), .second, .val (.long w1), .second, .val (.long w2), .second, .val (.long w3), .second, .val (.ref b1), .val (.int r1), .val (.int r2), .val (.int r3), .unset, .unset, .unset] [(.int e1)]) := by
    intro e1 h_e1
    refine Go.st (T' := T5) (g' := (mkF m 83 #[.val (.long u), .second, .val (.long a), .second, .val (.long b), .second, .val (.long d), .second, .val (.long bud), .second, .val (.long w1), .second, .val (.long w2), .second, .val (.long w3), .second, .val (.ref b1), .val (.int r1), .val (.int r2), .val (.int r3), .val (.int e1), .unset, .unset] [])) (fun t_ k_ => XS.istore X5.here hx rfl (hb hby at_81) rfl (l' := #[.val (.long u), .second, .val (.long a), .second, .val (.long b), .second, .val (.long d), .second, .val (.long bud), .second, .val (.long w1), .second, .val (.long w2), .second, .val (.long w3), .second, .val (.ref b1), .val (.int r1), .val (.int r2), .val (.int r3), .val (.int e1), .unset, .unset]) rfl k_) ?_
    refine Go.st (T' := T5) (g' := (mkF m 85 #[.val (.long u), .second, .val (.long a), .second, .val (.long b), .second, .val (.long d), .second, .val (.long bud), .second, .val (.long w1), .second, .val (.long w2), .second, .val (.long w3), .second, .val (.ref b1), .val (.int r1), .val (.int r2), .val (.int r3), .val (.int e1), .unset, .unset] [(.int e1)])) (fun t_ k_ => XS.iload X5.here hx rfl (hb hby at_83) rfl k_) ?_
    have J119_7 : ∀ (e2 : Int32), e2 = (if e1 = (0 : Int32) then (if w2 = (0 : Int64) then (1 : Int32) else (0 : Int32)) else (if bud < (w1 + w2) then (0 : Int32) else (1 : Int32))) → Go p e below (PostW s n0 room_1.cells room_1.slots (Q0 Z n0 h0 u a b d)) T5 (mkF m 119 #[.val (.long u), .second, .val (.long a), .second, .val (.long b), .second, .val (.long d), .second, .val (.long bud), .second, .val (.long w1), .second, .val (.long w2), .second, .val (.long w3), .second, .val (.ref b1), .val (.int r1), .val (.int r2), .val (.int r3), .val (.int e1), .unset, .unset] [(.int e2)]) := by
      intro e2 h_e2
      refine Go.st (T' := T5) (g' := (mkF m 121 #[.val (.long u), .second, .val (.long a), .second, .val (.long b), .second, .val (.long d), .second, .val (.long bud), .second, .val (.long w1), .second, .val (.long w2), .second, .val (.long w3), .second, .val (.ref b1), .val (.int r1), .val (.int r2), .val (.int r3), .val (.int e1), .val (.int e2), .unset] [])) (fun t_ k_ => XS.istore X5.here hx rfl (hb hby at_119) rfl (l' := #[.val (.long u), .second, .val (.long a), .second, .val (.long b), .second, .val (.long d), .second, .val (.long bud), .second, .val (.long w1), .second, .val (.long w2), .second, .val (.long w3), .second, .val (.ref b1), .val (.int r1), .val (.int r2), .val (.int r3), .val (.int e1), .val (.int e2), .unset]) rfl k_) ?_
      refine Go.st (T' := T5) (g' := (mkF m 123 #[.val (.long u), .second, .val (.long a), .second, .val (.long b), .second, .val (.long d), .second, .val (.long bud), .second, .val (.long w1), .second, .val (.long w2), .second, .val (.long w3), .second, .val (.ref b1), .val (.int r1), .val (.int r2), .val (.int r3), .val (.int e1), .val (.int e2), .unset] [(.int e1)])) (fun t_ k_ => XS.iload X5.here hx rfl (hb hby at_121) rfl k_) ?_
      have J165_8 : ∀ (e3 : Int32), e3 = (if e1 = (0 : Int32) then (if w3 = (0 : Int64) then (1 : Int32) else (0 : Int32)) else (if e2 = (0 : Int32) then (if w3 = (0 : Int64) then (1 : Int32) else (0 : Int32)) else (if bud < ((w1 + w2) + w3) then (0 : Int32) else (1 : Int32)))) → Go p e below (PostW s n0 room_1.cells room_1.slots (Q0 Z n0 h0 u a b d)) T5 (mkF m 165 #[.val (.long u), .second, .val (.long a), .second, .val (.long b), .second, .val (.long d), .second, .val (.long bud), .second, .val (.long w1), .second, .val (.long w2), .second, .val (.long w3), .second, .val (.ref b1), .val (.int r1), .val (.int r2), .val (.int r3), .val (.int e1), .val (.int e2), .unset] [(.int e3)]) := by
        intro e3 h_e3
        refine Go.st (T' := T5) (g' := (mkF m 167 #[.val (.long u), .second, .val (.long a), .second, .val (.long b), .second, .val (.long d), .second, .val (.long bud), .second, .val (.long w1), .second, .val (.long w2), .second, .val (.long w3), .second, .val (.ref b1), .val (.int r1), .val (.int r2), .val (.int r3), .val (.int e1), .val (.int e2), .val (.int e3)] [])) (fun t_ k_ => XS.istore X5.here hx rfl (hb hby at_165) rfl (l' := #[.val (.long u), .second, .val (.long a), .second, .val (.long b), .second, .val (.long d), .second, .val (.long bud), .second, .val (.long w1), .second, .val (.long w2), .second, .val (.long w3), .second, .val (.ref b1), .val (.int r1), .val (.int r2), .val (.int r3), .val (.int e1), .val (.int e2), .val (.int e3)]) rfl k_) ?_
        refine Go.st (T' := T5) (g' := (mkF m 169 #[.val (.long u), .second, .val (.long a), .second, .val (.long b), .second, .val (.long d), .second, .val (.long bud), .second, .val (.long w1), .second, .val (.long w2), .second, .val (.long w3), .second, .val (.ref b1), .val (.int r1), .val (.int r2), .val (.int r3), .val (.int e1), .val (.int e2), .val (.int e3)] [(.int r1)])) (fun t_ k_ => XS.iload X5.here hx rfl (hb hby at_167) rfl k_) ?_
        refine Go.st (T' := T5) (g' := (mkF m 171 #[.val (.long u), .second, .val (.long a), .second, .val (.long b), .second, .val (.long d), .second, .val (.long bud), .second, .val (.long w1), .second, .val (.long w2), .second, .val (.long w3), .second, .val (.ref b1), .val (.int r1), .val (.int r2), .val (.int r3), .val (.int e1), .val (.int e2), .val (.int e3)] [(.int e1), (.int r1)])) (fun t_ k_ => XS.iload X5.here hx rfl (hb hby at_169) rfl k_) ?_
        have hc171 : r1 = e1 := (own_law (e_bud ▸ own_m63 u) (e_w1 ▸ own_m61 a) (e_w2 ▸ own_m61 b) (e_w3 ▸ own_m61 d) t1 t2 t3 h_e1 h_e2 h_e3).1
        refine Go.st (T' := T5) (g' := (mkF m 174 #[.val (.long u), .second, .val (.long a), .second, .val (.long b), .second, .val (.long d), .second, .val (.long bud), .second, .val (.long w1), .second, .val (.long w2), .second, .val (.long w3), .second, .val (.ref b1), .val (.int r1), .val (.int r2), .val (.int r3), .val (.int e1), .val (.int e2), .val (.int e3)] [])) (fun t_ k_ => XS.icmpNo X5.here hx rfl (hb hby at_171) rfl (teq hc171).2 k_) ?_
        refine Go.st (T' := T5) (g' := (mkF m 176 #[.val (.long u), .second, .val (.long a), .second, .val (.long b), .second, .val (.long d), .second, .val (.long bud), .second, .val (.long w1), .second, .val (.long w2), .second, .val (.long w3), .second, .val (.ref b1), .val (.int r1), .val (.int r2), .val (.int r3), .val (.int e1), .val (.int e2), .val (.int e3)] [(.int r2)])) (fun t_ k_ => XS.iload X5.here hx rfl (hb hby at_174) rfl k_) ?_
        refine Go.st (T' := T5) (g' := (mkF m 178 #[.val (.long u), .second, .val (.long a), .second, .val (.long b), .second, .val (.long d), .second, .val (.long bud), .second, .val (.long w1), .second, .val (.long w2), .second, .val (.long w3), .second, .val (.ref b1), .val (.int r1), .val (.int r2), .val (.int r3), .val (.int e1), .val (.int e2), .val (.int e3)] [(.int e2), (.int r2)])) (fun t_ k_ => XS.iload X5.here hx rfl (hb hby at_176) rfl k_) ?_
        have hc178 : r2 = e2 := (own_law (e_bud ▸ own_m63 u) (e_w1 ▸ own_m61 a) (e_w2 ▸ own_m61 b) (e_w3 ▸ own_m61 d) t1 t2 t3 h_e1 h_e2 h_e3).2.1
        refine Go.st (T' := T5) (g' := (mkF m 181 #[.val (.long u), .second, .val (.long a), .second, .val (.long b), .second, .val (.long d), .second, .val (.long bud), .second, .val (.long w1), .second, .val (.long w2), .second, .val (.long w3), .second, .val (.ref b1), .val (.int r1), .val (.int r2), .val (.int r3), .val (.int e1), .val (.int e2), .val (.int e3)] [])) (fun t_ k_ => XS.icmpNo X5.here hx rfl (hb hby at_178) rfl (teq hc178).2 k_) ?_
        refine Go.st (T' := T5) (g' := (mkF m 183 #[.val (.long u), .second, .val (.long a), .second, .val (.long b), .second, .val (.long d), .second, .val (.long bud), .second, .val (.long w1), .second, .val (.long w2), .second, .val (.long w3), .second, .val (.ref b1), .val (.int r1), .val (.int r2), .val (.int r3), .val (.int e1), .val (.int e2), .val (.int e3)] [(.int r3)])) (fun t_ k_ => XS.iload X5.here hx rfl (hb hby at_181) rfl k_) ?_
        refine Go.st (T' := T5) (g' := (mkF m 185 #[.val (.long u), .second, .val (.long a), .second, .val (.long b), .second, .val (.long d), .second, .val (.long bud), .second, .val (.long w1), .second, .val (.long w2), .second, .val (.long w3), .second, .val (.ref b1), .val (.int r1), .val (.int r2), .val (.int r3), .val (.int e1), .val (.int e2), .val (.int e3)] [(.int e3), (.int r3)])) (fun t_ k_ => XS.iload X5.here hx rfl (hb hby at_183) rfl k_) ?_
        have hc185 : r3 = e3 := (own_law (e_bud ▸ own_m63 u) (e_w1 ▸ own_m61 a) (e_w2 ▸ own_m61 b) (e_w3 ▸ own_m61 d) t1 t2 t3 h_e1 h_e2 h_e3).2.2
        refine Go.st (T' := T5) (g' := (mkF m 188 #[.val (.long u), .second, .val (.long a), .second, .val (.long b), .second, .val (.long d), .second, .val (.long bud), .second, .val (.long w1), .second, .val (.long w2), .second, .val (.long w3), .second, .val (.ref b1), .val (.int r1), .val (.int r2), .val (.int r3), .val (.int e1), .val (.int e2), .val (.int e3)] [])) (fun t_ k_ => XS.icmpNo X5.here hx rfl (hb hby at_185) rfl (teq hc185).2 k_) ?_
        refine Go.st (T' := T5) (g' := (mkF m 189 #[.val (.long u), .second, .val (.long a), .second, .val (.long b), .second, .val (.long d), .second, .val (.long bud), .second, .val (.long w1), .second, .val (.long w2), .second, .val (.long w3), .second, .val (.ref b1), .val (.int r1), .val (.int r2), .val (.int r3), .val (.int e1), .val (.int e2), .val (.int e3)] [(.int (1 : Int32))])) (fun t_ k_ => XS.iconst X5.here hx rfl (hb hby at_188) k_) ?_
        refine Go.st (T' := T5) (g' := (mkF m 193 #[.val (.long u), .second, .val (.long a), .second, .val (.long b), .second, .val (.long d), .second, .val (.long bud), .second, .val (.long w1), .second, .val (.long w2), .second, .val (.long w3), .second, .val (.ref b1), .val (.int r1), .val (.int r2), .val (.int r3), .val (.int e1), .val (.int e2), .val (.int e3)] [(.int (1 : Int32))])) (fun t_ k_ => XS.goto X5.here hx rfl (pc0 := 189) (pc' := 193) rfl (hb hby at_189) (by decide) (by decide) k_) ?_
        refine goRetZ X5 hx hlk hret (hb hby at_193) (by decide) (by decide) (Or.inr rfl) ?_
        exact rfl
      by_cases hc123 : e1 = (0 : Int32)
      · skip
        refine Go.st (T' := T5) (g' := (mkF m 153 #[.val (.long u), .second, .val (.long a), .second, .val (.long b), .second, .val (.long d), .second, .val (.long bud), .second, .val (.long w1), .second, .val (.long w2), .second, .val (.long w3), .second, .val (.ref b1), .val (.int r1), .val (.int r2), .val (.int r3), .val (.int e1), .val (.int e2), .unset] [])) (fun t_ k_ => XS.ifYes X5.here hx rfl (pc0 := 123) (pc' := 153) rfl (hb hby at_123) rfl ((if0 _ _).trans (teq hc123).1) (by decide) (by decide) k_) ?_
        refine Go.st (T' := T5) (g' := (mkF m 155 #[.val (.long u), .second, .val (.long a), .second, .val (.long b), .second, .val (.long d), .second, .val (.long bud), .second, .val (.long w1), .second, .val (.long w2), .second, .val (.long w3), .second, .val (.ref b1), .val (.int r1), .val (.int r2), .val (.int r3), .val (.int e1), .val (.int e2), .unset] [(.long w3)])) (fun t_ k_ => XS.lload X5.here hx rfl (hb hby at_153) rfl k_) ?_
        refine Go.st (T' := T5) (g' := (mkF m 156 #[.val (.long u), .second, .val (.long a), .second, .val (.long b), .second, .val (.long d), .second, .val (.long bud), .second, .val (.long w1), .second, .val (.long w2), .second, .val (.long w3), .second, .val (.ref b1), .val (.int r1), .val (.int r2), .val (.int r3), .val (.int e1), .val (.int e2), .unset] [(.long (0 : Int64)), (.long w3)])) (fun t_ k_ => XS.lconst X5.here hx rfl (hb hby at_155) k_) ?_
        refine Go.st (T' := T5) (g' := (mkF m 157 #[.val (.long u), .second, .val (.long a), .second, .val (.long b), .second, .val (.long d), .second, .val (.long bud), .second, .val (.long w1), .second, .val (.long w2), .second, .val (.long w3), .second, .val (.ref b1), .val (.int r1), .val (.int r2), .val (.int r3), .val (.int e1), .val (.int e2), .unset] [(.int (lcmpW w3 (0 : Int64)))])) (fun t_ k_ => XS.lcmp X5.here hx rfl (hb hby at_156) rfl k_) ?_
        by_cases hc157 : w3 = (0 : Int64)
        · skip
          refine Go.st (T' := T5) (g' := (mkF m 160 #[.val (.long u), .second, .val (.long a), .second, .val (.long b), .second, .val (.long d), .second, .val (.long bud), .second, .val (.long w1), .second, .val (.long w2), .second, .val (.long w3), .second, .val (.ref b1), .val (.int r1), .val (.int r2), .val (.int r3), .val (.int e1), .val (.int e2), .unset] [])) (fun t_ k_ => XS.ifNo X5.here hx rfl (hb hby at_157) rfl (lcTeq hc157).2 k_) ?_
          refine Go.st (T' := T5) (g' := (mkF m 161 #[.val (.long u), .second, .val (.long a), .second, .val (.long b), .second, .val (.long d), .second, .val (.long bud), .second, .val (.long w1), .second, .val (.long w2), .second, .val (.long w3), .second, .val (.ref b1), .val (.int r1), .val (.int r2), .val (.int r3), .val (.int e1), .val (.int e2), .unset] [(.int (1 : Int32))])) (fun t_ k_ => XS.iconst X5.here hx rfl (hb hby at_160) k_) ?_
          refine Go.st (T' := T5) (g' := (mkF m 165 #[.val (.long u), .second, .val (.long a), .second, .val (.long b), .second, .val (.long d), .second, .val (.long bud), .second, .val (.long w1), .second, .val (.long w2), .second, .val (.long w3), .second, .val (.ref b1), .val (.int r1), .val (.int r2), .val (.int r3), .val (.int e1), .val (.int e2), .unset] [(.int (1 : Int32))])) (fun t_ k_ => XS.goto X5.here hx rfl (pc0 := 161) (pc' := 165) rfl (hb hby at_161) (by decide) (by decide) k_) ?_
          exact J165_8 (1 : Int32) (by rw [if_pos hc123, if_pos hc157])
        · skip
          refine Go.st (T' := T5) (g' := (mkF m 164 #[.val (.long u), .second, .val (.long a), .second, .val (.long b), .second, .val (.long d), .second, .val (.long bud), .second, .val (.long w1), .second, .val (.long w2), .second, .val (.long w3), .second, .val (.ref b1), .val (.int r1), .val (.int r2), .val (.int r3), .val (.int e1), .val (.int e2), .unset] [])) (fun t_ k_ => XS.ifYes X5.here hx rfl (pc0 := 157) (pc' := 164) rfl (hb hby at_157) rfl (lcFeq hc157).2 (by decide) (by decide) k_) ?_
          refine Go.st (T' := T5) (g' := (mkF m 165 #[.val (.long u), .second, .val (.long a), .second, .val (.long b), .second, .val (.long d), .second, .val (.long bud), .second, .val (.long w1), .second, .val (.long w2), .second, .val (.long w3), .second, .val (.ref b1), .val (.int r1), .val (.int r2), .val (.int r3), .val (.int e1), .val (.int e2), .unset] [(.int (0 : Int32))])) (fun t_ k_ => XS.iconst X5.here hx rfl (hb hby at_164) k_) ?_
          exact J165_8 (0 : Int32) (by rw [if_pos hc123, if_neg hc157])
      · skip
        refine Go.st (T' := T5) (g' := (mkF m 126 #[.val (.long u), .second, .val (.long a), .second, .val (.long b), .second, .val (.long d), .second, .val (.long bud), .second, .val (.long w1), .second, .val (.long w2), .second, .val (.long w3), .second, .val (.ref b1), .val (.int r1), .val (.int r2), .val (.int r3), .val (.int e1), .val (.int e2), .unset] [])) (fun t_ k_ => XS.ifNo X5.here hx rfl (hb hby at_123) rfl ((if0 _ _).trans (feq hc123).1) k_) ?_
        refine Go.st (T' := T5) (g' := (mkF m 128 #[.val (.long u), .second, .val (.long a), .second, .val (.long b), .second, .val (.long d), .second, .val (.long bud), .second, .val (.long w1), .second, .val (.long w2), .second, .val (.long w3), .second, .val (.ref b1), .val (.int r1), .val (.int r2), .val (.int r3), .val (.int e1), .val (.int e2), .unset] [(.int e2)])) (fun t_ k_ => XS.iload X5.here hx rfl (hb hby at_126) rfl k_) ?_
        by_cases hc128 : e2 = (0 : Int32)
        · skip
          refine Go.st (T' := T5) (g' := (mkF m 153 #[.val (.long u), .second, .val (.long a), .second, .val (.long b), .second, .val (.long d), .second, .val (.long bud), .second, .val (.long w1), .second, .val (.long w2), .second, .val (.long w3), .second, .val (.ref b1), .val (.int r1), .val (.int r2), .val (.int r3), .val (.int e1), .val (.int e2), .unset] [])) (fun t_ k_ => XS.ifYes X5.here hx rfl (pc0 := 128) (pc' := 153) rfl (hb hby at_128) rfl ((if0 _ _).trans (teq hc128).1) (by decide) (by decide) k_) ?_
          refine Go.st (T' := T5) (g' := (mkF m 155 #[.val (.long u), .second, .val (.long a), .second, .val (.long b), .second, .val (.long d), .second, .val (.long bud), .second, .val (.long w1), .second, .val (.long w2), .second, .val (.long w3), .second, .val (.ref b1), .val (.int r1), .val (.int r2), .val (.int r3), .val (.int e1), .val (.int e2), .unset] [(.long w3)])) (fun t_ k_ => XS.lload X5.here hx rfl (hb hby at_153) rfl k_) ?_
          refine Go.st (T' := T5) (g' := (mkF m 156 #[.val (.long u), .second, .val (.long a), .second, .val (.long b), .second, .val (.long d), .second, .val (.long bud), .second, .val (.long w1), .second, .val (.long w2), .second, .val (.long w3), .second, .val (.ref b1), .val (.int r1), .val (.int r2), .val (.int r3), .val (.int e1), .val (.int e2), .unset] [(.long (0 : Int64)), (.long w3)])) (fun t_ k_ => XS.lconst X5.here hx rfl (hb hby at_155) k_) ?_
          refine Go.st (T' := T5) (g' := (mkF m 157 #[.val (.long u), .second, .val (.long a), .second, .val (.long b), .second, .val (.long d), .second, .val (.long bud), .second, .val (.long w1), .second, .val (.long w2), .second, .val (.long w3), .second, .val (.ref b1), .val (.int r1), .val (.int r2), .val (.int r3), .val (.int e1), .val (.int e2), .unset] [(.int (lcmpW w3 (0 : Int64)))])) (fun t_ k_ => XS.lcmp X5.here hx rfl (hb hby at_156) rfl k_) ?_
          by_cases hc157 : w3 = (0 : Int64)
          · skip
            refine Go.st (T' := T5) (g' := (mkF m 160 #[.val (.long u), .second, .val (.long a), .second, .val (.long b), .second, .val (.long d), .second, .val (.long bud), .second, .val (.long w1), .second, .val (.long w2), .second, .val (.long w3), .second, .val (.ref b1), .val (.int r1), .val (.int r2), .val (.int r3), .val (.int e1), .val (.int e2), .unset] [])) (fun t_ k_ => XS.ifNo X5.here hx rfl (hb hby at_157) rfl (lcTeq hc157).2 k_) ?_
            refine Go.st (T' := T5) (g' := (mkF m 161 #[.val (.long u), .second, .val (.long a), .second, .val (.long b), .second, .val (.long d), .second, .val (.long bud), .second, .val (.long w1), .second, .val (.long w2), .second, .val (.long w3), .second, .val (.ref b1), .val (.int r1), .val (.int r2), .val (.int r3), .val (.int e1), .val (.int e2), .unset] [(.int (1 : Int32))])) (fun t_ k_ => XS.iconst X5.here hx rfl (hb hby at_160) k_) ?_
            refine Go.st (T' := T5) (g' := (mkF m 165 #[.val (.long u), .second, .val (.long a), .second, .val (.long b), .second, .val (.long d), .second, .val (.long bud), .second, .val (.long w1), .second, .val (.long w2), .second, .val (.long w3), .second, .val (.ref b1), .val (.int r1), .val (.int r2), .val (.int r3), .val (.int e1), .val (.int e2), .unset] [(.int (1 : Int32))])) (fun t_ k_ => XS.goto X5.here hx rfl (pc0 := 161) (pc' := 165) rfl (hb hby at_161) (by decide) (by decide) k_) ?_
            exact J165_8 (1 : Int32) (by rw [if_neg hc123, if_pos hc128, if_pos hc157])
          · skip
            refine Go.st (T' := T5) (g' := (mkF m 164 #[.val (.long u), .second, .val (.long a), .second, .val (.long b), .second, .val (.long d), .second, .val (.long bud), .second, .val (.long w1), .second, .val (.long w2), .second, .val (.long w3), .second, .val (.ref b1), .val (.int r1), .val (.int r2), .val (.int r3), .val (.int e1), .val (.int e2), .unset] [])) (fun t_ k_ => XS.ifYes X5.here hx rfl (pc0 := 157) (pc' := 164) rfl (hb hby at_157) rfl (lcFeq hc157).2 (by decide) (by decide) k_) ?_
            refine Go.st (T' := T5) (g' := (mkF m 165 #[.val (.long u), .second, .val (.long a), .second, .val (.long b), .second, .val (.long d), .second, .val (.long bud), .second, .val (.long w1), .second, .val (.long w2), .second, .val (.long w3), .second, .val (.ref b1), .val (.int r1), .val (.int r2), .val (.int r3), .val (.int e1), .val (.int e2), .unset] [(.int (0 : Int32))])) (fun t_ k_ => XS.iconst X5.here hx rfl (hb hby at_164) k_) ?_
            exact J165_8 (0 : Int32) (by rw [if_neg hc123, if_pos hc128, if_neg hc157])
        · skip
          refine Go.st (T' := T5) (g' := (mkF m 131 #[.val (.long u), .second, .val (.long a), .second, .val (.long b), .second, .val (.long d), .second, .val (.long bud), .second, .val (.long w1), .second, .val (.long w2), .second, .val (.long w3), .second, .val (.ref b1), .val (.int r1), .val (.int r2), .val (.int r3), .val (.int e1), .val (.int e2), .unset] [])) (fun t_ k_ => XS.ifNo X5.here hx rfl (hb hby at_128) rfl ((if0 _ _).trans (feq hc128).1) k_) ?_
          refine Go.st (T' := T5) (g' := (mkF m 133 #[.val (.long u), .second, .val (.long a), .second, .val (.long b), .second, .val (.long d), .second, .val (.long bud), .second, .val (.long w1), .second, .val (.long w2), .second, .val (.long w3), .second, .val (.ref b1), .val (.int r1), .val (.int r2), .val (.int r3), .val (.int e1), .val (.int e2), .unset] [(.long w1)])) (fun t_ k_ => XS.lload X5.here hx rfl (hb hby at_131) rfl k_) ?_
          refine Go.st (T' := T5) (g' := (mkF m 135 #[.val (.long u), .second, .val (.long a), .second, .val (.long b), .second, .val (.long d), .second, .val (.long bud), .second, .val (.long w1), .second, .val (.long w2), .second, .val (.long w3), .second, .val (.ref b1), .val (.int r1), .val (.int r2), .val (.int r3), .val (.int e1), .val (.int e2), .unset] [(.long w2), (.long w1)])) (fun t_ k_ => XS.lload X5.here hx rfl (hb hby at_133) rfl k_) ?_
          refine Go.st (T' := T5) (g' := (mkF m 136 #[.val (.long u), .second, .val (.long a), .second, .val (.long b), .second, .val (.long d), .second, .val (.long bud), .second, .val (.long w1), .second, .val (.long w2), .second, .val (.long w3), .second, .val (.ref b1), .val (.int r1), .val (.int r2), .val (.int r3), .val (.int e1), .val (.int e2), .unset] [(.long (w1 + w2))])) (fun t_ k_ => XS.ladd X5.here hx rfl (hb hby at_135) rfl k_) ?_
          refine Go.st (T' := T5) (g' := (mkF m 138 #[.val (.long u), .second, .val (.long a), .second, .val (.long b), .second, .val (.long d), .second, .val (.long bud), .second, .val (.long w1), .second, .val (.long w2), .second, .val (.long w3), .second, .val (.ref b1), .val (.int r1), .val (.int r2), .val (.int r3), .val (.int e1), .val (.int e2), .unset] [(.long w3), (.long (w1 + w2))])) (fun t_ k_ => XS.lload X5.here hx rfl (hb hby at_136) rfl k_) ?_
          refine Go.st (T' := T5) (g' := (mkF m 139 #[.val (.long u), .second, .val (.long a), .second, .val (.long b), .second, .val (.long d), .second, .val (.long bud), .second, .val (.long w1), .second, .val (.long w2), .second, .val (.long w3), .second, .val (.ref b1), .val (.int r1), .val (.int r2), .val (.int r3), .val (.int e1), .val (.int e2), .unset] [(.long ((w1 + w2) + w3))])) (fun t_ k_ => XS.ladd X5.here hx rfl (hb hby at_138) rfl k_) ?_
          refine Go.st (T' := T5) (g' := (mkF m 141 #[.val (.long u), .second, .val (.long a), .second, .val (.long b), .second, .val (.long d), .second, .val (.long bud), .second, .val (.long w1), .second, .val (.long w2), .second, .val (.long w3), .second, .val (.ref b1), .val (.int r1), .val (.int r2), .val (.int r3), .val (.int e1), .val (.int e2), .unset] [(.long bud), (.long ((w1 + w2) + w3))])) (fun t_ k_ => XS.lload X5.here hx rfl (hb hby at_139) rfl k_) ?_
          refine Go.st (T' := T5) (g' := (mkF m 142 #[.val (.long u), .second, .val (.long a), .second, .val (.long b), .second, .val (.long d), .second, .val (.long bud), .second, .val (.long w1), .second, .val (.long w2), .second, .val (.long w3), .second, .val (.ref b1), .val (.int r1), .val (.int r2), .val (.int r3), .val (.int e1), .val (.int e2), .unset] [(.int (lcmpW ((w1 + w2) + w3) bud))])) (fun t_ k_ => XS.lcmp X5.here hx rfl (hb hby at_141) rfl k_) ?_
          by_cases hc142 : bud < ((w1 + w2) + w3)
          · skip
            refine Go.st (T' := T5) (g' := (mkF m 149 #[.val (.long u), .second, .val (.long a), .second, .val (.long b), .second, .val (.long d), .second, .val (.long bud), .second, .val (.long w1), .second, .val (.long w2), .second, .val (.long w3), .second, .val (.ref b1), .val (.int r1), .val (.int r2), .val (.int r3), .val (.int e1), .val (.int e2), .unset] [])) (fun t_ k_ => XS.ifYes X5.here hx rfl (pc0 := 142) (pc' := 149) rfl (hb hby at_142) rfl (lcTgt hc142).1 (by decide) (by decide) k_) ?_
            refine Go.st (T' := T5) (g' := (mkF m 150 #[.val (.long u), .second, .val (.long a), .second, .val (.long b), .second, .val (.long d), .second, .val (.long bud), .second, .val (.long w1), .second, .val (.long w2), .second, .val (.long w3), .second, .val (.ref b1), .val (.int r1), .val (.int r2), .val (.int r3), .val (.int e1), .val (.int e2), .unset] [(.int (0 : Int32))])) (fun t_ k_ => XS.iconst X5.here hx rfl (hb hby at_149) k_) ?_
            refine Go.st (T' := T5) (g' := (mkF m 165 #[.val (.long u), .second, .val (.long a), .second, .val (.long b), .second, .val (.long d), .second, .val (.long bud), .second, .val (.long w1), .second, .val (.long w2), .second, .val (.long w3), .second, .val (.ref b1), .val (.int r1), .val (.int r2), .val (.int r3), .val (.int e1), .val (.int e2), .unset] [(.int (0 : Int32))])) (fun t_ k_ => XS.goto X5.here hx rfl (pc0 := 150) (pc' := 165) rfl (hb hby at_150) (by decide) (by decide) k_) ?_
            exact J165_8 (0 : Int32) (by rw [if_neg hc123, if_neg hc128, if_pos hc142])
          · skip
            refine Go.st (T' := T5) (g' := (mkF m 145 #[.val (.long u), .second, .val (.long a), .second, .val (.long b), .second, .val (.long d), .second, .val (.long bud), .second, .val (.long w1), .second, .val (.long w2), .second, .val (.long w3), .second, .val (.ref b1), .val (.int r1), .val (.int r2), .val (.int r3), .val (.int e1), .val (.int e2), .unset] [])) (fun t_ k_ => XS.ifNo X5.here hx rfl (hb hby at_142) rfl (lcFgt hc142).1 k_) ?_
            refine Go.st (T' := T5) (g' := (mkF m 146 #[.val (.long u), .second, .val (.long a), .second, .val (.long b), .second, .val (.long d), .second, .val (.long bud), .second, .val (.long w1), .second, .val (.long w2), .second, .val (.long w3), .second, .val (.ref b1), .val (.int r1), .val (.int r2), .val (.int r3), .val (.int e1), .val (.int e2), .unset] [(.int (1 : Int32))])) (fun t_ k_ => XS.iconst X5.here hx rfl (hb hby at_145) k_) ?_
            refine Go.st (T' := T5) (g' := (mkF m 165 #[.val (.long u), .second, .val (.long a), .second, .val (.long b), .second, .val (.long d), .second, .val (.long bud), .second, .val (.long w1), .second, .val (.long w2), .second, .val (.long w3), .second, .val (.ref b1), .val (.int r1), .val (.int r2), .val (.int r3), .val (.int e1), .val (.int e2), .unset] [(.int (1 : Int32))])) (fun t_ k_ => XS.goto X5.here hx rfl (pc0 := 146) (pc' := 165) rfl (hb hby at_146) (by decide) (by decide) k_) ?_
            exact J165_8 (1 : Int32) (by rw [if_neg hc123, if_neg hc128, if_neg hc142])
    by_cases hc85 : e1 = (0 : Int32)
    · skip
      refine Go.st (T' := T5) (g' := (mkF m 107 #[.val (.long u), .second, .val (.long a), .second, .val (.long b), .second, .val (.long d), .second, .val (.long bud), .second, .val (.long w1), .second, .val (.long w2), .second, .val (.long w3), .second, .val (.ref b1), .val (.int r1), .val (.int r2), .val (.int r3), .val (.int e1), .unset, .unset] [])) (fun t_ k_ => XS.ifYes X5.here hx rfl (pc0 := 85) (pc' := 107) rfl (hb hby at_85) rfl ((if0 _ _).trans (teq hc85).1) (by decide) (by decide) k_) ?_
      refine Go.st (T' := T5) (g' := (mkF m 109 #[.val (.long u), .second, .val (.long a), .second, .val (.long b), .second, .val (.long d), .second, .val (.long bud), .second, .val (.long w1), .second, .val (.long w2), .second, .val (.long w3), .second, .val (.ref b1), .val (.int r1), .val (.int r2), .val (.int r3), .val (.int e1), .unset, .unset] [(.long w2)])) (fun t_ k_ => XS.lload X5.here hx rfl (hb hby at_107) rfl k_) ?_
      refine Go.st (T' := T5) (g' := (mkF m 110 #[.val (.long u), .second, .val (.long a), .second, .val (.long b), .second, .val (.long d), .second, .val (.long bud), .second, .val (.long w1), .second, .val (.long w2), .second, .val (.long w3), .second, .val (.ref b1), .val (.int r1), .val (.int r2), .val (.int r3), .val (.int e1), .unset, .unset] [(.long (0 : Int64)), (.long w2)])) (fun t_ k_ => XS.lconst X5.here hx rfl (hb hby at_109) k_) ?_
      refine Go.st (T' := T5) (g' := (mkF m 111 #[.val (.long u), .second, .val (.long a), .second, .val (.long b), .second, .val (.long d), .second, .val (.long bud), .second, .val (.long w1), .second, .val (.long w2), .second, .val (.long w3), .second, .val (.ref b1), .val (.int r1), .val (.int r2), .val (.int r3), .val (.int e1), .unset, .unset] [(.int (lcmpW w2 (0 : Int64)))])) (fun t_ k_ => XS.lcmp X5.here hx rfl (hb hby at_110) rfl k_) ?_
      by_cases hc111 : w2 = (0 : Int64)
      · skip
        refine Go.st (T' := T5) (g' := (mkF m 114 #[.val (.long u), .second, .val (.long a), .second, .val (.long b), .second, .val (.long d), .second, .val (.long bud), .second, .val (.long w1), .second, .val (.long w2), .second, .val (.long w3), .second, .val (.ref b1), .val (.int r1), .val (.int r2), .val (.int r3), .val (.int e1), .unset, .unset] [])) (fun t_ k_ => XS.ifNo X5.here hx rfl (hb hby at_111) rfl (lcTeq hc111).2 k_) ?_
        refine Go.st (T' := T5) (g' := (mkF m 115 #[.val (.long u), .second, .val (.long a), .second, .val (.long b), .second, .val (.long d), .second, .val (.long bud), .second, .val (.long w1), .second, .val (.long w2), .second, .val (.long w3), .second, .val (.ref b1), .val (.int r1), .val (.int r2), .val (.int r3), .val (.int e1), .unset, .unset] [(.int (1 : Int32))])) (fun t_ k_ => XS.iconst X5.here hx rfl (hb hby at_114) k_) ?_
        refine Go.st (T' := T5) (g' := (mkF m 119 #[.val (.long u), .second, .val (.long a), .second, .val (.long b), .second, .val (.long d), .second, .val (.long bud), .second, .val (.long w1), .second, .val (.long w2), .second, .val (.long w3), .second, .val (.ref b1), .val (.int r1), .val (.int r2), .val (.int r3), .val (.int e1), .unset, .unset] [(.int (1 : Int32))])) (fun t_ k_ => XS.goto X5.here hx rfl (pc0 := 115) (pc' := 119) rfl (hb hby at_115) (by decide) (by decide) k_) ?_
        exact J119_7 (1 : Int32) (by rw [if_pos hc85, if_pos hc111])
      · skip
        refine Go.st (T' := T5) (g' := (mkF m 118 #[.val (.long u), .second, .val (.long a), .second, .val (.long b), .second, .val (.long d), .second, .val (.long bud), .second, .val (.long w1), .second, .val (.long w2), .second, .val (.long w3), .second, .val (.ref b1), .val (.int r1), .val (.int r2), .val (.int r3), .val (.int e1), .unset, .unset] [])) (fun t_ k_ => XS.ifYes X5.here hx rfl (pc0 := 111) (pc' := 118) rfl (hb hby at_111) rfl (lcFeq hc111).2 (by decide) (by decide) k_) ?_
        refine Go.st (T' := T5) (g' := (mkF m 119 #[.val (.long u), .second, .val (.long a), .second, .val (.long b), .second, .val (.long d), .second, .val (.long bud), .second, .val (.long w1), .second, .val (.long w2), .second, .val (.long w3), .second, .val (.ref b1), .val (.int r1), .val (.int r2), .val (.int r3), .val (.int e1), .unset, .unset] [(.int (0 : Int32))])) (fun t_ k_ => XS.iconst X5.here hx rfl (hb hby at_118) k_) ?_
        exact J119_7 (0 : Int32) (by rw [if_pos hc85, if_neg hc111])
    · skip
      refine Go.st (T' := T5) (g' := (mkF m 88 #[.val (.long u), .second, .val (.long a), .second, .val (.long b), .second, .val (.long d), .second, .val (.long bud), .second, .val (.long w1), .second, .val (.long w2), .second, .val (.long w3), .second, .val (.ref b1), .val (.int r1), .val (.int r2), .val (.int r3), .val (.int e1), .unset, .unset] [])) (fun t_ k_ => XS.ifNo X5.here hx rfl (hb hby at_85) rfl ((if0 _ _).trans (feq hc85).1) k_) ?_
      refine Go.st (T' := T5) (g' := (mkF m 90 #[.val (.long u), .second, .val (.long a), .second, .val (.long b), .second, .val (.long d), .second, .val (.long bud), .second, .val (.long w1), .second, .val (.long w2), .second, .val (.long w3), .second, .val (.ref b1), .val (.int r1), .val (.int r2), .val (.int r3), .val (.int e1), .unset, .unset] [(.long w1)])) (fun t_ k_ => XS.lload X5.here hx rfl (hb hby at_88) rfl k_) ?_
      refine Go.st (T' := T5) (g' := (mkF m 92 #[.val (.long u), .second, .val (.long a), .second, .val (.long b), .second, .val (.long d), .second, .val (.long bud), .second, .val (.long w1), .second, .val (.long w2), .second, .val (.long w3), .second, .val (.ref b1), .val (.int r1), .val (.int r2), .val (.int r3), .val (.int e1), .unset, .unset] [(.long w2), (.long w1)])) (fun t_ k_ => XS.lload X5.here hx rfl (hb hby at_90) rfl k_) ?_
      refine Go.st (T' := T5) (g' := (mkF m 93 #[.val (.long u), .second, .val (.long a), .second, .val (.long b), .second, .val (.long d), .second, .val (.long bud), .second, .val (.long w1), .second, .val (.long w2), .second, .val (.long w3), .second, .val (.ref b1), .val (.int r1), .val (.int r2), .val (.int r3), .val (.int e1), .unset, .unset] [(.long (w1 + w2))])) (fun t_ k_ => XS.ladd X5.here hx rfl (hb hby at_92) rfl k_) ?_
      refine Go.st (T' := T5) (g' := (mkF m 95 #[.val (.long u), .second, .val (.long a), .second, .val (.long b), .second, .val (.long d), .second, .val (.long bud), .second, .val (.long w1), .second, .val (.long w2), .second, .val (.long w3), .second, .val (.ref b1), .val (.int r1), .val (.int r2), .val (.int r3), .val (.int e1), .unset, .unset] [(.long bud), (.long (w1 + w2))])) (fun t_ k_ => XS.lload X5.here hx rfl (hb hby at_93) rfl k_) ?_
      refine Go.st (T' := T5) (g' := (mkF m 96 #[.val (.long u), .second, .val (.long a), .second, .val (.long b), .second, .val (.long d), .second, .val (.long bud), .second, .val (.long w1), .second, .val (.long w2), .second, .val (.long w3), .second, .val (.ref b1), .val (.int r1), .val (.int r2), .val (.int r3), .val (.int e1), .unset, .unset] [(.int (lcmpW (w1 + w2) bud))])) (fun t_ k_ => XS.lcmp X5.here hx rfl (hb hby at_95) rfl k_) ?_
      by_cases hc96 : bud < (w1 + w2)
      · skip
        refine Go.st (T' := T5) (g' := (mkF m 103 #[.val (.long u), .second, .val (.long a), .second, .val (.long b), .second, .val (.long d), .second, .val (.long bud), .second, .val (.long w1), .second, .val (.long w2), .second, .val (.long w3), .second, .val (.ref b1), .val (.int r1), .val (.int r2), .val (.int r3), .val (.int e1), .unset, .unset] [])) (fun t_ k_ => XS.ifYes X5.here hx rfl (pc0 := 96) (pc' := 103) rfl (hb hby at_96) rfl (lcTgt hc96).1 (by decide) (by decide) k_) ?_
        refine Go.st (T' := T5) (g' := (mkF m 104 #[.val (.long u), .second, .val (.long a), .second, .val (.long b), .second, .val (.long d), .second, .val (.long bud), .second, .val (.long w1), .second, .val (.long w2), .second, .val (.long w3), .second, .val (.ref b1), .val (.int r1), .val (.int r2), .val (.int r3), .val (.int e1), .unset, .unset] [(.int (0 : Int32))])) (fun t_ k_ => XS.iconst X5.here hx rfl (hb hby at_103) k_) ?_
        refine Go.st (T' := T5) (g' := (mkF m 119 #[.val (.long u), .second, .val (.long a), .second, .val (.long b), .second, .val (.long d), .second, .val (.long bud), .second, .val (.long w1), .second, .val (.long w2), .second, .val (.long w3), .second, .val (.ref b1), .val (.int r1), .val (.int r2), .val (.int r3), .val (.int e1), .unset, .unset] [(.int (0 : Int32))])) (fun t_ k_ => XS.goto X5.here hx rfl (pc0 := 104) (pc' := 119) rfl (hb hby at_104) (by decide) (by decide) k_) ?_
        exact J119_7 (0 : Int32) (by rw [if_neg hc85, if_pos hc96])
      · skip
        refine Go.st (T' := T5) (g' := (mkF m 99 #[.val (.long u), .second, .val (.long a), .second, .val (.long b), .second, .val (.long d), .second, .val (.long bud), .second, .val (.long w1), .second, .val (.long w2), .second, .val (.long w3), .second, .val (.ref b1), .val (.int r1), .val (.int r2), .val (.int r3), .val (.int e1), .unset, .unset] [])) (fun t_ k_ => XS.ifNo X5.here hx rfl (hb hby at_96) rfl (lcFgt hc96).1 k_) ?_
        refine Go.st (T' := T5) (g' := (mkF m 100 #[.val (.long u), .second, .val (.long a), .second, .val (.long b), .second, .val (.long d), .second, .val (.long bud), .second, .val (.long w1), .second, .val (.long w2), .second, .val (.long w3), .second, .val (.ref b1), .val (.int r1), .val (.int r2), .val (.int r3), .val (.int e1), .unset, .unset] [(.int (1 : Int32))])) (fun t_ k_ => XS.iconst X5.here hx rfl (hb hby at_99) k_) ?_
        refine Go.st (T' := T5) (g' := (mkF m 119 #[.val (.long u), .second, .val (.long a), .second, .val (.long b), .second, .val (.long d), .second, .val (.long bud), .second, .val (.long w1), .second, .val (.long w2), .second, .val (.long w3), .second, .val (.ref b1), .val (.int r1), .val (.int r2), .val (.int r3), .val (.int e1), .unset, .unset] [(.int (1 : Int32))])) (fun t_ k_ => XS.goto X5.here hx rfl (pc0 := 100) (pc' := 119) rfl (hb hby at_100) (by decide) (by decide) k_) ?_
        exact J119_7 (1 : Int32) (by rw [if_neg hc85, if_neg hc96])
  by_cases hc73 : bud < w1
  · skip
    refine Go.st (T' := T5) (g' := (mkF m 80 #[.val (.long u), .second, .val (.long a), .second, .val (.long b), .second, .val (.long d), .second, .val (.long bud), .second, .val (.long w1), .second, .val (.long w2), .second, .val (.long w3), .second, .val (.ref b1), .val (.int r1), .val (.int r2), .val (.int r3), .unset, .unset, .unset] [])) (fun t_ k_ => XS.ifYes X5.here hx rfl (pc0 := 73) (pc' := 80) rfl (hb hby at_73) rfl (lcTgt hc73).1 (by decide) (by decide) k_) ?_
    refine Go.st (T' := T5) (g' := (mkF m 81 #[.val (.long u), .second, .val (.long a), .second, .val (.long b), .second, .val (.long d), .second, .val (.long bud), .second, .val (.long w1), .second, .val (.long w2), .second, .val (.long w3), .second, .val (.ref b1), .val (.int r1), .val (.int r2), .val (.int r3), .unset, .unset, .unset] [(.int (0 : Int32))])) (fun t_ k_ => XS.iconst X5.here hx rfl (hb hby at_80) k_) ?_
    exact J81_6 (0 : Int32) (by rw [if_pos hc73])
  · skip
    refine Go.st (T' := T5) (g' := (mkF m 76 #[.val (.long u), .second, .val (.long a), .second, .val (.long b), .second, .val (.long d), .second, .val (.long bud), .second, .val (.long w1), .second, .val (.long w2), .second, .val (.long w3), .second, .val (.ref b1), .val (.int r1), .val (.int r2), .val (.int r3), .unset, .unset, .unset] [])) (fun t_ k_ => XS.ifNo X5.here hx rfl (hb hby at_73) rfl (lcFgt hc73).1 k_) ?_
    refine Go.st (T' := T5) (g' := (mkF m 77 #[.val (.long u), .second, .val (.long a), .second, .val (.long b), .second, .val (.long d), .second, .val (.long bud), .second, .val (.long w1), .second, .val (.long w2), .second, .val (.long w3), .second, .val (.ref b1), .val (.int r1), .val (.int r2), .val (.int r3), .unset, .unset, .unset] [(.int (1 : Int32))])) (fun t_ k_ => XS.iconst X5.here hx rfl (hb hby at_76) k_) ?_
    refine Go.st (T' := T5) (g' := (mkF m 81 #[.val (.long u), .second, .val (.long a), .second, .val (.long b), .second, .val (.long d), .second, .val (.long bud), .second, .val (.long w1), .second, .val (.long w2), .second, .val (.long w3), .second, .val (.ref b1), .val (.int r1), .val (.int r2), .val (.int r3), .unset, .unset, .unset] [(.int (1 : Int32))])) (fun t_ k_ => XS.goto X5.here hx rfl (pc0 := 77) (pc' := 81) rfl (hb hby at_77) (by decide) (by decide) k_) ?_
    exact J81_6 (1 : Int32) (by rw [if_neg hc73])
set_option maxRecDepth 65536 in
set_option maxHeartbeats 40000000 in
theorem comes_1 {Post : Tables → Env → Array Value → State → Outcome → State → Prop} (hpost : ∀ tb e args s v u, (limb_1_1.after args s (.returned v) u = true ∧ limb_1_2.after args s (.returned v) u = true ∧ True) → FrameEnd s (.returned v) u (Jvm.fieldLocs frame_1_writes args s ++ Jvm.arrayLocs frame_1_arrays args s ++ Jvm.staticLocs frame_1_statics s) 16 128 → Post tb e args s (.returned v) u) :
    ArmFor flags0 classFile x code maxLocals ret World_1 tables_1 room_1 Calls_1 rest_1 Pre_1 Post := by
  intro l hfl _ _ p e ha hc hk s m args below hf hA hF happ hP
  obtain ⟨hcalls, hrest, hpre⟩ := hP
  obtain ⟨-, -, -, hnamed, -, -, -, hat⟩ := (Spec.applies_iff hf).mp happ
  obtain ⟨hg, hn⟩ := and_e (Cond.before_iff.mp (show (Jvm.Cond.and given_1 narrow_1).before args s = true from hpre))
  obtain ⟨hcnt, hg⟩ := and_e hg
  obtain ⟨ha0, hg⟩ := and_e hg
  obtain ⟨ha1, hg⟩ := and_e hg
  obtain ⟨ha2, hg⟩ := and_e hg
  have ha3 := hg
  obtain ⟨w0, w1, w2, w3, rfl⟩ : ∃ w0 w1 w2 w3 : Value, args = #[w0, w1, w2, w3] := by
    have hs : args.size = 4 := by simpa [Cond.value, given_1] using hcnt
    obtain ⟨L⟩ := args
    match L, hs with
    | [w0, w1, w2, w3], _ => exact ⟨w0, w1, w2, w3, rfl⟩
  have hw := fun d (hd : d ∈ tables_1) => atoms_spec (ws := Jvm.Cond.code x code maxLocals ret :: tables_1) hat d (List.mem_cons_of_mem _ hd)
  have hfit : Fit s := fun {y c} hc i hi => by
    obtain ⟨ha, rfl⟩ := Array.getElem?_eq_some_iff.mp hc
    have q := List.all_eq_true.mp ((Array.all_eq_true_iff_forall_mem.mp hF) _ (Array.getElem_mem ha)) i (List.mem_range.mpr hi)
    simpa [Array.getElem?_eq_getElem hi] using q
  obtain ⟨i0, ei0⟩ := isL_v ha0
  obtain rfl : w0 = (.long i0) := Option.some.inj ei0
  obtain ⟨i1, ei1⟩ := isL_v ha1
  obtain rfl : w1 = (.long i1) := Option.some.inj ei1
  obtain ⟨i2, ei2⟩ := isL_v ha2
  obtain rfl : w2 = (.long i2) := Option.some.inj ei2
  obtain ⟨i3, ei3⟩ := isL_v ha3
  obtain rfl : w3 = (.long i3) := Option.some.inj ei3
  obtain ⟨n, o, h1, h2, h3, v, L, rfl, ⟨N, hv⟩, hq⟩ := rm0 l s _ hw tables_1 s.heap.size s.heap i0 i1 i2 i3 (Nat.le_refl _) p e ha hc hk s m _ below hf ((Spec.applies_iff_loose hf).mp happ).1 ⟨rfl, State.Warmed39.refl s, rfl⟩ trivial
  obtain rfl : v = some (.int 1) := hv
  refine ⟨n, _, h1, h2, h3, hpost _ _ _ _ _ _ ⟨Cond.after_iff.mpr rfl, Cond.after_iff.mpr (eq_i res_at (Term.int_eval (1)) rfl), trivial⟩ ⟨hq.1, hq.2.1, (hq.2.2.sift fun y hy => Or.inr (N y hy)).mono (by decide) (by decide)⟩⟩
theorem main_1_1 : Claimed_1_1 := comes_1 fun _ _ _ _ _ _ h hF => ⟨h.1, hF⟩
theorem main_1_2 : Claimed_1_2 := comes_1 fun _ _ _ _ _ _ h hF => ⟨h.2.1, hF⟩
end Jvm.Pilot.@@N@@
namespace Jvm.Pilot.@@N@@
open Jvm Jvm.ClassFile Sem Op Lib Jvm.Free Jvm.Stand Jvm.Pilot.@@N@@.Jvm.D
/-! MADE BY PROGRAM (witnessworld.py) out of the Statement's table words and the real class files: 9 classes; the members and pool entries that the words name. The judged class is class 1, her method 1. -/
namespace start1
open Jvm.ClassFile
def u (s : String) : CpInfo := .utf8 (stringToUtf16 s)
/-- a pool by its gaps: so many unusable entries, then the entry; so many at the end -/
def gap : Nat → List CpInfo → List CpInfo
  | 0, r => r
  | n + 1, r => .unusable :: gap n r
def poolList (es : List (Nat × CpInfo)) (last : Nat) : List CpInfo := es.foldr (fun e r => gap e.1 (e.2 :: r)) (gap last [])
def pool (es : List (Nat × CpInfo)) (last : Nat) : Array CpInfo := ⟨poolList es last⟩
def fileOf (pool : Array CpInfo) (this : Nat) (attrs : Array Attribute := #[]) (ms : Array MethodInfo := #[]) (fl : Nat := 33) (sup : Nat := 0) (ifs : Array Nat := #[]) (fds : Array FieldInfo := #[]) : ClassFile where
  minorVersion := 0
  majorVersion := 65
  constantPool := pool
  accessFlags := fl
  thisClass := this
  superClass := sup
  interfaces := ifs
  fields := fds
  methods := ms
  attributes := attrs
def plain (name : String) (sup : Option ClassId) : Class where
  name := name
  kind := .ordinary
  loader := none
  accessFlags := 33
  super := sup
  interfaces := #[]
  cf := none
  fields := #[]
  methods := #[]
  instanceTypes := #[]
  staticTypes := #[]
  resolved := #[]
  callSites := []
  init := .initialized
  statics := none
  mirror := none

def pool0 : Array CpInfo := pool [(5, u "<init>"), (0, u "()V"), (1, .class_ 10), (1, u "java/lang/Object")] 113

def k0c0 : Code := { maxStack := 0, maxLocals := 1, code := object_method_1_code, exceptionTable := #[], attributes := #[] }
def k0m0 : Method := { name := "<init>", desc := "()V", sig := { parameters := [], returnType := none }, accessFlags := 1, code := some k0c0 }
/-- java/lang/Object -/
def k0 : Class := { plain "java/lang/Object" none with
  accessFlags := 33
  interfaces := #[]
  cf := some (fileOf pool0 8 #[] #[{ accessFlags := 1, nameIndex := 5, descriptorIndex := 6, attributes := #[] }] 33 0 #[] #[])
  fields := #[]
  methods := #[k0m0]
  instanceTypes := #[]
  staticTypes := #[]
  resolved := Array.replicate 124 none
  statics := none }

def pool1 : Array CpInfo := pool [(2, .class_ 4), (1, u "java/lang/Object"), (0, u "<init>"), (0, u "()V"), (2, .long 9223372036854775807), (1, .long 2305843009213693951), (1, .class_ 14), (0, u "com/example/kenshinkit/kenshinkit/schema/WorkBudget"), (0, .methodref 13 16), (0, .nameAndType 5 17), (0, u "(J)V"), (0, .methodref 13 19), (0, .nameAndType 20 21), (0, u "take"), (0, u "(J)Z"), (0, .class_ 23), (0, u "com/example/kenshinkit/kenshinkit/schema/WorkBudgetTakePinLaw"), (2, u "law"), (0, u "(JJJJ)Z")] 3

def k1m0 : Method := { name := "<init>", desc := "()V", sig := { parameters := [], returnType := none }, accessFlags := 1, code := none }
def k1c1 : Code := { maxStack := 4, maxLocals := 23, code := code, exceptionTable := #[], attributes := #[] }
def k1m1 : Method := { name := "law", desc := "(JJJJ)Z", sig := { parameters := [.long, .long, .long, .long], returnType := some .boolean }, accessFlags := 9, code := some k1c1 }
/-- com/example/kenshinkit/kenshinkit/schema/WorkBudgetTakePinLaw -/
def k1 : Class := { plain "com/example/kenshinkit/kenshinkit/schema/WorkBudgetTakePinLaw" (some 0) with
  accessFlags := 49
  interfaces := #[]
  cf := some (fileOf pool1 22 #[] #[{ accessFlags := 1, nameIndex := 5, descriptorIndex := 6, attributes := #[] }, { accessFlags := 9, nameIndex := 26, descriptorIndex := 27, attributes := #[] }] 49 2 #[] #[])
  fields := #[]
  methods := #[k1m0, k1m1]
  instanceTypes := #[]
  staticTypes := #[]
  resolved := Array.replicate 31 none
  statics := none }

def pool2 : Array CpInfo := pool [(1, .methodref 2 3), (0, .class_ 4), (0, .nameAndType 5 6), (0, u "java/lang/Object"), (0, u "<init>"), (0, u "()V"), (0, .fieldref 8 9), (0, .class_ 10), (0, .nameAndType 11 12), (0, u "com/example/kenshinkit/kenshinkit/schema/WorkBudget"), (0, u "left"), (0, u "J"), (0, u "(J)V"), (2, u "take"), (0, u "(J)Z")] 3

def k2c0 : Code := { maxStack := 3, maxLocals := 3, code := prog_189_method_1_code, exceptionTable := #[], attributes := #[] }
def k2m0 : Method := { name := "<init>", desc := "(J)V", sig := { parameters := [.long], returnType := none }, accessFlags := 0, code := some k2c0 }
def k2c1 : Code := { maxStack := 5, maxLocals := 4, code := prog_189_method_2_code, exceptionTable := #[], attributes := #[] }
def k2m1 : Method := { name := "take", desc := "(J)Z", sig := { parameters := [.long], returnType := some .boolean }, accessFlags := 0, code := some k2c1 }
/-- com/example/kenshinkit/kenshinkit/schema/WorkBudget -/
def k2 : Class := { plain "com/example/kenshinkit/kenshinkit/schema/WorkBudget" (some 0) with
  accessFlags := 48
  interfaces := #[]
  cf := some (fileOf pool2 8 #[] #[{ accessFlags := 0, nameIndex := 5, descriptorIndex := 13, attributes := #[] }, { accessFlags := 0, nameIndex := 16, descriptorIndex := 17, attributes := #[] }] 48 2 #[] #[{ accessFlags := 2, nameIndex := 11, descriptorIndex := 12, attributes := #[] }])
  fields := #[{ name := "left", type := .long, accessFlags := 2, slot := 0, constantValue := 0 }]
  methods := #[k2m0, k2m1]
  instanceTypes := #[.long]
  staticTypes := #[]
  resolved := Array.replicate 21 none
  statics := none }

def pool3 : Array CpInfo := pool [(1, u "java/lang/Cloneable"), (0, .class_ 1), (0, u "java/lang/Object"), (0, .class_ 3)] 3

/-- java/lang/Cloneable -/
def k3 : Class := { plain "java/lang/Cloneable" (some 0) with
  accessFlags := 1537
  interfaces := #[]
  cf := some (fileOf pool3 2 #[] #[] 1537 4 #[] #[])
  fields := #[]
  methods := #[]
  instanceTypes := #[]
  staticTypes := #[]
  resolved := Array.replicate 8 none
  statics := none }

def pool4 : Array CpInfo := pool [(1, u "java/io/Serializable"), (0, .class_ 1), (0, u "java/lang/Object"), (0, .class_ 3)] 3

/-- java/io/Serializable -/
def k4 : Class := { plain "java/io/Serializable" (some 0) with
  accessFlags := 1537
  interfaces := #[]
  cf := some (fileOf pool4 2 #[] #[] 1537 4 #[] #[])
  fields := #[]
  methods := #[]
  instanceTypes := #[]
  staticTypes := #[]
  resolved := Array.replicate 8 none
  statics := none }

/-- the primitive byte -/
def k5 : Class := { plain "byte" none with kind := .primitive 'B', accessFlags := 0x411 }
/-- [B -/
def k6 : Class := { plain "[B" (some 0) with kind := .array 5 .byte, interfaces := #[3, 4], accessFlags := 1041 }

/-- the primitive int -/
def k7 : Class := { plain "int" none with kind := .primitive 'I', accessFlags := 0x411 }
/-- [I -/
def k8 : Class := { plain "[I" (some 0) with kind := .array 7 .int, interfaces := #[3, 4], accessFlags := 1041 }

def heap : Heap := #[]
def classes : Array Class := #[k0, k1, k2, k3, k4, k5, k6, k7, k8]
def interned : List (Array UInt16 × Addr) := []
def slotsUsed : Nat := 0
def theMethod : MethodId := ⟨1, 1⟩
def args0 : Array Value := #[.long 5, .long 1, .long 1, .long 1]
def aboutOver (below : List Frame) : State where
  vm := { classes := classes, interned := interned.toArray }
  heap := heap
  slotsUsed := slotsUsed
  threads := #[{ frames := .invoking theMethod args0 :: below }]
def below0 : List Frame := [.native { method := ⟨0, 0⟩, args := #[] }]
def about1 : State := aboutOver below0
def p0 : Program := .bare "" "" ""
def e0 : Env := launch0.env 0 0 0
theorem w_frames : about1.frames = Frame.invoking theMethod args0 :: below0 := rfl
set_option maxRecDepth 65536 in
theorem w_args : argsFit about1.vm theMethod args0 = true := by decide +kernel
set_option maxRecDepth 65536 in
theorem w_heap : heapFits about1 = true := by decide +kernel
set_option maxRecDepth 65536 in
theorem w_runnable : about1.curStatus? = some .runnable := by decide +kernel
set_option maxRecDepth 65536 in
theorem w_alone : about1.alone = true := by decide +kernel
set_option maxRecDepth 65536 in
theorem w_named : about1.methodNamed? x = some theMethod := by decide +kernel
set_option maxRecDepth 65536 in
theorem w_hears : about1.hears theMethod below0 = true := by decide +kernel
set_option maxRecDepth 65536 in
theorem w_ripe : about1.ripe theMethod args0 below0 = true := by decide +kernel
theorem w_running : about1.status = .running := rfl
set_option maxRecDepth 65536 in
theorem w_room : about1.hasRoom e0.platform room_1 = true :=
  launch0.hasRoom_least _ room_1 (by decide +kernel) (by decide +kernel) (by decide +kernel) (by decide +kernel) (by decide +kernel) (by decide +kernel)
theorem allAtoms_all (ts : List Jvm.Cond) (a : Array Jvm.Value) (st : Jvm.State) : (allAtoms ts).before a st = ts.all (fun c => c.before a st) := by
  induction ts with
  | nil => rfl
  | cons c t ih =>
    show (Jvm.Cond.and c (allAtoms t)).before a st = _
    rw [Jvm.Cond.before_and, ih, List.all_cons]
def words1 : List Jvm.Cond := Jvm.Cond.code x code maxLocals ret :: tables_1
/-- a 'code' word, met by the world's own term for the bytes: nothing is compared byte by byte -/
theorem code_word {y : MethodName} {bytes : ByteArray} {mx : Nat} {rt : Option FieldType} {a : Array Value} {s : State} {m : MethodId} {meth : Method} {c : Code} (h1 : s.methodNamed? y = some m) (h2 : s.vm.method? m = some meth) (h3 : meth.code = some c) (h4 : c.code = bytes)
    (h5 : (c.maxLocals == mx && c.exceptionTable.isEmpty && decide (c.maxStack ≤ mostOperands) && decide (meth.sig.returnType = rt) && !meth.locks && decide (parseMethodDescriptor y.desc = some meth.sig)) = true) : (Jvm.Cond.code y bytes mx rt).before a s = true := by
  simp only [Bool.and_eq_true, beq_iff_eq, Bool.not_eq_true', decide_eq_true_eq] at h5
  obtain ⟨⟨⟨⟨⟨g1, g2⟩, g3⟩, g4⟩, g5⟩, g6⟩ := h5
  simp [Cond.before, Cond.holds, Cond.value, h1, h2, h3, h4, g1, g2, g3, g4, g5, g6]
def isCode : Jvm.Cond → Bool
  | .code _ _ _ _ => true
  | _ => false
theorem all_split {L : List Jvm.Cond} {P : Jvm.Cond → Bool} (h1 : L.all (fun c => isCode c || P c) = true) (h2 : ∀ c ∈ L.filter isCode, P c = true) : L.all P = true := by
  refine List.all_eq_true.mpr fun c hc => ?_
  have h := List.all_eq_true.mp h1 c hc
  rcases Bool.eq_false_or_eq_true (isCode c) with hi | hi
  · exact h2 c (List.mem_filter.mpr ⟨hc, hi⟩)
  · simpa [hi] using h
set_option maxRecDepth 65536 in
theorem w_c0 : (Jvm.Cond.code x code maxLocals ret).before args0 about1 = true := code_word (m := ⟨1, 1⟩) (meth := k1m1) (c := k1c1) (by decide +kernel) rfl rfl rfl (by decide +kernel)
set_option maxRecDepth 65536 in
theorem w_c1 : (Jvm.Cond.code ({ cls := "com/example/kenshinkit/kenshinkit/schema/WorkBudget", name := "<init>", desc := "(J)V" } : Jvm.MethodName) prog_189_method_1_code (3 : Nat) (Option.none : Option Jvm.ClassFile.FieldType)).before args0 about1 = true := code_word (m := ⟨2, 0⟩) (meth := k2m0) (c := k2c0) (by decide +kernel) rfl rfl rfl (by decide +kernel)
set_option maxRecDepth 65536 in
theorem w_c2 : (Jvm.Cond.code ({ cls := "java/lang/Object", name := "<init>", desc := "()V" } : Jvm.MethodName) object_method_1_code (1 : Nat) (Option.none : Option Jvm.ClassFile.FieldType)).before args0 about1 = true := code_word (m := ⟨0, 0⟩) (meth := k0m0) (c := k0c0) (by decide +kernel) rfl rfl rfl (by decide +kernel)
set_option maxRecDepth 65536 in
theorem w_c3 : (Jvm.Cond.code ({ cls := "com/example/kenshinkit/kenshinkit/schema/WorkBudget", name := "take", desc := "(J)Z" } : Jvm.MethodName) prog_189_method_2_code (4 : Nat) (Option.some Jvm.ClassFile.FieldType.boolean)).before args0 about1 = true := code_word (m := ⟨2, 1⟩) (meth := k2m1) (c := k2c1) (by decide +kernel) rfl rfl rfl (by decide +kernel)
def codes1 : List Jvm.Cond := [Jvm.Cond.code x code maxLocals ret, Jvm.Cond.code ({ cls := "com/example/kenshinkit/kenshinkit/schema/WorkBudget", name := "<init>", desc := "(J)V" } : Jvm.MethodName) prog_189_method_1_code (3 : Nat) (Option.none : Option Jvm.ClassFile.FieldType), Jvm.Cond.code ({ cls := "java/lang/Object", name := "<init>", desc := "()V" } : Jvm.MethodName) object_method_1_code (1 : Nat) (Option.none : Option Jvm.ClassFile.FieldType), Jvm.Cond.code ({ cls := "com/example/kenshinkit/kenshinkit/schema/WorkBudget", name := "take", desc := "(J)Z" } : Jvm.MethodName) prog_189_method_2_code (4 : Nat) (Option.some Jvm.ClassFile.FieldType.boolean)]
set_option maxRecDepth 65536 in
theorem codes_eq : words1.filter isCode = codes1 := rfl
theorem w_codes : ∀ c ∈ words1.filter isCode, c.before args0 about1 = true := by
  rw [codes_eq]
  intro c hc
  simp only [codes1, List.mem_cons, List.not_mem_nil, or_false] at hc
  rcases hc with rfl | rfl | rfl | rfl
  · exact w_c0
  · exact w_c1
  · exact w_c2
  · exact w_c3
set_option maxRecDepth 65536 in
theorem w_t1 : words1.all (fun c => isCode c || c.before args0 about1) = true := by decide +kernel
theorem w_tables : (allAtoms (Jvm.Cond.code x code maxLocals ret :: tables_1)).before args0 about1 = true := by
  rw [allAtoms_all]
  show words1.all (fun c => c.before args0 about1) = true
  refine all_split ?_ w_codes
  rw [w_t1]
set_option maxRecDepth 65536 in
theorem w_case : (Jvm.Cond.and given_1 narrow_1).before args0 about1 = true := by decide +kernel
theorem w_applies : (headSpec (Jvm.Cond.code x code maxLocals ret :: tables_1) room_1).applies x e0.platform about1 = true :=
  (Spec.applies_iff w_frames).mpr ⟨w_running, w_runnable, w_alone, w_named, w_hears, w_ripe, w_room, w_tables⟩
theorem atStart : AtStart classFile x code maxLocals ret World_1 tables_1 room_1 Calls_1 rest_1 Pre_1 launch0 p0 e0 about1 theMethod args0 below0 :=
  ⟨lists_1, trivial, launch0.admits_env _ _ _, launch0.least_env, fairChoices_fair.cas, fairChoices_fair.clock, w_frames, w_args, w_heap, w_applies, trivial, trivial, w_case⟩
end start1
theorem witness_1 : WitnessClaimed_1 := ⟨start1.p0, start1.e0, start1.about1, start1.theMethod, start1.args0, start1.below0, start1.atStart⟩
end Jvm.Pilot.@@N@@

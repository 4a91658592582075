import JvmDerived
import JvmDerived.Pilot.@@N@@Statement
import JvmDerived.Pilot.@@N@@Code
set_option linter.unusedVariables false
set_option linter.unusedSimpArgs false
@@BLOCK:NumsL.lean.txt@@
namespace Jvm.RoadKit
open Sem ClassFile Op Lib Jvm.Stand Jvm.Free Jvm.LawKit
section New
variable {p : Program} {l : Launch} {e : Env} {R : Room} {s : State} {m : MethodId} {args : Array Value} {below : List Frame} {meth : Method} {c : Code} {T : State} {locs : List Loc} {cells slots : Nat}
theorem retI (X : Stand p l e R s m args below meth c T locs cells slots) (hx : p.tables.exec = Jvm.exec) {pc : Nat} {Ls : Array Slot} {z : Int32} {rest : List Value} (hret : meth.sig.returnType = some .int) (hd : decode c.code pc = .ok (.ireturn, 1)) {fs : List Frame}
    (hl : ∀ (f : JFrame) (acts : List Action), f.method = m → f.locked = none → f.entered = [] → (doReturn e (T.setTop f) acts (some (.int z))).1 = T.setFrames fs) : Steps p.tables e below (T.setTop (mkF m pc Ls (.int z :: rest))) (T.setFrames fs) := by
  have hm' : T.vm.method? m = some meth := X.method'
  have hn : narrow .int (.int z) = .int z := rfl
  show Steps p.tables e below (T.setTop { method := m, pc := pc, locals := Ls, stack := _ :: rest, locked := none }) _
  jvm_step X.here [X.here.top, hx, hd, hm', hret, hn]
  first | (intro acts; rw [hl _ acts rfl rfl rfl]) | rw [hl _ _ rfl rfl rfl]
  exact Steps.refl _
end New
end Jvm.RoadKit
namespace Jvm.Pilot.@@N@@
open Jvm Jvm.ClassFile Sem Op Lib Jvm.Free Jvm.Stand Jvm.LawKit Jvm.RoadKit Bundle Jvm.Pilot.@@N@@.Jvm.D
section OwnLayer
variable {p : Program} {l : Launch} {e : Env} {R : Room} {s : State} {m : MethodId} {args : Array Value} {below : List Frame} {meth : Method} {c : Code} {T T' : State} {h h' : Heap} {n0 ck sk ck' sk' : Nat} {Z : State} {a0 : Array Value} {Post : Outcome → State → Prop} {g g' : JFrame}
/-- from this state and frame the run comes to an end of the invocation of which Post holds -/
def Go (p : Program) (e : Env) (below : List Frame) (Post : Outcome → State → Prop) (T : State) (g : JFrame) : Prop :=
  ∃ s₂ o, Steps p.tables e below (T.setTop g) s₂ ∧ s₂.status = .running ∧ Ended s₂ below o ∧ Post o s₂
theorem Go.st (hs : ∀ t, Steps p.tables e below (T'.setTop g') t → Steps p.tables e below (T.setTop g) t) (k : Go p e below Post T' g') : Go p e below Post T g := by
  obtain ⟨s2, o, h1, h2⟩ := k
  exact ⟨s2, o, hs _ h1, h2⟩
/-- where the walk stands: the heap is h; what was written lies at or above n0; at most ck cells and sk slots were made -/
def Stn (p : Program) (l : Launch) (e : Env) (R : Room) (s : State) (m : MethodId) (args : Array Value) (below : List Frame) (meth : Method) (c : Code) (n0 : Nat) (T : State) (h : Heap) (ck sk : Nat) : Prop :=
  T.heap = h ∧ ∃ locs, Fr n0 locs ∧ Stand p l e R s m args below meth c T locs ck sk
theorem Stn.here (X : Stn p l e R s m args below meth c n0 T h ck sk) : At T m c below := by
  obtain ⟨_, _, _, Y⟩ := X
  exact Y.here
theorem Stn.mono (X : Stn p l e R s m args below meth c n0 T h ck sk) (h1 : ck ≤ ck') (h2 : sk ≤ sk') : Stn p l e R s m args below meth c n0 T h ck' sk' := by
  obtain ⟨e1, L, N, Y⟩ := X
  exact ⟨e1, L, N, Y.more h1 h2⟩
/-- what a body's end says -/
def PostW (s : State) (n0 C S : Nat) (Q : Option Value → Heap → Prop) (o : Outcome) (U : State) : Prop :=
  ∃ v L, o = .returned v ∧ (Fr n0 L ∧ Q v U.heap) ∧ FrameEnd s o U L C S
/-- a body's contract -/
def Con (l : Launch) (y : MethodName) (bytes : ByteArray) (maxL : Nat) (ret : Option FieldType) (rm : Room) (ws : List Jvm.Cond) (Z : State) (n0 : Nat) (as' : Array Value) (h : Heap) (Q : Option Value → Heap → Prop) : Prop :=
  MetFree l y (head1 (Jvm.Cond.code y bytes maxL ret :: ws) rm) (fun a U => a = as' ∧ Z.Warmed39 U.vm ∧ U.heap = h) (fun _ _ _ _ _ => True) (fun _ U o U' => ∃ v L, o = .returned v ∧ (Fr n0 L ∧ Q v U'.heap) ∧ FrameEnd U o U' L rm.cells rm.slots)
theorem Con.body {y : MethodName} {bytes : ByteArray} {maxL : Nat} {ret : Option FieldType} {rm : Room} {ws : List Jvm.Cond} {as' : Array Value} {Q : Option Value → Heap → Prop} (hp : plainFor y = true)
    (k : ∀ (p : Program) (e : Env) (s : State) (m : MethodId) (below : List Frame) (meth : Method) (c : Code) (s₁ : State), p.tables.exec = Jvm.exec → c.code = bytes → c.maxLocals = maxL → s.vm.findClass y.cls = some m.cls → meth.name = y.name → meth.sig.returnType = ret → meth.locks = false → Z.Warmed39 s.vm →
      Stn p l e rm s m as' below meth c n0 s₁ h 0 0 → Go p e below (PostW s n0 rm.cells rm.slots Q) s₁ (entryFrame m as' maxL)) : Con l y bytes maxL ret rm ws Z n0 as' h Q := by
  refine MetFree.of_bodySF hp hisR ?_
  intro p e s m args below meth c s₁ Bd hml0 hP hK
  obtain ⟨rfl, hZ, hh⟩ := hP
  have e0 : s₁.heap = h := by rw [← hh, Bd.state]; rfl
  exact k p e s m below meth c s₁ Bd.exec Bd.bytes hml0 (findClass_of_methodNamed Bd.named) (name_of_methodNamed Bd.named Bd.method).1 Bd.returns Bd.notSynchronized hZ ⟨e0, [], Fr.nil n0, Stand.of_body Bd⟩
theorem Con.mono {y : MethodName} {bytes : ByteArray} {maxL : Nat} {ret : Option FieldType} {rm : Room} {ws : List Jvm.Cond} {as' : Array Value} {Q Q' : Option Value → Heap → Prop} (hM : Con l y bytes maxL ret rm ws Z n0 as' h Q) (hq : ∀ v h', Q v h' → Q' v h') : Con l y bytes maxL ret rm ws Z n0 as' h Q' := by
  intro p e ha hc hk s m args below hf happ hP hK
  obtain ⟨n, o, h1, h2, h3, v, L, h4, ⟨h5, h6⟩, h7⟩ := hM p e ha hc hk s m args below hf happ hP hK
  exact ⟨n, o, h1, h2, h3, v, L, h4, ⟨h5, hq _ _ h6⟩, h7⟩
/-! a long's comparison -/
theorem lcTlt {a b : Int64} (h : a < b) : ifCond.holds .lt (lcmpW a b) = true ∧ ifCond.holds .ge (lcmpW a b) = false := by
  have q : lcmpW a b < 0 := by rw [lcW]; exact (lc_lt a b).mpr h
  exact ⟨(if0 _ _).trans (tlt q).1, (if0 _ _).trans (tlt q).2.1⟩
theorem lcFlt {a b : Int64} (h : ¬ a < b) : ifCond.holds .lt (lcmpW a b) = false ∧ ifCond.holds .ge (lcmpW a b) = true := by
  have q : ¬ lcmpW a b < 0 := fun z => h ((lc_lt a b).mp (by rw [← lcW]; exact z))
  exact ⟨(if0 _ _).trans (flt q).1, (if0 _ _).trans (flt q).2.1⟩
theorem lcTgt {a b : Int64} (h : b < a) : ifCond.holds .gt (lcmpW a b) = true ∧ ifCond.holds .le (lcmpW a b) = false := by
  have q : 0 < lcmpW a b := by rw [lcW]; exact (lc_gt a b).mpr h
  exact ⟨(if0 _ _).trans (tlt q).2.2.1, (if0 _ _).trans (tlt q).2.2.2⟩
theorem lcFgt {a b : Int64} (h : ¬ b < a) : ifCond.holds .gt (lcmpW a b) = false ∧ ifCond.holds .le (lcmpW a b) = true := by
  have q : ¬ 0 < lcmpW a b := fun z => h ((lc_gt a b).mp (by rw [← lcW]; exact z))
  exact ⟨(if0 _ _).trans (flt q).2.2.1, (if0 _ _).trans (flt q).2.2.2⟩
theorem lcTeq {a b : Int64} (h : a = b) : ifCond.holds .eq (lcmpW a b) = true ∧ ifCond.holds .ne (lcmpW a b) = false := by
  have q : lcmpW a b = 0 := by rw [lcW]; exact (lc_eq a b).mpr h
  exact ⟨(if0 _ _).trans (teq q).1, (if0 _ _).trans (teq q).2⟩
theorem lcFeq {a b : Int64} (h : ¬ a = b) : ifCond.holds .eq (lcmpW a b) = false ∧ ifCond.holds .ne (lcmpW a b) = true := by
  have q : ¬ lcmpW a b = 0 := fun z => h ((lc_eq a b).mp (by rw [← lcW]; exact z))
  exact ⟨(if0 _ _).trans (feq q).1, (if0 _ _).trans (feq q).2⟩
theorem acT {a b : Addr} (h : a = b) : if_acmp.holds .eq (some a) (some b) = true ∧ if_acmp.holds .ne (some a) (some b) = false := by subst h; simp [if_acmp.holds]
theorem acF {a b : Addr} (h : ¬ a = b) : if_acmp.holds .eq (some a) (some b) = false ∧ if_acmp.holds .ne (some a) (some b) = true := by simp [if_acmp.holds, h]
/-! returns -/
theorem goRet {v : Option Value} {Q : Option Value → Heap → Prop} {C S : Nat} (X : Stn p l e R s m args below meth c n0 T h ck sk) (hlk : meth.locks = false) (hv : meth.sig.returnType = none → v = none)
    (hst : ∀ locs fs, Stand p l e R s m args below meth c T locs ck sk → (∀ (f : JFrame) (acts : List Action), f.method = m → f.locked = none → f.entered = [] → (doReturn e (T.setTop f) acts v).1 = T.setFrames fs) → Steps p.tables e below (T.setTop g) (T.setFrames fs))
    (hq : Q v h) (h1 : ck ≤ C) (h2 : sk ≤ S) : Go p e below (PostW s n0 C S Q) T g := by
  obtain ⟨eT, locs, N, Y⟩ := X
  obtain ⟨fs, hr, hrun, hended, hW, hsame⟩ := Y.leave hv hlk
  exact ⟨_, _, hst locs fs Y hr, hrun, hended, _, _, rfl, ⟨N, (by show Q v T.heap; rw [eT]; exact hq)⟩, ⟨_, rfl⟩, hW, hsame.mono h1 h2⟩
theorem goRetI {pc : Nat} {Ls : Array Slot} {z : Int32} {rest : List Value} {Q : Option Value → Heap → Prop} {C S : Nat} (X : Stn p l e R s m args below meth c n0 T h ck sk) (hx : p.tables.exec = Jvm.exec) (hlk : meth.locks = false) (hret : meth.sig.returnType = some .int)
    (hd : decode c.code pc = .ok (.ireturn, 1)) (h1 : ck ≤ C) (h2 : sk ≤ S) (hq : Q (some (.int z)) h) : Go p e below (PostW s n0 C S Q) T (mkF m pc Ls (.int z :: rest)) :=
  goRet X hlk (fun h => by rw [hret] at h; cases h) (fun _ _ Y hr => retI Y hx hret hd hr) hq h1 h2
theorem goRetZ {pc : Nat} {Ls : Array Slot} {z : Int32} {rest : List Value} {Q : Option Value → Heap → Prop} {C S : Nat} (X : Stn p l e R s m args below meth c n0 T h ck sk) (hx : p.tables.exec = Jvm.exec) (hlk : meth.locks = false) (hret : meth.sig.returnType = some .boolean)
    (hd : decode c.code pc = .ok (.ireturn, 1)) (h1 : ck ≤ C) (h2 : sk ≤ S) (hz : z = 0 ∨ z = 1) (hq : Q (some (.int z)) h) : Go p e below (PostW s n0 C S Q) T (mkF m pc Ls (.int z :: rest)) := by
  rcases hz with rfl | rfl
  · exact goRet X hlk (fun h => by rw [hret] at h; cases h) (fun _ _ Y hr => retN Y hx (t := .boolean) hret (by simp) hd hr) hq h1 h2
  · exact goRet X hlk (fun h => by rw [hret] at h; cases h) (fun _ _ Y hr => retN Y hx (t := .boolean) hret (by simp) hd hr) hq h1 h2
theorem goRetV {pc : Nat} {Ls : Array Slot} {Q : Option Value → Heap → Prop} {C S : Nat} (X : Stn p l e R s m args below meth c n0 T h ck sk) (hx : p.tables.exec = Jvm.exec) (hlk : meth.locks = false) (hret : meth.sig.returnType = none)
    (hd : decode c.code pc = .ok (.return_, 1)) (h1 : ck ≤ C) (h2 : sk ≤ S) (hq : Q none h) : Go p e below (PostW s n0 C S Q) T (mkF m pc Ls []) :=
  goRet X hlk (fun _ => rfl) (fun _ _ Y hr => Y.returnOut hx hret hd hr) hq h1 h2
theorem goRetL {pc : Nat} {Ls : Array Slot} {z : Int64} {rest : List Value} {Q : Option Value → Heap → Prop} {C S : Nat} (X : Stn p l e R s m args below meth c n0 T h ck sk) (hx : p.tables.exec = Jvm.exec) (hlk : meth.locks = false) (hret : meth.sig.returnType = some .long)
    (hd : decode c.code pc = .ok (.lreturn, 1)) (h1 : ck ≤ C) (h2 : sk ≤ S) (hq : Q (some (.long z)) h) : Go p e below (PostW s n0 C S Q) T (mkF m pc Ls (.long z :: rest)) :=
  goRet X hlk (fun h => by rw [hret] at h; cases h) (fun _ _ Y hr => by
    jvm_step Y.here [Y.here.top, hx, hd, Y.method', hret, narrow]
    first | (intro acts; rw [hr _ acts rfl rfl rfl]) | rw [hr _ _ rfl rfl rfl]
    exact Steps.refl _) hq h1 h2
theorem goRetA {pc : Nat} {Ls : Array Slot} {z : Addr} {rest : List Value} {t : FieldType} {Q : Option Value → Heap → Prop} {C S : Nat} (X : Stn p l e R s m args below meth c n0 T h ck sk) (hx : p.tables.exec = Jvm.exec) (hlk : meth.locks = false) (hret : meth.sig.returnType = some t) (ht : t.isReference = true)
    (hd : decode c.code pc = .ok (.areturn, 1)) (h1 : ck ≤ C) (h2 : sk ≤ S) (hq : Q (some (.ref z)) h) : Go p e below (PostW s n0 C S Q) T (mkF m pc Ls (.ref z :: rest)) :=
  goRet X hlk (fun h => by rw [hret] at h; cases h) (fun _ _ Y hr => by
    jvm_step Y.here [Y.here.top, hx, hd, Y.method', hret, Value.isRef, ht]
    first | (intro acts; rw [hr _ acts rfl rfl rfl]) | rw [hr _ _ rfl rfl rfl]
    exact Steps.refl _) hq h1 h2
/-! fields, objects -/
theorem goGet (X : Stn p l e R s m args below meth c n0 T h ck sk) (hx : p.tables.exec = Jvm.exec) (hZ : Z.Warmed39 s.vm) {own R0 O n d host : String} {index : Nat} (hown : s.vm.findClass own = some m.cls) (w : (Cond.fieldLink own index R0 n d).before a0 Z = true ∨ (Cond.fieldLinkNest own index R0 n d host).before a0 Z = true) (via : Via Z R0 O n d)
    {a : Addr} {v : Value} (F : Fld Z h a O n d v) {pc : Nat} {ls : Array Slot} {rest : List Value} (hd : decode c.code pc = .ok (.getfield index, 3))
    (k : ∀ T', Stn p l e R s m args below meth c n0 T' h ck sk → Go p e below Post T' (mkF m (pc + 3) ls (v :: rest))) : Go p e below Post T (mkF m pc ls (.ref a :: rest)) := by
  obtain ⟨eT, locs, N, Y⟩ := X
  obtain ⟨T', X', e', st⟩ := getF Y hx hZ hown w via eT F (g := mkF m pc ls (.ref a :: rest)) rfl rfl hd
  exact Go.st st (k T' ⟨e', locs, N, X'⟩)
theorem goPut (X : Stn p l e R s m args below meth c n0 T h ck sk) (hx : p.tables.exec = Jvm.exec) (hZ : Z.Warmed39 s.vm) {own R0 O n d host C : String} {index kk : Nat} {ty : FieldType} (hown : s.vm.findClass own = some m.cls) (w : (Cond.fieldLink own index R0 n d).before a0 Z = true ∨ (Cond.fieldLinkNest own index R0 n d host).before a0 Z = true) (via : Via Z R0 O n d)
    {a : Addr} {v old : Value} (F : Fld Z h a O n d old) (E : Exa Z h a C) (L : (Cond.lays C O n d).before a0 Z = true ∨ ((Cond.laysFinal C O n d).before a0 Z = true ∧ own = O ∧ meth.name = "<init>")) (wi : (Cond.instantiable C kk).before a0 Z = true)
    (hty : parseFieldDescriptor d = some ty) (hn : narrow ty v = v) (hf : fits ty v = true) (ha : n0 ≤ a) {pc : Nat} {ls : Array Slot} {rest : List Value} (hd : decode c.code pc = .ok (.putfield index, 3))
    (k : ∀ T' h', Stn p l e R s m args below meth c n0 T' h' ck sk → Wr h h' a (Jvm.RoadKit.slotOf Z O n d) v → Go p e below Post T' (mkF m (pc + 3) ls rest)) : Go p e below Post T (mkF m pc ls (v :: .ref a :: rest)) := by
  obtain ⟨eT, locs, N, Y⟩ := X
  obtain ⟨T', h', X', e', W, st⟩ := putF Y hx hZ hown w via eT F E L wi hty hn hf (g := mkF m pc ls (v :: .ref a :: rest)) rfl rfl hd
  exact Go.st st (k T' h' ⟨e', _, Fr.snoc X' N ha, X'⟩ W)
theorem goPutN (X : Stn p l e R s m args below meth c n0 T h ck sk) (hx : p.tables.exec = Jvm.exec) (hZ : Z.Warmed39 s.vm) {own R0 O n d C : String} {index kk : Nat} {ty : FieldType} (hown : s.vm.findClass own = some m.cls) (w : (Cond.fieldLink own index R0 n d).before a0 Z = true) (via : Via Z R0 O n d)
    {a : Addr} {v v' old : Value} (F : Fld Z h a O n d old) (E : Exa Z h a C) (L : (Cond.lays C O n d).before a0 Z = true ∨ ((Cond.laysFinal C O n d).before a0 Z = true ∧ own = O ∧ meth.name = "<init>")) (wi : (Cond.instantiable C kk).before a0 Z = true)
    (hty : parseFieldDescriptor d = some ty) (hn : narrow ty v = v') (hf : fits ty v' = true) (ha : n0 ≤ a) {pc : Nat} {ls : Array Slot} {rest : List Value} (hd : decode c.code pc = .ok (.putfield index, 3))
    (k : ∀ T' h', Stn p l e R s m args below meth c n0 T' h' ck sk → Wr h h' a (Jvm.RoadKit.slotOf Z O n d) v' → Go p e below Post T' (mkF m (pc + 3) ls rest)) : Go p e below Post T (mkF m pc ls (v :: .ref a :: rest)) := by
  obtain ⟨eT, locs, N, Y⟩ := X
  obtain ⟨T', h', X', e', W, st⟩ := putFN Y hx hZ hown w via eT F E L wi hty hn hf (g := mkF m pc ls (v :: .ref a :: rest)) rfl rfl hd
  exact Go.st st (k T' h' ⟨e', _, Fr.snoc X' N ha, X'⟩ W)
theorem goNew (X : Stn p l e R s m args below meth c n0 T h ck sk) (hx : p.tables.exec = Jvm.exec) (hZ : Z.Warmed39 s.vm) {own C : String} {index n : Nat} (hown : s.vm.findClass own = some m.cls) (w : (Cond.classLink own index C).before a0 Z = true) (wi : (Cond.instantiable C n).before a0 Z = true) (wz : (Cond.initialized C).before a0 Z = true)
    {pc : Nat} {ls : Array Slot} {st : List Value} (hd : decode c.code pc = .ok (.new index, 3)) (hc : ck + 1 ≤ R.cells) (hl : sk + n ≤ R.slots)
    (k : ∀ T' h' a, a = h.size → Stn p l e R s m args below meth c n0 T' h' (ck + 1) (sk + n) → Ext h h' → Exa Z h' a C → (∀ {O nm d : String} {ty : FieldType}, Laid Z a0 C O nm d → parseFieldDescriptor d = some ty → Fld Z h' a O nm d (defaultValue ty)) → Go p e below Post T' (mkF m (pc + 3) ls (.ref a :: st))) : Go p e below Post T (mkF m pc ls st) := by
  obtain ⟨eT, locs, N, Y⟩ := X
  obtain ⟨T', h', X', e', E, A, D, -, stp⟩ := newO Y hx hZ hown w wi wz eT (g := mkF m pc ls st) rfl hd hc hl
  exact Go.st stp (k T' h' _ rfl ⟨e', locs, N, X'⟩ E A D)
theorem goInit (X : Stn p l e R s m args below meth c n0 T h ck sk) (hx : p.tables.exec = Jvm.exec) (hZ : Z.Warmed39 s.vm) {own : String} {idx : Nat} (hown : s.vm.findClass own = some m.cls) (w1 : (Cond.methodLink own idx Lib.objectInit).before a0 Z = true) (w2 : (Cond.instanceMethod Lib.objectInit).before a0 Z = true)
    (w3 : (Cond.code Lib.objectInit object_method_1_code 1 none).before a0 Z = true) {pc : Nat} {ls : Array Slot} {a : Addr} {rest : List Value} (hsize : ls.size = c.maxLocals) (hd : decode c.code pc = .ok (.invokespecial idx, 3))
    (hf : 1 ≤ R.frames) {W : Nat} (hW : (rest.map fun v => v.category).sum ≤ W) (hl : W + 12 ≤ R.locals)
    (k : ∀ T', Stn p l e R s m args below meth c n0 T' h ck sk → Go p e below Post T' (mkF m (pc + 3) ls rest)) : Go p e below Post T (mkF m pc ls (.ref a :: rest)) := by
  obtain ⟨eT, locs, N, Y⟩ := X
  obtain ⟨T', X', e', st⟩ := initO Y hx hZ hown w1 w2 w3 eT (g := mkF m pc ls (.ref a :: rest)) rfl hsize rfl hd hf (W := W) (by show 2 * 0 + _ ≤ _; omega) hl
  exact Go.st st (k T' ⟨e', locs, N, X'⟩)
theorem Stn.ldcI (X : Stn p l e R s m args below meth c n0 T h ck sk) (hx : p.tables.exec = Jvm.exec) (hZ : Z.Warmed39 s.vm) {own : String} {index : Nat} {v : Int32} (hown : s.vm.findClass own = some m.cls) (w : (Cond.constant own index v).before a0 Z = true)
    {pc : Nat} {ls : Array Slot} {st : List Value} (hd : decode c.code pc = .ok (.ldc index, 2)) {t : State} (k : Steps p.tables e below (T.setTop (mkF m (pc + 2) ls (.int v :: st))) t) : Steps p.tables e below (T.setTop (mkF m pc ls st)) t := by
  obtain ⟨eT, locs, N, Y⟩ := X
  exact Y.ldcInt hx hown (mvT hZ w) (g := mkF m pc ls st) rfl hd t k
theorem Stn.ldcJ (X : Stn p l e R s m args below meth c n0 T h ck sk) (hx : p.tables.exec = Jvm.exec) (hZ : Z.Warmed39 s.vm) {own : String} {index : Nat} {v : Int64} (hown : s.vm.findClass own = some m.cls) (w : (Cond.constantLong own index v).before a0 Z = true)
    {pc : Nat} {ls : Array Slot} {st : List Value} (hd : decode c.code pc = .ok (.ldc2_w index, 3)) {t : State} (k : Steps p.tables e below (T.setTop (mkF m (pc + 3) ls (.long v :: st))) t) : Steps p.tables e below (T.setTop (mkF m pc ls st)) t := by
  obtain ⟨eT, locs, N, Y⟩ := X
  exact Y.ldc2Long hx hown (mvT hZ w) (g := mkF m pc ls st) rfl hd t k
/-! arrays: of kind ty, length n, whose places hold f -/
def Ary (Z : State) (h : Heap) (a : Addr) (ty : FieldType) (n : Nat) (f : Nat → Value) : Prop := ∃ cl : Cell, Arr Z h a cl ty ∧ cl.slots.size = n ∧ ∀ i, i < n → cl.slots[i]? = some (f i)
theorem Ary.lt {a : Addr} {ty : FieldType} {n : Nat} {f : Nat → Value} (A : Ary Z h a ty n f) : a < h.size := by obtain ⟨cl, A, -⟩ := A; exact A.lt
theorem Ary.ext {a : Addr} {ty : FieldType} {n : Nat} {f : Nat → Value} (E : Ext h h') (A : Ary Z h a ty n f) : Ary Z h' a ty n f := by obtain ⟨cl, A, r⟩ := A; exact ⟨cl, A.ext E, r⟩
theorem Ary.other {a b : Addr} {ty : FieldType} {n sl : Nat} {f : Nat → Value} {v : Value} (W : Wr h h' b sl v) (A : Ary Z h a ty n f) (q : a ≠ b) : Ary Z h' a ty n f := by obtain ⟨cl, A, r⟩ := A; exact ⟨cl, A.other W q, r⟩
theorem Ary.keep {a : Addr} {ty : FieldType} {n : Nat} {f : Nat → Value} {ws : List Addr} (A : Ary Z h a ty n f) (K : Keep h h' ws) (q : a ∉ ws) : Ary Z h' a ty n f := by obtain ⟨cl, A, r⟩ := A; exact ⟨cl, ⟨K.2.1 a cl A.1 q, A.2⟩, r⟩
theorem Ary.congr {a : Addr} {ty : FieldType} {n : Nat} {f f' : Nat → Value} (A : Ary Z h a ty n f) (q : ∀ i, i < n → f i = f' i) : Ary Z h a ty n f' := by obtain ⟨cl, A, r1, r2⟩ := A; exact ⟨cl, A, r1, fun i hi => by rw [← q i hi]; exact r2 i hi⟩
theorem Ary.set {a : Addr} {ty : FieldType} {n j : Nat} {f : Nat → Value} {v : Value} (A : Ary Z h a ty n f) (W : Wr h h' a j v) : Ary Z h' a ty n (fun i => if i = j then v else f i) := by
  obtain ⟨cl, A, r1, r2⟩ := A
  have A' := A.same W
  obtain ⟨c1, q1, -, q2, -⟩ := W
  cases q1.symm.trans A.1
  refine ⟨_, A', by rw [sz_set]; exact r1, fun i hi => ?_⟩
  by_cases hij : i = j
  · subst hij
    simp [Cell.setSlot, q2]
  · have : j ≠ i := fun z => hij z.symm
    simp [Cell.setSlot, hij, Array.getElem?_setIfInBounds_ne this, r2 i hi]
theorem Ary.new {k : ClassId} {a : Addr} {ty : FieldType} {z : Int32} (A : Arr Z h a (newA k ty z) ty) : Ary Z h a ty z.toNatClampNeg (fun _ => defaultValue ty) :=
  ⟨_, A, sz_new _ _ _, fun i hi => by simp [newA, hi]⟩
theorem ne_ary {a b : Addr} {C : String} {kk n : Nat} {ty : FieldType} {f : Nat → Value} (F : Exa Z h a C) (wi : (Cond.instantiable C kk).before a0 Z = true) (G : Ary Z h b ty n f) : a ≠ b := by
  obtain ⟨cl, A, -⟩ := G
  exact ne_arr F wi A
theorem goNewA (X : Stn p l e R s m args below meth c n0 T h ck sk) (hx : p.tables.exec = Jvm.exec) (hZ : Z.Warmed39 s.vm) {aty : ArrayType} (w : (Cond.arrayClass (newarray.typeOf aty)).before a0 Z = true)
    {pc : Nat} {ls : Array Slot} {n : Int32} {rest : List Value} (hd : decode c.code pc = .ok (.newarray aty, 2)) (hn : ¬ n < 0) {cap : Nat} (hcap : n.toNatClampNeg ≤ cap) (hb : cap * 8 ≤ 536870912) (hc : ck + 1 ≤ R.cells) (hl : sk + cap ≤ R.slots) {ad : String} (had : "[" ++ (newarray.typeOf aty).toString = ad)
    (k : ∀ T' h' a, a = h.size → Stn p l e R s m args below meth c n0 T' h' (ck + 1) (sk + cap) → Ext h h' → Exa Z h' a ad → Ary Z h' a (newarray.typeOf aty) n.toNatClampNeg (fun _ => defaultValue (newarray.typeOf aty)) → Go p e below Post T' (mkF m (pc + 2) ls (.ref a :: rest))) : Go p e below Post T (mkF m pc ls (.int n :: rest)) := by
  obtain ⟨eT, locs, N, Y⟩ := X
  obtain ⟨T', h', cA, X', e', E, A, Ex, st⟩ := newPE Y hx hZ w eT (g := mkF m pc ls (.int n :: rest)) rfl hd rfl hn hcap hb hc hl had
  exact Go.st st (k T' h' _ rfl ⟨e', locs, N, X'⟩ E Ex (Ary.new A))
theorem goClone (X : Stn p l e R s m args below meth c n0 T h ck sk) (hx : p.tables.exec = Jvm.exec) (hZ : Z.Warmed39 s.vm) {own ad : String} {index : Nat} (hown : s.vm.findClass own = some m.cls)
    (w1 : (Cond.methodLink own index ⟨ad, "clone", "()Ljava/lang/Object;"⟩).before a0 Z = true) (w2 : (Cond.sameMethod ad "java/lang/Object" "clone" "()Ljava/lang/Object;").before a0 Z = true) (w3 : (Cond.native ⟨"java/lang/Object", "clone", "()Ljava/lang/Object;"⟩).before a0 Z = true)
    (w4 : (Cond.instanceMethod ⟨"java/lang/Object", "clone", "()Ljava/lang/Object;"⟩).before a0 Z = true) (w5 : (Cond.selects ad ⟨ad, "clone", "()Ljava/lang/Object;"⟩ ⟨"java/lang/Object", "clone", "()Ljava/lang/Object;"⟩).before a0 Z = true) (w6 : (Cond.castable ad "java/lang/Cloneable").before a0 Z = true)
    {a : Addr} {ty : FieldType} {n : Nat} {f : Nat → Value} (A : Ary Z h a ty n f) (E : Exa Z h a ad) (hfit : ∀ i, i < n → fits ty (f i) = true) {pc : Nat} {ls : Array Slot} {rest : List Value} (hsize : ls.size = c.maxLocals) (hd : decode c.code pc = .ok (.invokevirtual index, 3))
    (hf : 1 ≤ R.frames) {W cap : Nat} (hW : (rest.map fun v => v.category).sum = W) (hl : W + 14 ≤ R.locals) (hcap : n ≤ cap) (hc : ck + 1 ≤ R.cells) (hsl : sk + cap ≤ R.slots)
    (k : ∀ T' h' b, b = h.size → Stn p l e R s m args below meth c n0 T' h' (ck + 1) (sk + cap) → Ext h h' → Exa Z h' b ad → Ary Z h' b ty n f → Go p e below Post T' (mkF m (pc + 3) ls (.ref b :: rest))) : Go p e below Post T (mkF m pc ls (.ref a :: rest)) := by
  obtain ⟨eT, locs, N, Y⟩ := X
  obtain ⟨cl, A, r1, r2⟩ := A
  have FC : FitC Z cl := fitC_of A fun i hi v hv => by
    rw [r2 i (r1 ▸ hi)] at hv
    cases hv
    exact hfit i (r1 ▸ hi)
  obtain ⟨T', h', X', e', Ex, A', E', st⟩ := cloneA Y hx hZ hown w1 w2 w3 w4 w5 w6 eT A E FC (g := mkF m pc ls (.ref a :: rest)) rfl hsize rfl hd hf (W := W) (cap := cap) (by show 2 * 0 + _ ≤ _; omega) hl (by rw [r1]; exact hcap) hc hsl
  exact Go.st st (k T' h' _ rfl ⟨e', locs, N, X'⟩ Ex E' ⟨_, A', r1, r2⟩)
theorem goCast (X : Stn p l e R s m args below meth c n0 T h ck sk) (hx : p.tables.exec = Jvm.exec) (hZ : Z.Warmed39 s.vm) {own K : String} {index : Nat} (hown : s.vm.findClass own = some m.cls) (w : (Cond.classLink own index K).before a0 Z = true) {a : Addr} (F : Ins Z h a K true)
    {pc : Nat} {ls : Array Slot} {rest : List Value} (hd : decode c.code pc = .ok (.checkcast index, 3)) (k : ∀ T', Stn p l e R s m args below meth c n0 T' h ck sk → Go p e below Post T' (mkF m (pc + 3) ls (.ref a :: rest))) : Go p e below Post T (mkF m pc ls (.ref a :: rest)) := by
  obtain ⟨eT, locs, N, Y⟩ := X
  obtain ⟨T', X', e', st⟩ := castY Y hx hZ hown w eT F (g := mkF m pc ls (.ref a :: rest)) rfl rfl hd
  exact Go.st st (k T' ⟨e', locs, N, X'⟩)
theorem goLen (X : Stn p l e R s m args below meth c n0 T h ck sk) (hx : p.tables.exec = Jvm.exec) (hZ : Z.Warmed39 s.vm) {a : Addr} {ty : FieldType} {n : Nat} {f : Nat → Value} (A : Ary Z h a ty n f) {pc : Nat} {ls : Array Slot} {rest : List Value} (hd : decode c.code pc = .ok (.arraylength, 1))
    (k : Go p e below Post T (mkF m (pc + 1) ls (.int n.toInt32 :: rest))) : Go p e below Post T (mkF m pc ls (.ref a :: rest)) := by
  obtain ⟨eT, locs, N, Y⟩ := X
  obtain ⟨cl, A, r1, -⟩ := A
  subst r1
  exact Go.st (fun t q => Y.arraylength hx (by rw [eT]; exact A.1) (State.isArrayOf_alike hZ.alike A.2.1) (g := mkF m pc ls (.ref a :: rest)) rfl rfl hd t q) k
theorem goLdI (X : Stn p l e R s m args below meth c n0 T h ck sk) (hx : p.tables.exec = Jvm.exec) (hZ : Z.Warmed39 s.vm) {a : Addr} {n : Nat} {f : Nat → Int32} (A : Ary Z h a .int n (fun i => .int (f i))) {j : Int32} (hj : ¬ (j < 0 ∨ n ≤ j.toNatClampNeg)) {pc : Nat} {ls : Array Slot} {rest : List Value} (hd : decode c.code pc = .ok (.iaload, 1))
    (k : Go p e below Post T (mkF m (pc + 1) ls (.int (f j.toNatClampNeg) :: rest))) : Go p e below Post T (mkF m pc ls (.int j :: .ref a :: rest)) := by
  obtain ⟨eT, locs, N, Y⟩ := X
  obtain ⟨cl, A, r1, r2⟩ := A
  subst r1
  exact Go.st (fun t q => Y.iaload hx (j := j) (v := .int (f j.toNatClampNeg)) (by rw [eT]; exact A.1) (State.isArrayOf_alike hZ.alike A.2.1) A.2.2 hj (r2 _ (by omega)) (g := mkF m pc ls (.int j :: .ref a :: rest)) rfl rfl hd t q) k
theorem goLdJ (X : Stn p l e R s m args below meth c n0 T h ck sk) (hx : p.tables.exec = Jvm.exec) (hZ : Z.Warmed39 s.vm) {a : Addr} {n : Nat} {f : Nat → Int64} (A : Ary Z h a .long n (fun i => .long (f i))) {j : Int32} (hj : ¬ (j < 0 ∨ n ≤ j.toNatClampNeg)) {pc : Nat} {ls : Array Slot} {rest : List Value} (hd : decode c.code pc = .ok (.laload, 1))
    (k : Go p e below Post T (mkF m (pc + 1) ls (.long (f j.toNatClampNeg) :: rest))) : Go p e below Post T (mkF m pc ls (.int j :: .ref a :: rest)) := by
  obtain ⟨eT, locs, N, Y⟩ := X
  obtain ⟨cl, A, r1, r2⟩ := A
  subst r1
  exact Go.st (fun t q => Y.laload hx (j := j) (v := .long (f j.toNatClampNeg)) (by rw [eT]; exact A.1) (State.isArrayOf_alike hZ.alike A.2.1) A.2.2 hj (r2 _ (by omega)) (g := mkF m pc ls (.int j :: .ref a :: rest)) rfl rfl hd t q) k
theorem goStI (X : Stn p l e R s m args below meth c n0 T h ck sk) (hx : p.tables.exec = Jvm.exec) (hZ : Z.Warmed39 s.vm) {a : Addr} {n : Nat} {f : Nat → Int32} (A : Ary Z h a .int n (fun i => .int (f i))) {j x : Int32} (hj : ¬ (j < 0 ∨ n ≤ j.toNatClampNeg)) (ha : n0 ≤ a) {pc : Nat} {ls : Array Slot} {rest : List Value} (hd : decode c.code pc = .ok (.iastore, 1))
    (k : ∀ T' h', Stn p l e R s m args below meth c n0 T' h' ck sk → Wr h h' a j.toNatClampNeg (.int x) → Ary Z h' a .int n (fun i => .int (if i = j.toNatClampNeg then x else f i)) → Go p e below Post T' (mkF m (pc + 1) ls rest)) : Go p e below Post T (mkF m pc ls (.int x :: .int j :: .ref a :: rest)) := by
  obtain ⟨eT, locs, N, Y⟩ := X
  have A0 := A
  obtain ⟨cl, A, r1, r2⟩ := A
  subst r1
  obtain ⟨T', h', X', e', W, st⟩ := stI Y hx hZ eT A hj (g := mkF m pc ls (.int x :: .int j :: .ref a :: rest)) rfl rfl hd
  exact Go.st st (k T' h' ⟨e', _, Fr.snoc X' N ha, X'⟩ W ((A0.set W).congr fun i _ => by split <;> rfl))
theorem goStJ (X : Stn p l e R s m args below meth c n0 T h ck sk) (hx : p.tables.exec = Jvm.exec) (hZ : Z.Warmed39 s.vm) {a : Addr} {n : Nat} {f : Nat → Int64} (A : Ary Z h a .long n (fun i => .long (f i))) {j : Int32} {x : Int64} (hj : ¬ (j < 0 ∨ n ≤ j.toNatClampNeg)) (ha : n0 ≤ a) {pc : Nat} {ls : Array Slot} {rest : List Value} (hd : decode c.code pc = .ok (.lastore, 1))
    (k : ∀ T' h', Stn p l e R s m args below meth c n0 T' h' ck sk → Wr h h' a j.toNatClampNeg (.long x) → Ary Z h' a .long n (fun i => .long (if i = j.toNatClampNeg then x else f i)) → Go p e below Post T' (mkF m (pc + 1) ls rest)) : Go p e below Post T (mkF m pc ls (.long x :: .int j :: .ref a :: rest)) := by
  obtain ⟨eT, locs, N, Y⟩ := X
  have A0 := A
  obtain ⟨cl, A, r1, r2⟩ := A
  subst r1
  obtain ⟨T', h', X', e', W, st⟩ := stJ Y hx hZ eT A hj (g := mkF m pc ls (.long x :: .int j :: .ref a :: rest)) rfl rfl hd
  exact Go.st st (k T' h' ⟨e', _, Fr.snoc X' N ha, X'⟩ W ((A0.set W).congr fun i _ => by split <;> rfl))
/-! calls -/
theorem goStatic (X : Stn p l e R s m args below meth c n0 T h ck sk) (hx : p.tables.exec = Jvm.exec) (hZ : Z.Warmed39 s.vm) {own : String} {index : Nat} {y : MethodName} {bytes : ByteArray} {maxL : Nat} {ret : Option FieldType} {rm : Room} {as' : Array Value} {Q : Option Value → Heap → Prop}
    (hown : s.vm.findClass own = some m.cls) (w1 : (Cond.methodLink own index y).before a0 Z = true) (w2 : (Cond.static y).before a0 Z = true) (w3 : (Cond.initialized y.cls).before a0 Z = true) (w4 : (Cond.code y bytes maxL ret).before a0 Z = true)
    (hy : y.cls ≠ "java/lang/invoke/MethodHandle" ∧ y.cls ≠ "java/lang/invoke/VarHandle") (hM : Con l y bytes maxL ret rm [] Z n0 as' h Q) (W : Nat) (hf : rm.frames + 1 ≤ R.frames) (hl : W + (maxL + 11) + rm.locals ≤ R.locals)
    {pc : Nat} {ls : Array Slot} {stk : List Value} (hsize : ls.size = c.maxLocals) (argsL rest : List Value) (hlen : ∀ sig, parseMethodDescriptor y.desc = some sig → argsL.length = sig.parameters.length) (has : argsL.toArray = as') (hstk : stk = argsL.reverse ++ rest) (hW : (rest.map fun v => v.category).sum = W)
    (hd : decode c.code pc = .ok (.invokestatic index, 3)) (hc : ck + rm.cells ≤ R.cells) (hs : sk + rm.slots ≤ R.slots)
    (k : ∀ v T' h', Stn p l e R s m args below meth c n0 T' h' (ck + rm.cells) (sk + rm.slots) → Q v h' → Go p e below Post T' (mkF m (pc + 3) ls (v.toList ++ rest))) : Go p e below Post T (mkF m pc ls stk) := by
  obtain ⟨eT, locs, N, Y⟩ := X
  obtain ⟨v, _, ⟨T', L', k', n'⟩, -, X', ⟨Lc, ⟨hN, hQ⟩, l', y', z'⟩, st⟩ := Jvm.LawKit.callS Y hx (y := y) hown (mvT hZ w1) (mvT hZ w2) (mvT hZ w3) (mvT hZ w4) hy (backOf (W := W) (Q := fun v h' L => Fr n0 L ∧ Q v h') hM hZ w4 w3 hf hl) (g := mkF m pc ls stk) rfl hsize (argsL := argsL) (rest := rest) hlen hstk (by show 2 * 0 + _ ≤ _; omega) hd (fun _ _ => ⟨has, eT, hc, hs⟩)
  dsimp only [Pt.U, Pt.locs, Pt.cells, Pt.slots] at X' l' y' z' st hQ
  subst l' y' z'
  exact Go.st st (k v T' T'.heap ⟨rfl, _, Fr.app N hN, X'⟩ hQ)
theorem goCtor (X : Stn p l e R s m args below meth c n0 T h ck sk) (hx : p.tables.exec = Jvm.exec) (hZ : Z.Warmed39 s.vm) {own : String} {index : Nat} {y : MethodName} {bytes : ByteArray} {maxL : Nat} {rm : Room} {as' : Array Value} {Q : Option Value → Heap → Prop} (hy1 : y.name = "<init>")
    (hown : s.vm.findClass own = some m.cls) (w1 : (Cond.methodLink own index y).before a0 Z = true) (w2 : (Cond.instanceMethod y).before a0 Z = true) (w3 : (Cond.initialized y.cls).before a0 Z = true) (w4 : (Cond.code y bytes maxL none).before a0 Z = true)
    (hy : y.cls ≠ "java/lang/invoke/MethodHandle" ∧ y.cls ≠ "java/lang/invoke/VarHandle") (hM : Con l y bytes maxL none rm [] Z n0 as' h Q) (W : Nat) (hf : rm.frames + 1 ≤ R.frames) (hl : W + (maxL + 11) + rm.locals ≤ R.locals)
    {pc : Nat} {ls : Array Slot} {stk : List Value} (hsize : ls.size = c.maxLocals) (a : Addr) (argsL rest : List Value) (hlen : ∀ sig, parseMethodDescriptor y.desc = some sig → argsL.length = sig.parameters.length) (has : (.ref a :: argsL).toArray = as') (hstk : stk = argsL.reverse ++ .ref a :: rest) (hW : (rest.map fun v => v.category).sum = W)
    (hd : decode c.code pc = .ok (.invokespecial index, 3)) (hc : ck + rm.cells ≤ R.cells) (hs : sk + rm.slots ≤ R.slots)
    (k : ∀ v T' h', Stn p l e R s m args below meth c n0 T' h' (ck + rm.cells) (sk + rm.slots) → Q v h' → Go p e below Post T' (mkF m (pc + 3) ls (v.toList ++ rest))) : Go p e below Post T (mkF m pc ls stk) := by
  obtain ⟨eT, locs, N, Y⟩ := X
  obtain ⟨v, _, ⟨T', L', k', n'⟩, -, X', ⟨Lc, ⟨hN, hQ⟩, l', y', z'⟩, st⟩ := Y.specialBack hx (y := y) hy1 hown (mvT hZ w1) (mvT hZ w2) (mvT hZ w4) hy (backOf (W := W) (Q := fun v h' L => Fr n0 L ∧ Q v h') hM hZ w4 w3 hf hl) (g := mkF m pc ls stk) rfl hsize (Steps.refl _) (a := a) (argsL := argsL) (rest := rest) hlen hstk (by show 2 * 0 + _ ≤ _; omega) hd (fun _ _ => ⟨has, eT, hc, hs⟩)
  dsimp only [Pt.U, Pt.locs, Pt.cells, Pt.slots] at X' l' y' z' st hQ
  subst l' y' z'
  exact Go.st (fun t q => st.trans q) (k v T' T'.heap ⟨rfl, _, Fr.app N hN, X'⟩ hQ)
theorem goVirt (X : Stn p l e R s m args below meth c n0 T h ck sk) (hx : p.tables.exec = Jvm.exec) (hZ : Z.Warmed39 s.vm) {own C : String} {index : Nat} {y z : MethodName} {bytes : ByteArray} {maxL : Nat} {ret : Option FieldType} {rm : Room} {as' : Array Value} {Q : Option Value → Heap → Prop}
    (hown : s.vm.findClass own = some m.cls) (w1 : (Cond.methodLink own index y).before a0 Z = true) (w2 : (Cond.declares y).before a0 Z = true) (nf : NotFace s y) (w5 : (Cond.selects C y z).before a0 Z = true) (w6 : (Cond.instanceMethod z).before a0 Z = true) (w3 : (Cond.initialized z.cls).before a0 Z = true) (w4 : (Cond.code z bytes maxL ret).before a0 Z = true)
    (hy : y.cls ≠ "java/lang/invoke/MethodHandle" ∧ y.cls ≠ "java/lang/invoke/VarHandle") {a : Addr} (E : Exa Z h a C) (hM : Con l z bytes maxL ret rm [] Z n0 as' h Q) (W : Nat) (hf : rm.frames + 1 ≤ R.frames) (hl : W + (maxL + 11) + rm.locals ≤ R.locals)
    {pc : Nat} {ls : Array Slot} {stk : List Value} (hsize : ls.size = c.maxLocals) (argsL rest : List Value) (hlen : ∀ sig, parseMethodDescriptor y.desc = some sig → argsL.length = sig.parameters.length) (has : (.ref a :: argsL).toArray = as') (hstk : stk = argsL.reverse ++ .ref a :: rest) (hW : (rest.map fun v => v.category).sum = W)
    (hd : decode c.code pc = .ok (.invokevirtual index, 3)) (hc : ck + rm.cells ≤ R.cells) (hs : sk + rm.slots ≤ R.slots)
    (k : ∀ v T' h', Stn p l e R s m args below meth c n0 T' h' (ck + rm.cells) (sk + rm.slots) → Q v h' → Go p e below Post T' (mkF m (pc + 3) ls (v.toList ++ rest))) : Go p e below Post T (mkF m pc ls stk) := by
  obtain ⟨eT, locs, N, Y⟩ := X
  obtain ⟨cq, kq, q1, q2, q3⟩ := isOf hZ eT E
  obtain ⟨v, _, ⟨T', L', k', n'⟩, -, X', ⟨Lc, ⟨hN, hQ⟩, l', y', z'⟩, st⟩ := Y.virtualBack hx (y := y) (z := z) hown (mvT hZ w1) (mvT hZ w2) nf (mvT hZ w5) (mvT hZ w6) hy (backOf (W := W) (Q := fun v h' L => Fr n0 L ∧ Q v h') hM hZ w4 w3 hf hl) q1 q3 (g := mkF m pc ls stk) rfl hsize (Steps.refl _) (argsL := argsL) (rest := rest) hlen hstk (by show 2 * 0 + _ ≤ _; omega) hd (fun _ _ => ⟨has, eT, hc, hs⟩)
  dsimp only [Pt.U, Pt.locs, Pt.cells, Pt.slots] at X' l' y' z' st hQ
  subst l' y' z'
  exact Go.st (fun t q => st.trans q) (k v T' T'.heap ⟨rfl, _, Fr.app N hN, X'⟩ hQ)
theorem goVirtS (X : Stn p l e R s m args below meth c n0 T h ck sk) (hx : p.tables.exec = Jvm.exec) (hZ : Z.Warmed39 s.vm) {own : String} {index : Nat} {y : MethodName} {bytes : ByteArray} {maxL : Nat} {ret : Option FieldType} {rm : Room} {as' : Array Value} {Q : Option Value → Heap → Prop}
    (hown : s.vm.findClass own = some m.cls) (w1 : (Cond.methodLink own index y).before a0 Z = true) (w2 : (Cond.declares y).before a0 Z = true) (w5 : (Cond.selects y.cls y y).before a0 Z = true) (w6 : (Cond.instanceMethod y).before a0 Z = true) (w3 : (Cond.initialized y.cls).before a0 Z = true) (w4 : (Cond.code y bytes maxL ret).before a0 Z = true)
    (hy : y.cls ≠ "java/lang/invoke/MethodHandle" ∧ y.cls ≠ "java/lang/invoke/VarHandle") {a : Addr} (E : Exa Z h a y.cls) (hM : Con l y bytes maxL ret rm [] Z n0 as' h Q) (W : Nat) (hf : rm.frames + 1 ≤ R.frames) (hl : W + (maxL + 11) + rm.locals ≤ R.locals)
    {pc : Nat} {ls : Array Slot} {stk : List Value} (hsize : ls.size = c.maxLocals) (argsL rest : List Value) (hlen : ∀ sig, parseMethodDescriptor y.desc = some sig → argsL.length = sig.parameters.length) (has : (.ref a :: argsL).toArray = as') (hstk : stk = argsL.reverse ++ .ref a :: rest) (hW : (rest.map fun v => v.category).sum = W)
    (hd : decode c.code pc = .ok (.invokevirtual index, 3)) (hc : ck + rm.cells ≤ R.cells) (hs : sk + rm.slots ≤ R.slots)
    (k : ∀ v T' h', Stn p l e R s m args below meth c n0 T' h' (ck + rm.cells) (sk + rm.slots) → Q v h' → Go p e below Post T' (mkF m (pc + 3) ls (v.toList ++ rest))) : Go p e below Post T (mkF m pc ls stk) :=
  goVirt X hx hZ hown w1 w2 (notFace_of_selects (args := #[]) (mvT hZ w5)) w5 w6 w3 w4 hy E hM W hf hl hsize argsL rest hlen has hstk hW hd hc hs k
theorem goPriv (X : Stn p l e R s m args below meth c n0 T h ck sk) (hx : p.tables.exec = Jvm.exec) (hZ : Z.Warmed39 s.vm) {own C : String} {index : Nat} {y : MethodName} {bytes : ByteArray} {maxL : Nat} {ret : Option FieldType} {rm : Room} {as' : Array Value} {Q : Option Value → Heap → Prop}
    (hown : s.vm.findClass own = some m.cls) (w1 : (Cond.methodLink own index y).before a0 Z = true) (w6 : (Cond.instanceMethod y).before a0 Z = true) {kk : Nat} (wi : (Cond.instantiable y.cls kk).before a0 Z = true) (w7 : (Cond.privateMethod y).before a0 Z = true) (w3 : (Cond.initialized y.cls).before a0 Z = true) (w4 : (Cond.code y bytes maxL ret).before a0 Z = true)
    (hy : y.cls ≠ "java/lang/invoke/MethodHandle" ∧ y.cls ≠ "java/lang/invoke/VarHandle") {a : Addr} (E : Exa Z h a C) (hM : Con l y bytes maxL ret rm [] Z n0 as' h Q) (W : Nat) (hf : rm.frames + 1 ≤ R.frames) (hl : W + (maxL + 11) + rm.locals ≤ R.locals)
    {pc : Nat} {ls : Array Slot} {stk : List Value} (hsize : ls.size = c.maxLocals) (argsL rest : List Value) (hlen : ∀ sig, parseMethodDescriptor y.desc = some sig → argsL.length = sig.parameters.length) (has : (.ref a :: argsL).toArray = as') (hstk : stk = argsL.reverse ++ .ref a :: rest) (hW : (rest.map fun v => v.category).sum = W)
    (hd : decode c.code pc = .ok (.invokevirtual index, 3)) (hc : ck + rm.cells ≤ R.cells) (hs : sk + rm.slots ≤ R.slots)
    (k : ∀ v T' h', Stn p l e R s m args below meth c n0 T' h' (ck + rm.cells) (sk + rm.slots) → Q v h' → Go p e below Post T' (mkF m (pc + 3) ls (v.toList ++ rest))) : Go p e below Post T (mkF m pc ls stk) := by
  obtain ⟨eT, locs, N, Y⟩ := X
  obtain ⟨cq, q1, q2⟩ := E.cell
  have hi : (Cond.instantiable y.cls kk).before args s = true := mvT hZ wi
  obtain ⟨ci, ki, i1, i2, -, i4, -⟩ := Cond.instantiable_spec hi
  have i7 : ki.isInterface = false := by
    cases q : ki.isInterface
    · rfl
    · rw [q] at i4; cases i4
  have hsel : (Cond.selects y.cls y y).before args s = true := selects_self_of_private i1 i2 i7 (Cond.privateMethod_at (mvP hZ w7 (args := #[]))) (mvT hZ w6) hy
  obtain ⟨v, _, ⟨T', L', k', n'⟩, -, X', ⟨Lc, ⟨hN, hQ⟩, l', y', z'⟩, st⟩ := Y.privateBack hx (y := y) hown (mvT hZ w1) (mvT hZ w6) hsel (Cond.privateMethod_at (mvP hZ w7 (args := #[]))) (mvT hZ w4) hy (backOf (W := W) (Q := fun v h' L => Fr n0 L ∧ Q v h') hM hZ w4 w3 hf hl) (g := mkF m pc ls stk) rfl hsize (Steps.refl _) (a := a) (by rw [eT]; exact q1) q2 (argsL := argsL) (rest := rest) hlen hstk (by show 2 * 0 + _ ≤ _; omega) hd (fun _ _ => ⟨has, eT, hc, hs⟩)
  dsimp only [Pt.U, Pt.locs, Pt.cells, Pt.slots] at X' l' y' z' st hQ
  subst l' y' z'
  exact Go.st (fun t q => st.trans q) (k v T' T'.heap ⟨rfl, _, Fr.app N hN, X'⟩ hQ)
theorem own_i32_rem (x y : Int32) : x - (x / y) * y = x % y := by
  apply Int32.toInt_inj.mp
  rw [Int32.toInt_mod, Int32.toInt_sub, Int32.toInt_mul, Int32.toInt_div]
  have hb : x.toInt.tmod y.toInt = (x.toInt.tmod y.toInt).bmod (2 ^ 32) := by
    rw [← Int32.toInt_mod]
    exact (Int32.toInt_bmod _).symm
  rw [hb, Int.tmod_def]
  simp [Int.mul_comm]
theorem own_irem {T target : State} (X : At T m c below) (hx : p.tables.exec = Jvm.exec) {pc : Nat} {ls : Array Slot} {x y : Int32} {rest : List Value} (hd : decode c.code pc = .ok (.irem, 1)) (hy : y ≠ 0)
    (hr : Steps p.tables e below (T.setTop (mkF m (pc + 1) ls (.int (x % y) :: rest))) target) : Steps p.tables e below (T.setTop (mkF m pc ls (.int y :: .int x :: rest))) target :=
  XS.irem X hx (g := mkF m pc ls (.int y :: .int x :: rest)) rfl hd rfl hy (by rw [own_i32_rem]; exact hr)
end OwnLayer
section OwnLayer2
variable {p : Program} {l : Launch} {e : Env} {R : Room} {s : State} {m : MethodId} {args : Array Value} {below : List Frame} {meth : Method} {c : Code} {T T' : State} {h h' : Heap} {n0 ck sk : Nat} {Z : State} {a0 : Array Value} {Post : Outcome → State → Prop}
theorem sta_keep {C n d : String} {v : Value} {ws : List Addr} (F : Sta Z h C n d v) (K : Keep h h' ws) (q : ∀ x ∈ ws, ∃ C', Exa Z h x C') : Sta Z h' C n d v := by
  obtain ⟨cf, i, k, f, st, cell, h1, h2, h3, h4, h5, h6, h7⟩ := F
  refine ⟨cf, i, k, f, st, cell, h1, h2, h3, h4, K.2.1 st cell h5 fun z => ?_, h6, h7⟩
  obtain ⟨C', cell', k', e1, -, -, e4, -⟩ := q st z
  cases h5.symm.trans e1
  rw [h6] at e4
  cases e4
theorem goGetS (X : Stn p l e R s m args below meth c n0 T h ck sk) (hx : p.tables.exec = Jvm.exec) (hZ : Z.Warmed39 s.vm) {own R0 O n d host : String} {index : Nat} (hown : s.vm.findClass own = some m.cls) (w : (Cond.fieldLink own index R0 n d).before a0 Z = true ∨ (Cond.fieldLinkNest own index R0 n d host).before a0 Z = true) (via : Via Z R0 O n d)
    {v : Value} (F : Sta Z h O n d v) {pc : Nat} {ls : Array Slot} {st : List Value} (hd : decode c.code pc = .ok (.getstatic index, 3))
    (k : ∀ T', Stn p l e R s m args below meth c n0 T' h ck sk → Go p e below Post T' (mkF m (pc + 3) ls (v :: st))) : Go p e below Post T (mkF m pc ls st) := by
  obtain ⟨eT, locs, N, Y⟩ := X
  obtain ⟨T', X', e', stp⟩ := getS2 Y hx hZ hown w via eT F (g := mkF m pc ls st) rfl hd
  exact Go.st stp (k T' ⟨e', locs, N, X'⟩)
theorem goInstY (X : Stn p l e R s m args below meth c n0 T h ck sk) (hx : p.tables.exec = Jvm.exec) (hZ : Z.Warmed39 s.vm) {own K : String} {index : Nat} (hown : s.vm.findClass own = some m.cls) (w : (Cond.classLink own index K).before a0 Z = true) {a : Addr} (F : Ins Z h a K true)
    {pc : Nat} {ls : Array Slot} {rest : List Value} (hd : decode c.code pc = .ok (.instanceof index, 3)) (k : ∀ T', Stn p l e R s m args below meth c n0 T' h ck sk → Go p e below Post T' (mkF m (pc + 3) ls (.int 1 :: rest))) : Go p e below Post T (mkF m pc ls (.ref a :: rest)) := by
  obtain ⟨eT, locs, N, Y⟩ := X
  obtain ⟨T', X', e', st⟩ := instY Y hx hZ hown w eT F (g := mkF m pc ls (.ref a :: rest)) rfl rfl hd
  exact Go.st st (k T' ⟨e', locs, N, X'⟩)
theorem goInstNo (X : Stn p l e R s m args below meth c n0 T h ck sk) (hx : p.tables.exec = Jvm.exec) (hZ : Z.Warmed39 s.vm) {own K C : String} {index : Nat} (hown : s.vm.findClass own = some m.cls) (w : (Cond.classLink own index K).before a0 Z = true) {a : Addr} (E : Exa Z h a C) (F : ∃ c t, Z.vm.findClass C = some c ∧ Z.vm.findClass K = some t ∧ Z.vm.assignable c t = false)
    {pc : Nat} {ls : Array Slot} {rest : List Value} (hd : decode c.code pc = .ok (.instanceof index, 3)) (k : ∀ T', Stn p l e R s m args below meth c n0 T' h ck sk → Go p e below Post T' (mkF m (pc + 3) ls (.int 0 :: rest))) : Go p e below Post T (mkF m pc ls (.ref a :: rest)) := by
  obtain ⟨eT, locs, N, Y⟩ := X
  obtain ⟨T', X', e', st⟩ := instNo Y hx hZ hown w eT E F (g := mkF m pc ls (.ref a :: rest)) rfl rfl hd
  exact Go.st st (k T' ⟨e', locs, N, X'⟩)
theorem goInstNull (X : Stn p l e R s m args below meth c n0 T h ck sk) (hx : p.tables.exec = Jvm.exec) {index : Nat}
    {pc : Nat} {ls : Array Slot} {rest : List Value} (hd : decode c.code pc = .ok (.instanceof index, 3)) (k : Go p e below Post T (mkF m (pc + 3) ls (.int 0 :: rest))) : Go p e below Post T (mkF m pc ls (.null :: rest)) := by
  obtain ⟨eT, locs, N, Y⟩ := X
  exact Go.st (fun t q => Y.instanceofNull hx (g := mkF m pc ls (.null :: rest)) rfl rfl hd t q) k
/-- no object of the class C (whose superclasses are Object's chain) is one of K -/
theorem ns_root {O K : String} {kk : Nat} (w : (Cond.noSuperclass O).before a0 Z = true) (wk : (Cond.instantiable K kk).before a0 Z = true) (hn : O ≠ K) : NS Z O K := by
  obtain ⟨c, k, h1, h2, h3, -, -⟩ := Cond.noSuperclass_spec w
  obtain ⟨t, kt, g1, g2, -⟩ := Cond.instantiable_spec wk
  have ne := ids_ne h1 g1 hn
  refine ⟨c, t, h1, g1, fun fuel => ?_⟩
  cases fuel with
  | zero => rfl
  | succ f => simp [Vm.isSubclassAux, ne, h2, h3]
theorem ns_no {C S K : String} {kk : Nat} (w : (Cond.superclass C S).before a0 Z = true) (wk : (Cond.instantiable K kk).before a0 Z = true) (n : NS Z C K) (hn : C ≠ K) : ∃ c t, Z.vm.findClass C = some c ∧ Z.vm.findClass K = some t ∧ Z.vm.assignable c t = false := by
  obtain ⟨c, t, h0, g0, n3⟩ := n
  obtain ⟨p, k, kp, h1, h2, h3, h4, h5, -, h7⟩ := Cond.superclass_spec h0 w
  obtain ⟨t', k', g1, g2, g5, g6, -⟩ := Cond.instantiable_spec wk
  cases g0.symm.trans g1
  have g7 : k'.isInterface = false := by
    cases q : k'.isInterface
    · rfl
    · rw [q] at g6; cases g6
  have ne := ids_ne h0 g0 hn
  refine ⟨c, t, h0, g0, ?_⟩
  show Z.vm.assignableAux (255 + 1) c t = false
  simp [Vm.assignableAux, ne, h2, g2, h5, g5, g7, Vm.isSubclass, n3]
/-! arrays of references -/
def AO (Z : State) (h : Heap) (a : Addr) (C : String) : Prop := ∃ cl : Cell, h[a]? = some cl ∧ Ovr Z cl.cls C
theorem AO.ext {a : Addr} {C : String} (E : Ext h h') (F : AO Z h a C) : AO Z h' a C := by obtain ⟨cl, h1, h2⟩ := F; exact ⟨cl, E.2 _ _ h1, h2⟩
theorem AO.wr {a b : Addr} {C : String} {sl : Nat} {v : Value} (W : Wr h h' b sl v) (F : AO Z h a C) : AO Z h' a C := by
  obtain ⟨cl, h1, h2⟩ := F
  obtain ⟨cl', g1, g2, -⟩ := wr_at W h1
  exact ⟨cl', g1, by rw [g2]; exact h2⟩
theorem AO.keep {a : Addr} {C : String} {ws : List Addr} (F : AO Z h a C) (K : Keep h h' ws) : AO Z h' a C := by
  obtain ⟨cl, h1, h2⟩ := F
  obtain ⟨cl', g1, g2, -⟩ := K.2.2 a cl h1
  exact ⟨cl', g1, by rw [g2]; exact h2⟩
theorem goNewR (X : Stn p l e R s m args below meth c n0 T h ck sk) (hx : p.tables.exec = Jvm.exec) (hZ : Z.Warmed39 s.vm) {own C : String} {index : Nat} (hown : s.vm.findClass own = some m.cls) (w1 : (Cond.classLink own index C).before a0 Z = true) (w2 : (Cond.arrayOver (.object C)).before a0 Z = true)
    {pc : Nat} {ls : Array Slot} {n : Int32} {rest : List Value} (hd : decode c.code pc = .ok (.anewarray index, 3)) (hn : ¬ n < 0) {cap : Nat} (hcap : n.toNatClampNeg ≤ cap) (hb : cap * 8 ≤ 536870912) (hc : ck + 1 ≤ R.cells) (hl : sk + cap ≤ R.slots) {ad : String} (had : "[" ++ (FieldType.object C).toString = ad)
    (k : ∀ T' h' a, a = h.size → Stn p l e R s m args below meth c n0 T' h' (ck + 1) (sk + cap) → Ext h h' → Exa Z h' a ad → Ary Z h' a (.object C) n.toNatClampNeg (fun _ => .null) → AO Z h' a C → Go p e below Post T' (mkF m (pc + 3) ls (.ref a :: rest))) : Go p e below Post T (mkF m pc ls (.int n :: rest)) := by
  obtain ⟨eT, locs, N, Y⟩ := X
  obtain ⟨T', h', cA, X', e', E, A, Ex, O, st⟩ := newRE Y hx hZ hown w1 w2 eT (g := mkF m pc ls (.int n :: rest)) rfl hd rfl hn hcap hb hc hl had
  exact Go.st st (k T' h' _ rfl ⟨e', locs, N, X'⟩ E Ex (Ary.new A) ⟨_, A.1, O⟩)
theorem goLdR (X : Stn p l e R s m args below meth c n0 T h ck sk) (hx : p.tables.exec = Jvm.exec) (hZ : Z.Warmed39 s.vm) {a : Addr} {ty : FieldType} {n : Nat} {f : Nat → Value} (A : Ary Z h a ty n f) (hty : ty.isReference = true) {j : Int32} (hj : ¬ (j < 0 ∨ n ≤ j.toNatClampNeg)) {pc : Nat} {ls : Array Slot} {rest : List Value} (hd : decode c.code pc = .ok (.aaload, 1))
    (k : Go p e below Post T (mkF m (pc + 1) ls (f j.toNatClampNeg :: rest))) : Go p e below Post T (mkF m pc ls (.int j :: .ref a :: rest)) := by
  obtain ⟨eT, locs, N, Y⟩ := X
  obtain ⟨cl, A, r1, r2⟩ := A
  subst r1
  exact Go.st (fun t q => Y.aaload hx (j := j) (v := f j.toNatClampNeg) (by rw [eT]; exact A.1) (State.isArrayOf_alike hZ.alike A.2.1) hty A.2.2 hj (r2 _ (by omega)) (g := mkF m pc ls (.int j :: .ref a :: rest)) rfl rfl hd t q) k
theorem goStR (X : Stn p l e R s m args below meth c n0 T h ck sk) (hx : p.tables.exec = Jvm.exec) (hZ : Z.Warmed39 s.vm) {a y : Addr} {ty : FieldType} {n : Nat} {f : Nat → Value} {C : String} (A : Ary Z h a ty n f) (hty : ty.isReference = true) (O : AO Z h a C) (I : Ins Z h y C true) {j : Int32} (hj : ¬ (j < 0 ∨ n ≤ j.toNatClampNeg)) (ha : n0 ≤ a) {pc : Nat} {ls : Array Slot} {rest : List Value} (hd : decode c.code pc = .ok (.aastore, 1))
    (k : ∀ T' h', Stn p l e R s m args below meth c n0 T' h' ck sk → Wr h h' a j.toNatClampNeg (.ref y) → Ary Z h' a ty n (fun i => if i = j.toNatClampNeg then .ref y else f i) → Go p e below Post T' (mkF m (pc + 1) ls rest)) : Go p e below Post T (mkF m pc ls (.ref y :: .int j :: .ref a :: rest)) := by
  obtain ⟨eT, locs, N, Y⟩ := X
  have A0 := A
  obtain ⟨cl, A, r1, r2⟩ := A
  obtain ⟨cl2, o1, o2⟩ := O
  cases A.1.symm.trans o1
  subst r1
  obtain ⟨T', h', X', e', W, st⟩ := stR Y hx hZ eT A hj hty (Sto.of A o2 I) (g := mkF m pc ls (.ref y :: .int j :: .ref a :: rest)) rfl rfl hd
  exact Go.st st (k T' h' ⟨e', _, Fr.snoc X' N ha, X'⟩ W (A0.set W))
end OwnLayer2

section OwnLayer3
variable {p : Program} {l : Launch} {e : Env} {R : Room} {s : State} {m : MethodId} {args : Array Value} {below : List Frame} {meth : Method} {c : Code} {T T' : State} {h h' : Heap} {n0 ck sk : Nat} {Z : State} {a0 : Array Value} {Post : Outcome → State → Prop}
theorem own_ltn {i : Int32} {n : Nat} (hn : n < 2147483648) (h0 : ¬ i < 0) (hi : i < n.toInt32) : i.toNatClampNeg < n := by
  have e1 := nat_of h0
  rw [Int32.lt_iff_toInt_lt, Int32.toInt_ofNat_small (by omega)] at hi
  omega
theorem own_gen {i : Int32} {n : Nat} (hn : n < 2147483648) (h0 : ¬ i < 0) (hi : ¬ i < n.toInt32) : n ≤ i.toNatClampNeg := by
  have e1 := nat_of h0
  rw [Int32.lt_iff_toInt_lt, Int32.toInt_ofNat_small (by omega)] at hi
  omega
theorem own_succ {i : Int32} {n : Nat} (hn : n < 2147483648) (h0 : ¬ i < 0) (hi : i.toNatClampNeg < n) : ¬ (i + (1 : Int32)) < 0 ∧ (i + (1 : Int32)).toNatClampNeg = i.toNatClampNeg + 1 := by
  have e1 := nat_of h0
  have e2 : (i + (1 : Int32)).toInt = i.toInt + 1 := by rw [Jvm.Kit.i32_add (by simp; omega) (by simp; omega)]; rfl
  have h1 : ¬ (i + (1 : Int32)) < 0 := by rw [Int32.lt_iff_toInt_lt, e2]; simp; omega
  have e3 := nat_of h1
  exact ⟨h1, by omega⟩
theorem own_inb {i : Int32} {n : Nat} (h0 : ¬ i < 0) (hi : i.toNatClampNeg < n) : ¬ (i < 0 ∨ n ≤ i.toNatClampNeg) := fun z => z.elim h0 fun y => by omega
theorem z_of {n : Nat} (hn : n < 2147483648) : n.toInt32.toNatClampNeg = n ∧ ¬ n.toInt32 < 0 := by
  have e1 : n.toInt32.toInt = n := Int32.toInt_ofNat_small (by omega)
  have h0 : ¬ n.toInt32 < 0 := by rw [Int32.lt_iff_toInt_lt, e1]; simp
  have := nat_of h0
  exact ⟨by omega, h0⟩
theorem getD_map {n : Nat} {f : Nat → Value} {d : Value} {i : Nat} (hi : i < n) : ((List.range n).map f).getD i d = f i := by
  simp [List.getD_eq_getElem?_getD, hi]
theorem Ary.arv {a : Addr} {ty : FieldType} {n : Nat} {f : Nat → Value} (A : Ary Z h a ty n f) (hn : n < 2147483648) (hf : ∀ i, i < n → fits ty (f i) = true) (d : Value) : ∃ k, Arv Z h a k ty n.toInt32 ((List.range n).map f) d := by
  obtain ⟨cl, A, r1, r2⟩ := A
  refine ⟨cl.cls, cl, A, rfl, by rw [(z_of hn).1]; exact r1, (z_of hn).2, fun i hi => ?_, fun i hi => ?_⟩
  · rw [getD_map (r1 ▸ hi)]; exact r2 i (r1 ▸ hi)
  · rw [getD_map (r1 ▸ hi)]; exact hf i (r1 ▸ hi)
theorem Ary.ofArv {a : Addr} {k : ClassId} {ty : FieldType} {n : Nat} {vs : List Value} {d : Value} (A : Arv Z h a k ty n.toInt32 vs d) (hn : n < 2147483648) : Ary Z h a ty n (fun i => vs.getD i d) := by
  obtain ⟨cl, A, -, r2, -, r4, -⟩ := A
  rw [(z_of hn).1] at r2
  exact ⟨cl, A, r2, fun i hi => r4 i (r2 ▸ hi)⟩
theorem goCopy (X : Stn p l e R s m args below meth c n0 T h ck sk) (hx : p.tables.exec = Jvm.exec) (hZ : Z.Warmed39 s.vm) {own : String} {index : Nat} (hown : s.vm.findClass own = some m.cls)
    (w1 : (Cond.methodLink own index Jvm.Stand.acN).before a0 Z = true) (w2 : (Cond.native Jvm.Stand.acN).before a0 Z = true) (w3 : (Cond.static Jvm.Stand.acN).before a0 Z = true) (w4 : (Cond.initialized "java/lang/System").before a0 Z = true)
    {a b : Addr} {ty : FieldType} {n n' : Nat} {f f' : Nat → Value} (A : Ary Z h a ty n f) (B : Ary Z h b ty n' f') (hr : refKind ty = false) (hn : n < 2147483648) (hn' : n' < 2147483648) (hf1 : ∀ i, i < n → fits ty (f i) = true) (hf2 : ∀ i, i < n' → fits ty (f' i) = true)
    {sp dp nn : Int32} (h1 : ¬ sp < 0) (h2 : ¬ dp < 0) (h3 : ¬ nn < 0) (h4 : sp.toNatClampNeg + nn.toNatClampNeg ≤ n) (h5 : dp.toNatClampNeg + nn.toNatClampNeg ≤ n') (ge : n0 ≤ b)
    {pc : Nat} {ls : Array Slot} {rest : List Value} (hsize : ls.size = c.maxLocals) (hd : decode c.code pc = .ok (.invokestatic index, 3)) (hf : 1 ≤ R.frames) (W : Nat) (hW : (rest.map fun v => v.category).sum = W) (hlo : W + (nativeFrameWords "java/lang/System" "arraycopy" 5 + 11) ≤ R.locals)
    (k : ∀ T' h', Stn p l e R s m args below meth c n0 T' h' ck sk → Keep h h' [b] → Ary Z h' b ty n' (fun i => if dp.toNatClampNeg ≤ i ∧ i < dp.toNatClampNeg + nn.toNatClampNeg then f (sp.toNatClampNeg + (i - dp.toNatClampNeg)) else f' i) → Go p e below Post T' (mkF m (pc + 3) ls rest)) :
    Go p e below Post T (mkF m pc ls (.int nn :: .int dp :: .ref b :: .int sp :: .ref a :: rest)) := by
  obtain ⟨eT, locs, N, Y⟩ := X
  obtain ⟨k1, A1⟩ := A.arv hn hf1 .null
  obtain ⟨k2, B1⟩ := B.arv hn' hf2 .null
  obtain ⟨T', h', L, X', e', N', K, B', st⟩ := cpA Y hx hZ hown w1 w2 w3 w4 eT A1 B1 (Or.inl ⟨rfl, hr⟩) (sp := sp) (dp := dp) (nn := nn) h1 h2 h3 (by rw [(z_of hn).1]; exact h4) (by rw [(z_of hn').1]; exact h5) rfl (by simpa using h5) N ge (g := mkF m pc ls (.int nn :: .int dp :: .ref b :: .int sp :: .ref a :: rest)) rfl hsize rfl hd hf (W := W) (by show 2 * 0 + _ ≤ _; omega) hlo
  refine Go.st st (k T' h' ⟨e', L, N', X'⟩ K ((Ary.ofArv B' hn').congr fun i hi => ?_))
  simp only [List.getD_eq_getElem?_getD]
  by_cases c1 : i < dp.toNatClampNeg
  · rw [if_neg (by omega), List.append_assoc, List.getElem?_append_left (by simp; omega)]
    simp [List.getElem?_take, c1, hi]
  · by_cases c2 : i < dp.toNatClampNeg + nn.toNatClampNeg
    · rw [if_pos ⟨by omega, c2⟩, List.append_assoc, List.getElem?_append_right (by simp; omega), List.getElem?_append_left (by simp; omega)]
      have q1 : min dp.toNatClampNeg n' = dp.toNatClampNeg := by omega
      have q2 : i - dp.toNatClampNeg < nn.toNatClampNeg := by omega
      have q3 : sp.toNatClampNeg + (i - dp.toNatClampNeg) < n := by omega
      simp [q1, q2, q3]
    · rw [if_neg (by omega), List.append_assoc, List.getElem?_append_right (by simp; omega), List.getElem?_append_right (by simp; omega)]
      have q1 : min dp.toNatClampNeg n' = dp.toNatClampNeg := by omega
      have q2 : dp.toNatClampNeg + nn.toNatClampNeg + (i - dp.toNatClampNeg - nn.toNatClampNeg) = i := by omega
      simp [q1, q2, hi]
end OwnLayer3


/-- the dimension and the number of the matrix's places -/
def own_dim (dm : Int32) (n : Nat) : Prop := (dm = 1 ∧ n = 1) ∨ (dm = 2 ∧ n = 4) ∨ (dm = 3 ∧ n = 9) ∨ (dm = 4 ∧ n = 16)
theorem own_dim_lt {dm : Int32} {n : Nat} (h : own_dim dm n) : n < 2147483648 ∧ 1 ≤ n ∧ n ≤ 16 := by
  rcases h with ⟨-, rfl⟩ | ⟨-, rfl⟩ | ⟨-, rfl⟩ | ⟨-, rfl⟩ <;> omega
theorem own_lit (k : Nat) (hk : k < 128) : (Int32.ofNat k).toInt = k := Int32.toInt_ofNat_of_lt (by omega)
def own_rg (i dm : Int32) : Prop := ¬ i < 0 ∧ i < dm
theorem own_ixv {dm : Int32} {n : Nat} {i j : Int32} (h : own_dim dm n) (hi : own_rg i dm) (hj : own_rg j dm) : ¬ ((i * dm + j) < 0) ∧ (i * dm + j).toNatClampNeg = i.toNatClampNeg * dm.toNatClampNeg + j.toNatClampNeg ∧ (i * dm + j).toNatClampNeg < n := by
  have a1 := nat_of hi.1
  have a2 := nat_of hj.1
  have b1 := hi.2
  have b2 := hj.2
  rw [Int32.lt_iff_toInt_lt] at b1 b2
  have key : ∀ (d : Int32) (D : Nat), d.toInt = D → D ≤ 4 → i.toInt < D → j.toInt < D → ¬ ((i * d + j) < 0) ∧ (i * d + j).toNatClampNeg = i.toNatClampNeg * D + j.toNatClampNeg := by
    intro d D hd hD q1 q2
    have hm : i.toInt * d.toInt = (i.toNatClampNeg * D : Nat) := by rw [hd, a1]; simp
    have hle : i.toNatClampNeg * D ≤ 4 * 4 := Nat.mul_le_mul (by omega) hD
    have e1 : (i * d).toInt = i.toInt * d.toInt := Jvm.Kit.i32_mul (by rw [hm]; omega) (by rw [hm]; omega)
    have e2 : (i * d + j).toInt = (i * d).toInt + j.toInt := Jvm.Kit.i32_add (by rw [e1, hm]; omega) (by rw [e1, hm]; omega)
    have h0 : ¬ ((i * d + j) < 0) := by
      rw [Int32.lt_iff_toInt_lt, e2, e1, hm]
      show ¬ (_ < (0 : Int))
      omega
    have e3 := nat_of h0
    exact ⟨h0, by omega⟩
  rcases h with ⟨rfl, rfl⟩ | ⟨rfl, rfl⟩ | ⟨rfl, rfl⟩ | ⟨rfl, rfl⟩
  · obtain ⟨k1, k2⟩ := key 1 1 (by decide) (by omega) b1 b2
    exact ⟨k1, k2, by have z : i.toInt < 1 := b1; have z' : j.toInt < 1 := b2; omega⟩
  · obtain ⟨k1, k2⟩ := key 2 2 (by decide) (by omega) b1 b2
    exact ⟨k1, k2, by have z : i.toInt < 2 := b1; have z' : j.toInt < 2 := b2; omega⟩
  · obtain ⟨k1, k2⟩ := key 3 3 (by decide) (by omega) b1 b2
    exact ⟨k1, k2, by have z : i.toInt < 3 := b1; have z' : j.toInt < 3 := b2; omega⟩
  · obtain ⟨k1, k2⟩ := key 4 4 (by decide) (by omega) b1 b2
    exact ⟨k1, k2, by have z : i.toInt < 4 := b1; have z' : j.toInt < 4 := b2; omega⟩
theorem own_ix {dm : Int32} {n : Nat} {i j : Int32} (h : own_dim dm n) (hi : own_rg i dm) (hj : own_rg j dm) : ¬ ((i * dm + j) < 0 ∨ n ≤ (i * dm + j).toNatClampNeg) := by
  obtain ⟨q1, -, q3⟩ := own_ixv h hi hj
  exact own_inb q1 q3
theorem own_0 {dm : Int32} {n : Nat} (h : own_dim dm n) : own_rg 0 dm := by
  rcases h with ⟨rfl, rfl⟩ | ⟨rfl, rfl⟩ | ⟨rfl, rfl⟩ | ⟨rfl, rfl⟩ <;> exact ⟨by decide, by decide⟩
theorem own_nxt {dm : Int32} {n : Nat} {i : Int32} (h : own_dim dm n) (hi : own_rg i dm) : ¬ (i + (1 : Int32)) < 0 ∧ (i + (1 : Int32)).toNatClampNeg = i.toNatClampNeg + 1 ∧ i.toNatClampNeg < dm.toNatClampNeg := by
  have a1 := nat_of hi.1
  have b1 := hi.2
  rw [Int32.lt_iff_toInt_lt] at b1
  have q : i.toNatClampNeg < 4 ∧ i.toNatClampNeg < dm.toNatClampNeg := by
    rcases h with ⟨rfl, rfl⟩ | ⟨rfl, rfl⟩ | ⟨rfl, rfl⟩ | ⟨rfl, rfl⟩ <;> simp only [Int32.reduceToInt, Int32.reduceToNatClampNeg] at * <;> omega
  obtain ⟨r1, r2⟩ := own_succ (n := 4) (by omega) hi.1 q.1
  exact ⟨r1, r2, q.2⟩
theorem own_sq {nv : Int32} {N : Nat} (h : own_dim (nv + (1 : Int32)) N) : ((nv + (1 : Int32)) * (nv + (1 : Int32))).toNatClampNeg = N ∧ ¬ ((nv + (1 : Int32)) * (nv + (1 : Int32))) < 0 := by
  rcases h with ⟨e, rfl⟩ | ⟨e, rfl⟩ | ⟨e, rfl⟩ | ⟨e, rfl⟩ <;> rw [e] <;> exact ⟨by decide, by decide⟩
def own_INF : Int64 := 9223372036854775807
def own_upf (d n : Nat) (f f' : Nat → Int64) : Prop := ∀ k, k < n → f' k = (if k % d = 0 ∧ d ≤ k then (9223372036854775807 : Int64) else f k)
def own_upi (d n i : Nat) (f f' : Nat → Int64) : Prop := ∀ k, k < n → f' k = (if k % d = 0 ∧ d ≤ k ∧ k < i * d then (9223372036854775807 : Int64) else f k)
def own_rel (N d : Nat) (fb fa : Nat → Int64) (k : Nat) : Prop := (N ≤ k → fb k = 0 ∧ fa k = 0) ∧ (k < N → fa k = (if k % d = 0 ∧ d ≤ k then (9223372036854775807 : Int64) else fb k))
theorem own_relx {N d : Nat} {f3 f4 : Nat → Int64} (h : own_upf d N f3 f4) (k : Nat) : own_rel N d (fun i => (if i < N then f3 i else (fun _ => 0) i)) (fun i => (if i < N then f4 i else (fun _ => 0) i)) k := by
  refine ⟨fun q => ?_, fun q => ?_⟩
  · simp [Nat.not_lt.mpr q]
  · simp only [q, if_true]; exact h k q

theorem d3_0 : decode jdk_65_method_101_code 0 = .ok (.iconst 0, 1) := by decide +kernel
theorem d3_1 : decode jdk_65_method_101_code 1 = .ok (.istore_n 3, 1) := by decide +kernel
theorem d3_2 : decode jdk_65_method_101_code 2 = .ok (.aload_n 0, 1) := by decide +kernel
theorem d3_3 : decode jdk_65_method_101_code 3 = .ok (.arraylength, 1) := by decide +kernel
theorem d3_4 : decode jdk_65_method_101_code 4 = .ok (.istore 4, 2) := by decide +kernel
theorem d3_6 : decode jdk_65_method_101_code 6 = .ok (.iload_n 3, 1) := by decide +kernel
theorem d3_7 : decode jdk_65_method_101_code 7 = .ok (.iload 4, 2) := by decide +kernel
theorem d3_9 : decode jdk_65_method_101_code 9 = .ok (.if_icmp .ge 13, 3) := by decide +kernel
theorem d3_12 : decode jdk_65_method_101_code 12 = .ok (.aload_n 0, 1) := by decide +kernel
theorem d3_13 : decode jdk_65_method_101_code 13 = .ok (.iload_n 3, 1) := by decide +kernel
theorem d3_14 : decode jdk_65_method_101_code 14 = .ok (.lload_n 1, 1) := by decide +kernel
theorem d3_15 : decode jdk_65_method_101_code 15 = .ok (.lastore, 1) := by decide +kernel
theorem d3_16 : decode jdk_65_method_101_code 16 = .ok (.iinc 3 1, 3) := by decide +kernel
theorem d3_19 : decode jdk_65_method_101_code 19 = .ok (.goto (-13), 3) := by decide +kernel
theorem d3_22 : decode jdk_65_method_101_code 22 = .ok (.return_, 1) := by decide +kernel
theorem pn_3 : plainFor (⟨"java/util/Arrays", "fill", "([JJ)V"⟩ : MethodName) = true := plainFor_of_name (by first | (simp [plainName, overriddenIn]; done) | decide +kernel)
theorem ef_rm3 (m : MethodId) (x0 : Addr) (x1 : Int64) : entryFrame m #[(.ref x0), (.long x1)] 5 = mkF m 0 #[.val (.ref x0), .val (.long x1), .second, .unset, .unset] [] := by first | (simp [entryFrame, mkF, argsToLocals, Value.category]; done) | rfl
def Q3 (Z : State) (n0 : Nat) (h0 : Heap) (bs : Addr) (q : Int64) (n : Nat) (f : Nat → Int64) (v : Option Value) (h : Heap) : Prop := ∃ (f' : Nat → Int64), v = none ∧ Keep h0 h [bs] ∧ Ary Z h bs .long n (fun i => .long (f' i))
set_option maxRecDepth 65536 in
set_option maxHeartbeats 40000000 in
theorem rm3 (l : Launch) (Z : State) (a0 : Array Value) (hw : ∀ d ∈ tables_1, d.before a0 Z = true) (ws : List Jvm.Cond) (n0 : Nat) (h0 : Heap) (bs : Addr) (q : Int64) (n : Nat) (f : Nat → Int64) (sz0 : n0 ≤ h0.size) (g0 : Ary Z h0 bs .long n (fun i => .long (f i))) (g1 : n0 ≤ bs) (hn : n < 2147483648) :
    Con l (⟨"java/util/Arrays", "fill", "([JJ)V"⟩ : MethodName) jdk_65_method_101_code 5 none ({ frames := 0, cells := 0, slots := 0, locals := 0 } : Room) ws Z n0 #[(.ref bs), (.long q)] h0 (Q3 Z n0 h0 bs q n f) := by
  refine Con.body pn_3 ?_
  intro p e s m below meth c s₁ hx hby hml hown hnm hret hlk hZ X0
  have hown : s.vm.findClass "java/util/Arrays" = some m.cls := hown
  have hnm : meth.name = "fill" := hnm
  have K0 : Keep h0 h0 [bs] := Keep.refl _ _
  rw [show entryFrame m #[(.ref bs), (.long q)] 5 = mkF m 0 #[.val (.ref bs), .val (.long q), .second, .unset, .unset] [] from ef_rm3 m bs q]
  show Go p e below (PostW s n0 (0 : Nat) (0 : Nat) (Q3 Z n0 h0 bs q n f)) s₁ (mkF m 0 #[.val (.ref bs), .val (.long q), .second, .unset, .unset] [])
  refine Go.st (T' := s₁) (g' := (mkF m 1 #[.val (.ref bs), .val (.long q), .second, .unset, .unset] [(.int (0 : Int32))])) (fun t_ k_ => XS.iconst X0.here hx rfl (hb hby d3_0) k_) ?_
  refine Go.st (T' := s₁) (g' := (mkF m 2 #[.val (.ref bs), .val (.long q), .second, .val (.int (0 : Int32)), .unset] [])) (fun t_ k_ => XS.istoreN X0.here hx rfl (hb hby d3_1) rfl (l' := #[.val (.ref bs), .val (.long q), .second, .val (.int (0 : Int32)), .unset]) rfl k_) ?_
  refine Go.st (T' := s₁) (g' := (mkF m 3 #[.val (.ref bs), .val (.long q), .second, .val (.int (0 : Int32)), .unset] [(.ref bs)])) (fun t_ k_ => XS.aloadN X0.here hx rfl (hb hby d3_2) rfl rfl k_) ?_
  refine goLen X0 hx hZ g0 (hb hby d3_3) ?_
  show Go p e below _ s₁ (mkF m 4 #[.val (.ref bs), .val (.long q), .second, .val (.int (0 : Int32)), .unset] [(.int (n).toInt32)])
  refine Go.st (T' := s₁) (g' := (mkF m 6 #[.val (.ref bs), .val (.long q), .second, .val (.int (0 : Int32)), .val (.int (n).toInt32)] [])) (fun t_ k_ => XS.istore X0.here hx rfl (hb hby d3_4) rfl (l' := #[.val (.ref bs), .val (.long q), .second, .val (.int (0 : Int32)), .val (.int (n).toInt32)]) rfl k_) ?_
  have J6 : ∀ (k_J6 : Nat) (i3 : Int32) (fa : Nat → Int64) (T_J6 : State) (h_J6 : Heap), (n - i3.toNatClampNeg) = k_J6 → Stn p l e ({ frames := 0, cells := 0, slots := 0, locals := 0 } : Room) s m #[(.ref bs), (.long q)] below meth c n0 T_J6 h_J6 0 0 → n0 ≤ h_J6.size → Keep h0 h_J6 [bs] → Ary Z h_J6 bs .long n (fun i => .long (fa i)) → n0 ≤ bs → (¬ i3 < 0) → (i3.toNatClampNeg ≤ n) → Go p e below (PostW s n0 (0 : Nat) (0 : Nat) (Q3 Z n0 h0 bs q n f)) T_J6 (mkF m 6 #[.val (.ref bs), .val (.long q), .second, .val (.int i3), .val (.int (n).toInt32)] []) := by
    intro k_J6
    induction k_J6 using Nat.strongRecOn with
    | _ k_J6 ih_J6 =>
      intro i3 fa T_J6 h_J6 hk_J6 X_J6 sz_J6 K_J6 g0_J6 g1_J6 hi hle
      refine Go.st (T' := T_J6) (g' := (mkF m 7 #[.val (.ref bs), .val (.long q), .second, .val (.int i3), .val (.int (n).toInt32)] [(.int i3)])) (fun t_ k_ => XS.iloadN X_J6.here hx rfl (hb hby d3_6) rfl k_) ?_
      refine Go.st (T' := T_J6) (g' := (mkF m 9 #[.val (.ref bs), .val (.long q), .second, .val (.int i3), .val (.int (n).toInt32)] [(.int (n).toInt32), (.int i3)])) (fun t_ k_ => XS.iload X_J6.here hx rfl (hb hby d3_7) rfl k_) ?_
      by_cases hc9 : i3 < (n).toInt32
      · skip
        refine Go.st (T' := T_J6) (g' := (mkF m 12 #[.val (.ref bs), .val (.long q), .second, .val (.int i3), .val (.int (n).toInt32)] [])) (fun t_ k_ => XS.icmpNo X_J6.here hx rfl (hb hby d3_9) rfl (tlt hc9).2.1 k_) ?_
        refine Go.st (T' := T_J6) (g' := (mkF m 13 #[.val (.ref bs), .val (.long q), .second, .val (.int i3), .val (.int (n).toInt32)] [(.ref bs)])) (fun t_ k_ => XS.aloadN X_J6.here hx rfl (hb hby d3_12) rfl rfl k_) ?_
        refine Go.st (T' := T_J6) (g' := (mkF m 14 #[.val (.ref bs), .val (.long q), .second, .val (.int i3), .val (.int (n).toInt32)] [(.int i3), (.ref bs)])) (fun t_ k_ => XS.iloadN X_J6.here hx rfl (hb hby d3_13) rfl k_) ?_
        refine Go.st (T' := T_J6) (g' := (mkF m 15 #[.val (.ref bs), .val (.long q), .second, .val (.int i3), .val (.int (n).toInt32)] [(.long q), (.int i3), (.ref bs)])) (fun t_ k_ => XS.lloadN X_J6.here hx rfl (hb hby d3_14) rfl k_) ?_
        refine goStJ X_J6 hx hZ (f := (fun i => (fa i))) g0_J6 (j := i3) (own_inb hi (own_ltn hn hi hc9)) g1_J6 (hb hby d3_15) fun T1 h1 X1 W1 A1 => ?_
        have sz1 : n0 ≤ h1.size := Nat.le_trans sz_J6 (Keep.of_wr W1).1
        have K1 : Keep h0 h1 [bs] := K_J6.wr W1 (Or.inl (List.mem_of_getElem? (i := 0) rfl))
        show Go p e below _ T1 (mkF m 16 #[.val (.ref bs), .val (.long q), .second, .val (.int i3), .val (.int (n).toInt32)] [])
        refine Go.st (T' := T1) (g' := (mkF m 19 #[.val (.ref bs), .val (.long q), .second, .val (.int (i3 + (1 : Int32))), .val (.int (n).toInt32)] [])) (fun t_ k_ => XS.iinc X1.here hx rfl (hb hby d3_16) rfl (l' := #[.val (.ref bs), .val (.long q), .second, .val (.int (i3 + (1 : Int32))), .val (.int (n).toInt32)]) rfl k_) ?_
        refine Go.st (T' := T1) (g' := (mkF m 6 #[.val (.ref bs), .val (.long q), .second, .val (.int (i3 + (1 : Int32))), .val (.int (n).toInt32)] [])) (fun t_ k_ => XS.goto X1.here hx rfl (pc0 := 19) (pc' := 6) rfl (hb hby d3_19) (by decide) (by decide) k_) ?_
        exact ih_J6 _ (by have z := own_ltn hn hi hc9; have y := (own_succ hn hi z).2; omega) (i3 + (1 : Int32)) (fun i => (if i = (i3).toNatClampNeg then q else (fun i => (fa i)) i)) T1 h1 rfl (X1.mono (by decide) (by decide)) sz1 K1 A1 g1_J6 ((own_succ hn hi (own_ltn hn hi hc9)).1) (by have z := own_ltn hn hi hc9; have y := (own_succ hn hi z).2; omega)
      · skip
        refine Go.st (T' := T_J6) (g' := (mkF m 22 #[.val (.ref bs), .val (.long q), .second, .val (.int i3), .val (.int (n).toInt32)] [])) (fun t_ k_ => XS.icmpYes X_J6.here hx rfl (pc0 := 9) (pc' := 22) rfl (hb hby d3_9) rfl (flt hc9).2.1 (by decide) (by decide) k_) ?_
        refine goRetV X_J6 hx hlk hret (hb hby d3_22) (by decide) (by decide) ?_
        refine ⟨fa, rfl, K_J6, g0_J6⟩
  exact J6 _ (0 : Int32) f s₁ h0 rfl (X0.mono (by decide) (by decide)) sz0 K0 g0 g1 (by decide) (Nat.zero_le _)
theorem d13_0 : decode prog_27_method_4_code 0 = .ok (.lload_n 0, 1) := by decide +kernel
theorem d13_1 : decode prog_27_method_4_code 1 = .ok (.iconst 1, 1) := by decide +kernel
theorem d13_2 : decode prog_27_method_4_code 2 = .ok (.lshr, 1) := by decide +kernel
theorem d13_3 : decode prog_27_method_4_code 3 = .ok (.lreturn, 1) := by decide +kernel
theorem pn_13 : plainFor (⟨"com/example/utu/utu/check/Zone", "constant", "(J)J"⟩ : MethodName) = true := plainFor_of_name (by first | (simp [plainName, overriddenIn]; done) | decide +kernel)
theorem ef_rm13 (m : MethodId) (x0 : Int64) : entryFrame m #[(.long x0)] 2 = mkF m 0 #[.val (.long x0), .second] [] := by first | (simp [entryFrame, mkF, argsToLocals, Value.category]; done) | rfl
def Q13 (Z : State) (n0 : Nat) (h0 : Heap) (q : Int64) (v : Option Value) (h : Heap) : Prop := ∃ (r : Int64), v = some (.long r) ∧ h = h0
set_option maxRecDepth 65536 in
set_option maxHeartbeats 40000000 in
theorem rm13 (l : Launch) (Z : State) (a0 : Array Value) (hw : ∀ d ∈ tables_1, d.before a0 Z = true) (ws : List Jvm.Cond) (n0 : Nat) (h0 : Heap) (q : Int64) (sz0 : n0 ≤ h0.size) :
    Con l (⟨"com/example/utu/utu/check/Zone", "constant", "(J)J"⟩ : MethodName) prog_27_method_4_code 2 (some .long) ({ frames := 0, cells := 0, slots := 0, locals := 0 } : Room) ws Z n0 #[(.long q)] h0 (Q13 Z n0 h0 q) := by
  refine Con.body pn_13 ?_
  intro p e s m below meth c s₁ hx hby hml hown hnm hret hlk hZ X0
  have hown : s.vm.findClass "com/example/utu/utu/check/Zone" = some m.cls := hown
  have hnm : meth.name = "constant" := hnm
  rw [show entryFrame m #[(.long q)] 2 = mkF m 0 #[.val (.long q), .second] [] from ef_rm13 m q]
  show Go p e below (PostW s n0 (0 : Nat) (0 : Nat) (Q13 Z n0 h0 q)) s₁ (mkF m 0 #[.val (.long q), .second] [])
  refine Go.st (T' := s₁) (g' := (mkF m 1 #[.val (.long q), .second] [(.long q)])) (fun t_ k_ => XS.lloadN X0.here hx rfl (hb hby d13_0) rfl k_) ?_
  refine Go.st (T' := s₁) (g' := (mkF m 2 #[.val (.long q), .second] [(.int (1 : Int32)), (.long q)])) (fun t_ k_ => XS.iconst X0.here hx rfl (hb hby d13_1) k_) ?_
  refine Go.st (T' := s₁) (g' := (mkF m 3 #[.val (.long q), .second] [(.long (q >>> ((1 : Int32) &&& 0x3f).toInt64))])) (fun t_ k_ => XS.lshr X0.here hx rfl (hb hby d13_2) rfl k_) ?_
  refine goRetL X0 hx hlk hret (hb hby d13_3) (by decide) (by decide) ?_
  refine ⟨(q >>> ((1 : Int32) &&& 0x3f).toInt64), rfl, rfl⟩
theorem d12_0 : decode prog_27_method_6_code 0 = .ok (.lload_n 0, 1) := by decide +kernel
theorem d12_1 : decode prog_27_method_6_code 1 = .ok (.ldc2_w 30, 3) := by decide +kernel
theorem d12_4 : decode prog_27_method_6_code 4 = .ok (.lcmp, 1) := by decide +kernel
theorem d12_5 : decode prog_27_method_6_code 5 = .ok (.ifCond .eq 11, 3) := by decide +kernel
theorem d12_8 : decode prog_27_method_6_code 8 = .ok (.lload_n 2, 1) := by decide +kernel
theorem d12_9 : decode prog_27_method_6_code 9 = .ok (.ldc2_w 30, 3) := by decide +kernel
theorem d12_12 : decode prog_27_method_6_code 12 = .ok (.lcmp, 1) := by decide +kernel
theorem d12_13 : decode prog_27_method_6_code 13 = .ok (.ifCond .ne 7, 3) := by decide +kernel
theorem d12_16 : decode prog_27_method_6_code 16 = .ok (.ldc2_w 30, 3) := by decide +kernel
theorem d12_19 : decode prog_27_method_6_code 19 = .ok (.lreturn, 1) := by decide +kernel
theorem d12_20 : decode prog_27_method_6_code 20 = .ok (.lload_n 0, 1) := by decide +kernel
theorem d12_21 : decode prog_27_method_6_code 21 = .ok (.invokestatic 32, 3) := by decide +kernel
theorem d12_24 : decode prog_27_method_6_code 24 = .ok (.lload_n 2, 1) := by decide +kernel
theorem d12_25 : decode prog_27_method_6_code 25 = .ok (.invokestatic 32, 3) := by decide +kernel
theorem d12_28 : decode prog_27_method_6_code 28 = .ok (.ladd, 1) := by decide +kernel
theorem d12_29 : decode prog_27_method_6_code 29 = .ok (.iconst 1, 1) := by decide +kernel
theorem d12_30 : decode prog_27_method_6_code 30 = .ok (.lshl, 1) := by decide +kernel
theorem d12_31 : decode prog_27_method_6_code 31 = .ok (.lload_n 0, 1) := by decide +kernel
theorem d12_32 : decode prog_27_method_6_code 32 = .ok (.lload_n 2, 1) := by decide +kernel
theorem d12_33 : decode prog_27_method_6_code 33 = .ok (.land, 1) := by decide +kernel
theorem d12_34 : decode prog_27_method_6_code 34 = .ok (.lconst 1, 1) := by decide +kernel
theorem d12_35 : decode prog_27_method_6_code 35 = .ok (.land, 1) := by decide +kernel
theorem d12_36 : decode prog_27_method_6_code 36 = .ok (.lor, 1) := by decide +kernel
theorem d12_37 : decode prog_27_method_6_code 37 = .ok (.lreturn, 1) := by decide +kernel
theorem pn_12 : plainFor (⟨"com/example/utu/utu/check/Zone", "add", "(JJ)J"⟩ : MethodName) = true := plainFor_of_name (by first | (simp [plainName, overriddenIn]; done) | decide +kernel)
theorem pd_eb8067be : parseMethodDescriptor "(J)J" = some ⟨[.long], some .long⟩ := by decide +kernel
theorem ef_rm12 (m : MethodId) (x0 : Int64) (x1 : Int64) : entryFrame m #[(.long x0), (.long x1)] 4 = mkF m 0 #[.val (.long x0), .second, .val (.long x1), .second] [] := by first | (simp [entryFrame, mkF, argsToLocals, Value.category]; done) | rfl
def Q12 (Z : State) (n0 : Nat) (h0 : Heap) (q : Int64) (q2 : Int64) (v : Option Value) (h : Heap) : Prop := ∃ (r : Int64), v = some (.long r) ∧ h = h0
set_option maxRecDepth 65536 in
set_option maxHeartbeats 40000000 in
theorem rm12 (l : Launch) (Z : State) (a0 : Array Value) (hw : ∀ d ∈ tables_1, d.before a0 Z = true) (ws : List Jvm.Cond) (n0 : Nat) (h0 : Heap) (q : Int64) (q2 : Int64) (sz0 : n0 ≤ h0.size) :
    Con l (⟨"com/example/utu/utu/check/Zone", "add", "(JJ)J"⟩ : MethodName) prog_27_method_6_code 4 (some .long) ({ frames := 1, cells := 0, slots := 0, locals := 16 } : Room) ws Z n0 #[(.long q), (.long q2)] h0 (Q12 Z n0 h0 q q2) := by
  refine Con.body pn_12 ?_
  intro p e s m below meth c s₁ hx hby hml hown hnm hret hlk hZ X0
  have hown : s.vm.findClass "com/example/utu/utu/check/Zone" = some m.cls := hown
  have hnm : meth.name = "add" := hnm
  rw [show entryFrame m #[(.long q), (.long q2)] 4 = mkF m 0 #[.val (.long q), .second, .val (.long q2), .second] [] from ef_rm12 m q q2]
  show Go p e below (PostW s n0 (0 : Nat) (0 : Nat) (Q12 Z n0 h0 q q2)) s₁ (mkF m 0 #[.val (.long q), .second, .val (.long q2), .second] [])
  refine Go.st (T' := s₁) (g' := (mkF m 1 #[.val (.long q), .second, .val (.long q2), .second] [(.long q)])) (fun t_ k_ => XS.lloadN X0.here hx rfl (hb hby d12_0) rfl k_) ?_
  refine Go.st (T' := s₁) (g' := (mkF m 4 #[.val (.long q), .second, .val (.long q2), .second] [(.long (9223372036854775807 : Int64)), (.long q)])) (fun t_ k_ => Stn.ldcJ X0 hx hZ hown (hw _ (List.mem_of_getElem? (i := 63) rfl)) (hb hby d12_1) k_) ?_
  refine Go.st (T' := s₁) (g' := (mkF m 5 #[.val (.long q), .second, .val (.long q2), .second] [(.int (lcmpW q (9223372036854775807 : Int64)))])) (fun t_ k_ => XS.lcmp X0.here hx rfl (hb hby d12_4) rfl k_) ?_
  by_cases hc5 : q = (9223372036854775807 : Int64)
  · skip
    refine Go.st (T' := s₁) (g' := (mkF m 16 #[.val (.long q), .second, .val (.long q2), .second] [])) (fun t_ k_ => XS.ifYes X0.here hx rfl (pc0 := 5) (pc' := 16) rfl (hb hby d12_5) rfl (lcTeq hc5).1 (by decide) (by decide) k_) ?_
    refine Go.st (T' := s₁) (g' := (mkF m 19 #[.val (.long q), .second, .val (.long q2), .second] [(.long (9223372036854775807 : Int64))])) (fun t_ k_ => Stn.ldcJ X0 hx hZ hown (hw _ (List.mem_of_getElem? (i := 63) rfl)) (hb hby d12_16) k_) ?_
    refine goRetL X0 hx hlk hret (hb hby d12_19) (by decide) (by decide) ?_
    refine ⟨(9223372036854775807 : Int64), rfl, rfl⟩
  · skip
    refine Go.st (T' := s₁) (g' := (mkF m 8 #[.val (.long q), .second, .val (.long q2), .second] [])) (fun t_ k_ => XS.ifNo X0.here hx rfl (hb hby d12_5) rfl (lcFeq hc5).1 k_) ?_
    refine Go.st (T' := s₁) (g' := (mkF m 9 #[.val (.long q), .second, .val (.long q2), .second] [(.long q2)])) (fun t_ k_ => XS.lloadN X0.here hx rfl (hb hby d12_8) rfl k_) ?_
    refine Go.st (T' := s₁) (g' := (mkF m 12 #[.val (.long q), .second, .val (.long q2), .second] [(.long (9223372036854775807 : Int64)), (.long q2)])) (fun t_ k_ => Stn.ldcJ X0 hx hZ hown (hw _ (List.mem_of_getElem? (i := 63) rfl)) (hb hby d12_9) k_) ?_
    refine Go.st (T' := s₁) (g' := (mkF m 13 #[.val (.long q), .second, .val (.long q2), .second] [(.int (lcmpW q2 (9223372036854775807 : Int64)))])) (fun t_ k_ => XS.lcmp X0.here hx rfl (hb hby d12_12) rfl k_) ?_
    by_cases hc13 : q2 = (9223372036854775807 : Int64)
    · skip
      refine Go.st (T' := s₁) (g' := (mkF m 16 #[.val (.long q), .second, .val (.long q2), .second] [])) (fun t_ k_ => XS.ifNo X0.here hx rfl (hb hby d12_13) rfl (lcTeq hc13).2 k_) ?_
      refine Go.st (T' := s₁) (g' := (mkF m 19 #[.val (.long q), .second, .val (.long q2), .second] [(.long (9223372036854775807 : Int64))])) (fun t_ k_ => Stn.ldcJ X0 hx hZ hown (hw _ (List.mem_of_getElem? (i := 63) rfl)) (hb hby d12_16) k_) ?_
      refine goRetL X0 hx hlk hret (hb hby d12_19) (by decide) (by decide) ?_
      refine ⟨(9223372036854775807 : Int64), rfl, rfl⟩
    · skip
      refine Go.st (T' := s₁) (g' := (mkF m 20 #[.val (.long q), .second, .val (.long q2), .second] [])) (fun t_ k_ => XS.ifYes X0.here hx rfl (pc0 := 13) (pc' := 20) rfl (hb hby d12_13) rfl (lcFeq hc13).2 (by decide) (by decide) k_) ?_
      refine Go.st (T' := s₁) (g' := (mkF m 21 #[.val (.long q), .second, .val (.long q2), .second] [(.long q)])) (fun t_ k_ => XS.lloadN X0.here hx rfl (hb hby d12_20) rfl k_) ?_
      refine goStatic X0 hx hZ (y := (⟨"com/example/utu/utu/check/Zone", "constant", "(J)J"⟩ : MethodName)) hown (hw _ (List.mem_of_getElem? (i := 64) rfl)) (hw _ (List.mem_of_getElem? (i := 65) rfl)) (hw _ (List.mem_of_getElem? (i := 2) rfl)) (hw _ (List.mem_of_getElem? (i := 66) rfl)) (by decide) (rm13 l Z a0 hw [] n0 h0 q sz0) 0 (by decide) (by decide) (by rw [hml]; rfl) [(.long q)] [] (lenOf pd_eb8067be rfl) rfl rfl rfl (hb hby d12_21) (by decide) (by decide) fun v1 T1 h1 X1 hq1 => ?_
      obtain ⟨r_1, rfl, eh1⟩ := hq1
      rw [eh1] at X1
      show Go p e below _ T1 (mkF m 24 #[.val (.long q), .second, .val (.long q2), .second] [(.long r_1)])
      refine Go.st (T' := T1) (g' := (mkF m 25 #[.val (.long q), .second, .val (.long q2), .second] [(.long q2), (.long r_1)])) (fun t_ k_ => XS.lloadN X1.here hx rfl (hb hby d12_24) rfl k_) ?_
      refine goStatic X1 hx hZ (y := (⟨"com/example/utu/utu/check/Zone", "constant", "(J)J"⟩ : MethodName)) hown (hw _ (List.mem_of_getElem? (i := 64) rfl)) (hw _ (List.mem_of_getElem? (i := 65) rfl)) (hw _ (List.mem_of_getElem? (i := 2) rfl)) (hw _ (List.mem_of_getElem? (i := 66) rfl)) (by decide) (rm13 l Z a0 hw [] n0 h0 q2 sz0) 2 (by decide) (by decide) (by rw [hml]; rfl) [(.long q2)] [(.long r_1)] (lenOf pd_eb8067be rfl) rfl rfl rfl (hb hby d12_25) (by decide) (by decide) fun v2 T2 h2 X2 hq2 => ?_
      obtain ⟨r_2, rfl, eh2⟩ := hq2
      rw [eh2] at X2
      show Go p e below _ T2 (mkF m 28 #[.val (.long q), .second, .val (.long q2), .second] [(.long r_2), (.long r_1)])
      refine Go.st (T' := T2) (g' := (mkF m 29 #[.val (.long q), .second, .val (.long q2), .second] [(.long (r_1 + r_2))])) (fun t_ k_ => XS.ladd X2.here hx rfl (hb hby d12_28) rfl k_) ?_
      refine Go.st (T' := T2) (g' := (mkF m 30 #[.val (.long q), .second, .val (.long q2), .second] [(.int (1 : Int32)), (.long (r_1 + r_2))])) (fun t_ k_ => XS.iconst X2.here hx rfl (hb hby d12_29) k_) ?_
      refine Go.st (T' := T2) (g' := (mkF m 31 #[.val (.long q), .second, .val (.long q2), .second] [(.long ((r_1 + r_2) <<< ((1 : Int32) &&& 0x3f).toInt64))])) (fun t_ k_ => XS.lshl X2.here hx rfl (hb hby d12_30) rfl k_) ?_
      refine Go.st (T' := T2) (g' := (mkF m 32 #[.val (.long q), .second, .val (.long q2), .second] [(.long q), (.long ((r_1 + r_2) <<< ((1 : Int32) &&& 0x3f).toInt64))])) (fun t_ k_ => XS.lloadN X2.here hx rfl (hb hby d12_31) rfl k_) ?_
      refine Go.st (T' := T2) (g' := (mkF m 33 #[.val (.long q), .second, .val (.long q2), .second] [(.long q2), (.long q), (.long ((r_1 + r_2) <<< ((1 : Int32) &&& 0x3f).toInt64))])) (fun t_ k_ => XS.lloadN X2.here hx rfl (hb hby d12_32) rfl k_) ?_
      refine Go.st (T' := T2) (g' := (mkF m 34 #[.val (.long q), .second, .val (.long q2), .second] [(.long (q &&& q2)), (.long ((r_1 + r_2) <<< ((1 : Int32) &&& 0x3f).toInt64))])) (fun t_ k_ => XS.land X2.here hx rfl (hb hby d12_33) rfl k_) ?_
      refine Go.st (T' := T2) (g' := (mkF m 35 #[.val (.long q), .second, .val (.long q2), .second] [(.long (1 : Int64)), (.long (q &&& q2)), (.long ((r_1 + r_2) <<< ((1 : Int32) &&& 0x3f).toInt64))])) (fun t_ k_ => XS.lconst X2.here hx rfl (hb hby d12_34) k_) ?_
      refine Go.st (T' := T2) (g' := (mkF m 36 #[.val (.long q), .second, .val (.long q2), .second] [(.long ((q &&& q2) &&& (1 : Int64))), (.long ((r_1 + r_2) <<< ((1 : Int32) &&& 0x3f).toInt64))])) (fun t_ k_ => XS.land X2.here hx rfl (hb hby d12_35) rfl k_) ?_
      refine Go.st (T' := T2) (g' := (mkF m 37 #[.val (.long q), .second, .val (.long q2), .second] [(.long (((r_1 + r_2) <<< ((1 : Int32) &&& 0x3f).toInt64) ||| ((q &&& q2) &&& (1 : Int64))))])) (fun t_ k_ => XS.lor X2.here hx rfl (hb hby d12_36) rfl k_) ?_
      refine goRetL X2 hx hlk hret (hb hby d12_37) (by decide) (by decide) ?_
      refine ⟨(((r_1 + r_2) <<< ((1 : Int32) &&& 0x3f).toInt64) ||| ((q &&& q2) &&& (1 : Int64))), rfl, rfl⟩
theorem d4_0 : decode prog_27_method_3_code 0 = .ok (.lload_n 0, 1) := by decide +kernel
theorem d4_1 : decode prog_27_method_3_code 1 = .ok (.iconst 1, 1) := by decide +kernel
theorem d4_2 : decode prog_27_method_3_code 2 = .ok (.lshl, 1) := by decide +kernel
theorem d4_3 : decode prog_27_method_3_code 3 = .ok (.iload_n 2, 1) := by decide +kernel
theorem d4_4 : decode prog_27_method_3_code 4 = .ok (.ifCond .eq 7, 3) := by decide +kernel
theorem d4_7 : decode prog_27_method_3_code 7 = .ok (.iconst 0, 1) := by decide +kernel
theorem d4_8 : decode prog_27_method_3_code 8 = .ok (.goto 4, 3) := by decide +kernel
theorem d4_11 : decode prog_27_method_3_code 11 = .ok (.iconst 1, 1) := by decide +kernel
theorem d4_12 : decode prog_27_method_3_code 12 = .ok (.i2l, 1) := by decide +kernel
theorem d4_13 : decode prog_27_method_3_code 13 = .ok (.lor, 1) := by decide +kernel
theorem d4_14 : decode prog_27_method_3_code 14 = .ok (.lreturn, 1) := by decide +kernel
theorem pn_4 : plainFor (⟨"com/example/utu/utu/check/Zone", "bound", "(JZ)J"⟩ : MethodName) = true := plainFor_of_name (by first | (simp [plainName, overriddenIn]; done) | decide +kernel)
theorem ef_rm4 (m : MethodId) (x0 : Int64) (x1 : Int32) : entryFrame m #[(.long x0), (.int x1)] 3 = mkF m 0 #[.val (.long x0), .second, .val (.int x1)] [] := by first | (simp [entryFrame, mkF, argsToLocals, Value.category]; done) | rfl
def Q4 (Z : State) (n0 : Nat) (h0 : Heap) (q : Int64) (z : Int32) (v : Option Value) (h : Heap) : Prop := ∃ (r : Int64), v = some (.long r) ∧ h = h0
set_option maxRecDepth 65536 in
set_option maxHeartbeats 40000000 in
theorem rm4 (l : Launch) (Z : State) (a0 : Array Value) (hw : ∀ d ∈ tables_1, d.before a0 Z = true) (ws : List Jvm.Cond) (n0 : Nat) (h0 : Heap) (q : Int64) (z : Int32) (sz0 : n0 ≤ h0.size) :
    Con l (⟨"com/example/utu/utu/check/Zone", "bound", "(JZ)J"⟩ : MethodName) prog_27_method_3_code 3 (some .long) ({ frames := 0, cells := 0, slots := 0, locals := 0 } : Room) ws Z n0 #[(.long q), (.int z)] h0 (Q4 Z n0 h0 q z) := by
  refine Con.body pn_4 ?_
  intro p e s m below meth c s₁ hx hby hml hown hnm hret hlk hZ X0
  have hown : s.vm.findClass "com/example/utu/utu/check/Zone" = some m.cls := hown
  have hnm : meth.name = "bound" := hnm
  rw [show entryFrame m #[(.long q), (.int z)] 3 = mkF m 0 #[.val (.long q), .second, .val (.int z)] [] from ef_rm4 m q z]
  show Go p e below (PostW s n0 (0 : Nat) (0 : Nat) (Q4 Z n0 h0 q z)) s₁ (mkF m 0 #[.val (.long q), .second, .val (.int z)] [])
  refine Go.st (T' := s₁) (g' := (mkF m 1 #[.val (.long q), .second, .val (.int z)] [(.long q)])) (fun t_ k_ => XS.lloadN X0.here hx rfl (hb hby d4_0) rfl k_) ?_
  refine Go.st (T' := s₁) (g' := (mkF m 2 #[.val (.long q), .second, .val (.int z)] [(.int (1 : Int32)), (.long q)])) (fun t_ k_ => XS.iconst X0.here hx rfl (hb hby d4_1) k_) ?_
  refine Go.st (T' := s₁) (g' := (mkF m 3 #[.val (.long q), .second, .val (.int z)] [(.long (q <<< ((1 : Int32) &&& 0x3f).toInt64))])) (fun t_ k_ => XS.lshl X0.here hx rfl (hb hby d4_2) rfl k_) ?_
  refine Go.st (T' := s₁) (g' := (mkF m 4 #[.val (.long q), .second, .val (.int z)] [(.int z), (.long (q <<< ((1 : Int32) &&& 0x3f).toInt64))])) (fun t_ k_ => XS.iloadN X0.here hx rfl (hb hby d4_3) rfl k_) ?_
  by_cases hc4 : z = (0 : Int32)
  · skip
    refine Go.st (T' := s₁) (g' := (mkF m 11 #[.val (.long q), .second, .val (.int z)] [(.long (q <<< ((1 : Int32) &&& 0x3f).toInt64))])) (fun t_ k_ => XS.ifYes X0.here hx rfl (pc0 := 4) (pc' := 11) rfl (hb hby d4_4) rfl ((if0 _ _).trans (teq hc4).1) (by decide) (by decide) k_) ?_
    refine Go.st (T' := s₁) (g' := (mkF m 12 #[.val (.long q), .second, .val (.int z)] [(.int (1 : Int32)), (.long (q <<< ((1 : Int32) &&& 0x3f).toInt64))])) (fun t_ k_ => XS.iconst X0.here hx rfl (hb hby d4_11) k_) ?_
    refine Go.st (T' := s₁) (g' := (mkF m 13 #[.val (.long q), .second, .val (.int z)] [(.long ((1 : Int32).toInt64)), (.long (q <<< ((1 : Int32) &&& 0x3f).toInt64))])) (fun t_ k_ => XS.i2l X0.here hx rfl (hb hby d4_12) rfl k_) ?_
    refine Go.st (T' := s₁) (g' := (mkF m 14 #[.val (.long q), .second, .val (.int z)] [(.long ((q <<< ((1 : Int32) &&& 0x3f).toInt64) ||| ((1 : Int32).toInt64)))])) (fun t_ k_ => XS.lor X0.here hx rfl (hb hby d4_13) rfl k_) ?_
    refine goRetL X0 hx hlk hret (hb hby d4_14) (by decide) (by decide) ?_
    refine ⟨((q <<< ((1 : Int32) &&& 0x3f).toInt64) ||| ((1 : Int32).toInt64)), rfl, rfl⟩
  · skip
    refine Go.st (T' := s₁) (g' := (mkF m 7 #[.val (.long q), .second, .val (.int z)] [(.long (q <<< ((1 : Int32) &&& 0x3f).toInt64))])) (fun t_ k_ => XS.ifNo X0.here hx rfl (hb hby d4_4) rfl ((if0 _ _).trans (feq hc4).1) k_) ?_
    refine Go.st (T' := s₁) (g' := (mkF m 8 #[.val (.long q), .second, .val (.int z)] [(.int (0 : Int32)), (.long (q <<< ((1 : Int32) &&& 0x3f).toInt64))])) (fun t_ k_ => XS.iconst X0.here hx rfl (hb hby d4_7) k_) ?_
    refine Go.st (T' := s₁) (g' := (mkF m 12 #[.val (.long q), .second, .val (.int z)] [(.int (0 : Int32)), (.long (q <<< ((1 : Int32) &&& 0x3f).toInt64))])) (fun t_ k_ => XS.goto X0.here hx rfl (pc0 := 8) (pc' := 12) rfl (hb hby d4_8) (by decide) (by decide) k_) ?_
    refine Go.st (T' := s₁) (g' := (mkF m 13 #[.val (.long q), .second, .val (.int z)] [(.long ((0 : Int32).toInt64)), (.long (q <<< ((1 : Int32) &&& 0x3f).toInt64))])) (fun t_ k_ => XS.i2l X0.here hx rfl (hb hby d4_12) rfl k_) ?_
    refine Go.st (T' := s₁) (g' := (mkF m 14 #[.val (.long q), .second, .val (.int z)] [(.long ((q <<< ((1 : Int32) &&& 0x3f).toInt64) ||| ((0 : Int32).toInt64)))])) (fun t_ k_ => XS.lor X0.here hx rfl (hb hby d4_13) rfl k_) ?_
    refine goRetL X0 hx hlk hret (hb hby d4_14) (by decide) (by decide) ?_
    refine ⟨((q <<< ((1 : Int32) &&& 0x3f).toInt64) ||| ((0 : Int32).toInt64)), rfl, rfl⟩
theorem d7_0 : decode prog_27_method_12_code 0 = .ok (.aload_n 0, 1) := by decide +kernel
theorem d7_1 : decode prog_27_method_12_code 1 = .ok (.getfield 15, 3) := by decide +kernel
theorem d7_4 : decode prog_27_method_12_code 4 = .ok (.iload_n 1, 1) := by decide +kernel
theorem d7_5 : decode prog_27_method_12_code 5 = .ok (.aload_n 0, 1) := by decide +kernel
theorem d7_6 : decode prog_27_method_12_code 6 = .ok (.getfield 9, 3) := by decide +kernel
theorem d7_9 : decode prog_27_method_12_code 9 = .ok (.imul, 1) := by decide +kernel
theorem d7_10 : decode prog_27_method_12_code 10 = .ok (.iload_n 2, 1) := by decide +kernel
theorem d7_11 : decode prog_27_method_12_code 11 = .ok (.iadd, 1) := by decide +kernel
theorem d7_12 : decode prog_27_method_12_code 12 = .ok (.laload, 1) := by decide +kernel
theorem d7_13 : decode prog_27_method_12_code 13 = .ok (.lreturn, 1) := by decide +kernel
theorem pn_7 : plainFor (⟨"com/example/utu/utu/check/Zone", "get", "(II)J"⟩ : MethodName) = true := plainFor_of_name (by first | (simp [plainName, overriddenIn]; done) | decide +kernel)
theorem ef_rm7 (m : MethodId) (x0 : Addr) (x1 : Int32) (x2 : Int32) : entryFrame m #[(.ref x0), (.int x1), (.int x2)] 3 = mkF m 0 #[.val (.ref x0), .val (.int x1), .val (.int x2)] [] := by first | (simp [entryFrame, mkF, argsToLocals, Value.category]; done) | rfl
def Q7 (Z : State) (n0 : Nat) (h0 : Heap) (a : Addr) (ix : Int32) (jx : Int32) (dm : Int32) (bs : Addr) (n : Nat) (f : Nat → Int64) (v : Option Value) (h : Heap) : Prop := ∃ (r : Int64), v = some (.long r) ∧ h = h0
set_option maxRecDepth 65536 in
set_option maxHeartbeats 40000000 in
theorem rm7 (l : Launch) (Z : State) (a0 : Array Value) (hw : ∀ d ∈ tables_1, d.before a0 Z = true) (ws : List Jvm.Cond) (n0 : Nat) (h0 : Heap) (a : Addr) (ix : Int32) (jx : Int32) (dm : Int32) (bs : Addr) (n : Nat) (f : Nat → Int64) (sz0 : n0 ≤ h0.size) (g0 : Fld Z h0 a "com/example/utu/utu/check/Zone" "dimension" "I" (.int dm)) (g1 : Fld Z h0 a "com/example/utu/utu/check/Zone" "bounds" "[J" (.ref bs)) (g2 : Ary Z h0 bs .long n (fun i => .long (f i))) (hD : own_dim dm n) (hi : own_rg ix dm) (hj : own_rg jx dm) :
    Con l (⟨"com/example/utu/utu/check/Zone", "get", "(II)J"⟩ : MethodName) prog_27_method_12_code 3 (some .long) ({ frames := 0, cells := 0, slots := 0, locals := 0 } : Room) ws Z n0 #[(.ref a), (.int ix), (.int jx)] h0 (Q7 Z n0 h0 a ix jx dm bs n f) := by
  refine Con.body pn_7 ?_
  intro p e s m below meth c s₁ hx hby hml hown hnm hret hlk hZ X0
  have hown : s.vm.findClass "com/example/utu/utu/check/Zone" = some m.cls := hown
  have hnm : meth.name = "get" := hnm
  rw [show entryFrame m #[(.ref a), (.int ix), (.int jx)] 3 = mkF m 0 #[.val (.ref a), .val (.int ix), .val (.int jx)] [] from ef_rm7 m a ix jx]
  show Go p e below (PostW s n0 (0 : Nat) (0 : Nat) (Q7 Z n0 h0 a ix jx dm bs n f)) s₁ (mkF m 0 #[.val (.ref a), .val (.int ix), .val (.int jx)] [])
  refine Go.st (T' := s₁) (g' := (mkF m 1 #[.val (.ref a), .val (.int ix), .val (.int jx)] [(.ref a)])) (fun t_ k_ => XS.aloadN X0.here hx rfl (hb hby d7_0) rfl rfl k_) ?_
  refine goGet X0 hx hZ hown (host := "") (Or.inl (hw _ (List.mem_of_getElem? (i := 12) rfl))) Via.refl g1 (hb hby d7_1) fun T1 X1 => ?_
  show Go p e below _ T1 (mkF m 4 #[.val (.ref a), .val (.int ix), .val (.int jx)] [(.ref bs)])
  refine Go.st (T' := T1) (g' := (mkF m 5 #[.val (.ref a), .val (.int ix), .val (.int jx)] [(.int ix), (.ref bs)])) (fun t_ k_ => XS.iloadN X1.here hx rfl (hb hby d7_4) rfl k_) ?_
  refine Go.st (T' := T1) (g' := (mkF m 6 #[.val (.ref a), .val (.int ix), .val (.int jx)] [(.ref a), (.int ix), (.ref bs)])) (fun t_ k_ => XS.aloadN X1.here hx rfl (hb hby d7_5) rfl rfl k_) ?_
  refine goGet X1 hx hZ hown (host := "") (Or.inl (hw _ (List.mem_of_getElem? (i := 9) rfl))) Via.refl g0 (hb hby d7_6) fun T2 X2 => ?_
  show Go p e below _ T2 (mkF m 9 #[.val (.ref a), .val (.int ix), .val (.int jx)] [(.int dm), (.int ix), (.ref bs)])
  refine Go.st (T' := T2) (g' := (mkF m 10 #[.val (.ref a), .val (.int ix), .val (.int jx)] [(.int (ix * dm)), (.ref bs)])) (fun t_ k_ => XS.imul X2.here hx rfl (hb hby d7_9) rfl k_) ?_
  refine Go.st (T' := T2) (g' := (mkF m 11 #[.val (.ref a), .val (.int ix), .val (.int jx)] [(.int jx), (.int (ix * dm)), (.ref bs)])) (fun t_ k_ => XS.iloadN X2.here hx rfl (hb hby d7_10) rfl k_) ?_
  refine Go.st (T' := T2) (g' := (mkF m 12 #[.val (.ref a), .val (.int ix), .val (.int jx)] [(.int ((ix * dm) + jx)), (.ref bs)])) (fun t_ k_ => XS.iadd X2.here hx rfl (hb hby d7_11) rfl k_) ?_
  refine goLdJ X2 hx hZ (f := (fun i => (f i))) g2 (j := ((ix * dm) + jx)) (own_ix hD hi hj) (hb hby d7_12) ?_
  show Go p e below _ T2 (mkF m 13 #[.val (.ref a), .val (.int ix), .val (.int jx)] [(.long (f (((ix * dm) + jx)).toNatClampNeg))])
  refine goRetL X2 hx hlk hret (hb hby d7_13) (by decide) (by decide) ?_
  refine ⟨(f (((ix * dm) + jx)).toNatClampNeg), rfl, rfl⟩
theorem d6_0 : decode prog_27_method_13_code 0 = .ok (.aload_n 0, 1) := by decide +kernel
theorem d6_1 : decode prog_27_method_13_code 1 = .ok (.getfield 15, 3) := by decide +kernel
theorem d6_4 : decode prog_27_method_13_code 4 = .ok (.iconst 0, 1) := by decide +kernel
theorem d6_5 : decode prog_27_method_13_code 5 = .ok (.laload, 1) := by decide +kernel
theorem d6_6 : decode prog_27_method_13_code 6 = .ok (.lconst 1, 1) := by decide +kernel
theorem d6_7 : decode prog_27_method_13_code 7 = .ok (.lcmp, 1) := by decide +kernel
theorem d6_8 : decode prog_27_method_13_code 8 = .ok (.ifCond .ge 7, 3) := by decide +kernel
theorem d6_11 : decode prog_27_method_13_code 11 = .ok (.iconst 1, 1) := by decide +kernel
theorem d6_12 : decode prog_27_method_13_code 12 = .ok (.goto 4, 3) := by decide +kernel
theorem d6_15 : decode prog_27_method_13_code 15 = .ok (.iconst 0, 1) := by decide +kernel
theorem d6_16 : decode prog_27_method_13_code 16 = .ok (.ireturn, 1) := by decide +kernel
theorem pn_6 : plainFor (⟨"com/example/utu/utu/check/Zone", "isEmpty", "()Z"⟩ : MethodName) = true := plainFor_of_name (by first | (simp [plainName, overriddenIn]; done) | decide +kernel)
theorem ef_rm6 (m : MethodId) (x0 : Addr) : entryFrame m #[(.ref x0)] 1 = mkF m 0 #[.val (.ref x0)] [] := by first | (simp [entryFrame, mkF, argsToLocals, Value.category]; done) | rfl
def Q6 (Z : State) (n0 : Nat) (h0 : Heap) (a : Addr) (dm : Int32) (bs : Addr) (n : Nat) (f : Nat → Int64) (v : Option Value) (h : Heap) : Prop := ∃ (r : Int32), v = some (.int r) ∧ h = h0
set_option maxRecDepth 65536 in
set_option maxHeartbeats 40000000 in
theorem rm6 (l : Launch) (Z : State) (a0 : Array Value) (hw : ∀ d ∈ tables_1, d.before a0 Z = true) (ws : List Jvm.Cond) (n0 : Nat) (h0 : Heap) (a : Addr) (dm : Int32) (bs : Addr) (n : Nat) (f : Nat → Int64) (sz0 : n0 ≤ h0.size) (g0 : Fld Z h0 a "com/example/utu/utu/check/Zone" "dimension" "I" (.int dm)) (g1 : Fld Z h0 a "com/example/utu/utu/check/Zone" "bounds" "[J" (.ref bs)) (g2 : Ary Z h0 bs .long n (fun i => .long (f i))) (hD : own_dim dm n) :
    Con l (⟨"com/example/utu/utu/check/Zone", "isEmpty", "()Z"⟩ : MethodName) prog_27_method_13_code 1 (some .boolean) ({ frames := 0, cells := 0, slots := 0, locals := 0 } : Room) ws Z n0 #[(.ref a)] h0 (Q6 Z n0 h0 a dm bs n f) := by
  refine Con.body pn_6 ?_
  intro p e s m below meth c s₁ hx hby hml hown hnm hret hlk hZ X0
  have hown : s.vm.findClass "com/example/utu/utu/check/Zone" = some m.cls := hown
  have hnm : meth.name = "isEmpty" := hnm
  rw [show entryFrame m #[(.ref a)] 1 = mkF m 0 #[.val (.ref a)] [] from ef_rm6 m a]
  show Go p e below (PostW s n0 (0 : Nat) (0 : Nat) (Q6 Z n0 h0 a dm bs n f)) s₁ (mkF m 0 #[.val (.ref a)] [])
  refine Go.st (T' := s₁) (g' := (mkF m 1 #[.val (.ref a)] [(.ref a)])) (fun t_ k_ => XS.aloadN X0.here hx rfl (hb hby d6_0) rfl rfl k_) ?_
  refine goGet X0 hx hZ hown (host := "") (Or.inl (hw _ (List.mem_of_getElem? (i := 12) rfl))) Via.refl g1 (hb hby d6_1) fun T1 X1 => ?_
  show Go p e below _ T1 (mkF m 4 #[.val (.ref a)] [(.ref bs)])
  refine Go.st (T' := T1) (g' := (mkF m 5 #[.val (.ref a)] [(.int (0 : Int32)), (.ref bs)])) (fun t_ k_ => XS.iconst X1.here hx rfl (hb hby d6_4) k_) ?_
  refine goLdJ X1 hx hZ (f := (fun i => (f i))) g2 (j := (0 : Int32)) (by have z := own_dim_lt hD; exact own_inb (by decide) (by show 0 < n; omega)) (hb hby d6_5) ?_
  show Go p e below _ T1 (mkF m 6 #[.val (.ref a)] [(.long (f ((0 : Int32)).toNatClampNeg))])
  refine Go.st (T' := T1) (g' := (mkF m 7 #[.val (.ref a)] [(.long (1 : Int64)), (.long (f ((0 : Int32)).toNatClampNeg))])) (fun t_ k_ => XS.lconst X1.here hx rfl (hb hby d6_6) k_) ?_
  refine Go.st (T' := T1) (g' := (mkF m 8 #[.val (.ref a)] [(.int (lcmpW (f ((0 : Int32)).toNatClampNeg) (1 : Int64)))])) (fun t_ k_ => XS.lcmp X1.here hx rfl (hb hby d6_7) rfl k_) ?_
  by_cases hc8 : (f ((0 : Int32)).toNatClampNeg) < (1 : Int64)
  · skip
    refine Go.st (T' := T1) (g' := (mkF m 11 #[.val (.ref a)] [])) (fun t_ k_ => XS.ifNo X1.here hx rfl (hb hby d6_8) rfl (lcTlt hc8).2 k_) ?_
    refine Go.st (T' := T1) (g' := (mkF m 12 #[.val (.ref a)] [(.int (1 : Int32))])) (fun t_ k_ => XS.iconst X1.here hx rfl (hb hby d6_11) k_) ?_
    refine Go.st (T' := T1) (g' := (mkF m 16 #[.val (.ref a)] [(.int (1 : Int32))])) (fun t_ k_ => XS.goto X1.here hx rfl (pc0 := 12) (pc' := 16) rfl (hb hby d6_12) (by decide) (by decide) k_) ?_
    refine goRetZ X1 hx hlk hret (hb hby d6_16) (by decide) (by decide) (Or.inr rfl) ?_
    refine ⟨(1 : Int32), rfl, rfl⟩
  · skip
    refine Go.st (T' := T1) (g' := (mkF m 15 #[.val (.ref a)] [])) (fun t_ k_ => XS.ifYes X1.here hx rfl (pc0 := 8) (pc' := 15) rfl (hb hby d6_8) rfl (lcFlt hc8).2 (by decide) (by decide) k_) ?_
    refine Go.st (T' := T1) (g' := (mkF m 16 #[.val (.ref a)] [(.int (0 : Int32))])) (fun t_ k_ => XS.iconst X1.here hx rfl (hb hby d6_15) k_) ?_
    refine goRetZ X1 hx hlk hret (hb hby d6_16) (by decide) (by decide) (Or.inl rfl) ?_
    refine ⟨(0 : Int32), rfl, rfl⟩
theorem d1_0 : decode prog_27_method_1_code 0 = .ok (.aload_n 0, 1) := by decide +kernel
theorem d1_1 : decode prog_27_method_1_code 1 = .ok (.invokespecial 3, 3) := by decide +kernel
theorem d1_4 : decode prog_27_method_1_code 4 = .ok (.aload_n 0, 1) := by decide +kernel
theorem d1_5 : decode prog_27_method_1_code 5 = .ok (.iload_n 1, 1) := by decide +kernel
theorem d1_6 : decode prog_27_method_1_code 6 = .ok (.iconst 1, 1) := by decide +kernel
theorem d1_7 : decode prog_27_method_1_code 7 = .ok (.iadd, 1) := by decide +kernel
theorem d1_8 : decode prog_27_method_1_code 8 = .ok (.putfield 9, 3) := by decide +kernel
theorem d1_11 : decode prog_27_method_1_code 11 = .ok (.aload_n 0, 1) := by decide +kernel
theorem d1_12 : decode prog_27_method_1_code 12 = .ok (.aload_n 0, 1) := by decide +kernel
theorem d1_13 : decode prog_27_method_1_code 13 = .ok (.getfield 9, 3) := by decide +kernel
theorem d1_16 : decode prog_27_method_1_code 16 = .ok (.aload_n 0, 1) := by decide +kernel
theorem d1_17 : decode prog_27_method_1_code 17 = .ok (.getfield 9, 3) := by decide +kernel
theorem d1_20 : decode prog_27_method_1_code 20 = .ok (.imul, 1) := by decide +kernel
theorem d1_21 : decode prog_27_method_1_code 21 = .ok (.newarray .long, 2) := by decide +kernel
theorem d1_23 : decode prog_27_method_1_code 23 = .ok (.putfield 15, 3) := by decide +kernel
theorem d1_26 : decode prog_27_method_1_code 26 = .ok (.aload_n 0, 1) := by decide +kernel
theorem d1_27 : decode prog_27_method_1_code 27 = .ok (.getfield 15, 3) := by decide +kernel
theorem d1_30 : decode prog_27_method_1_code 30 = .ok (.lconst 1, 1) := by decide +kernel
theorem d1_31 : decode prog_27_method_1_code 31 = .ok (.invokestatic 19, 3) := by decide +kernel
theorem d1_34 : decode prog_27_method_1_code 34 = .ok (.return_, 1) := by decide +kernel
theorem pn_1 : plainFor (⟨"com/example/utu/utu/check/Zone", "<init>", "(I)V"⟩ : MethodName) = true := plainFor_of_name (by first | (simp [plainName, overriddenIn]; done) | decide +kernel)
theorem pd_5a140347 : parseMethodDescriptor "([JJ)V" = some ⟨[(.array .long), .long], none⟩ := by decide +kernel
theorem ef_rm1 (m : MethodId) (x0 : Addr) (x1 : Int32) : entryFrame m #[(.ref x0), (.int x1)] 2 = mkF m 0 #[.val (.ref x0), .val (.int x1)] [] := by first | (simp [entryFrame, mkF, argsToLocals, Value.category]; done) | rfl
def Q1 (Z : State) (n0 : Nat) (h0 : Heap) (a : Addr) (nv : Int32) (N : Nat) (u1 : Value) (u2 : Value) (v : Option Value) (h : Heap) : Prop := ∃ (bs : Addr) (f : Nat → Int64), v = none ∧ Keep h0 h [a] ∧ Exa Z h a "com/example/utu/utu/check/Zone" ∧ Fld Z h a "com/example/utu/utu/check/Zone" "dimension" "I" (.int (nv + (1 : Int32))) ∧ Fld Z h a "com/example/utu/utu/check/Zone" "bounds" "[J" (.ref bs) ∧ Exa Z h bs "[J" ∧ Ary Z h bs .long N (fun i => .long (f i)) ∧ n0 ≤ bs
set_option maxRecDepth 65536 in
set_option maxHeartbeats 40000000 in
theorem rm1 (l : Launch) (Z : State) (a0 : Array Value) (hw : ∀ d ∈ tables_1, d.before a0 Z = true) (ws : List Jvm.Cond) (n0 : Nat) (h0 : Heap) (a : Addr) (nv : Int32) (N : Nat) (u1 : Value) (u2 : Value) (sz0 : n0 ≤ h0.size) (g0 : Exa Z h0 a "com/example/utu/utu/check/Zone") (g1 : Fld Z h0 a "com/example/utu/utu/check/Zone" "dimension" "I" u1) (g2 : Fld Z h0 a "com/example/utu/utu/check/Zone" "bounds" "[J" u2) (g3 : n0 ≤ a) (hD : own_dim (nv + (1 : Int32)) N) :
    Con l (⟨"com/example/utu/utu/check/Zone", "<init>", "(I)V"⟩ : MethodName) prog_27_method_1_code 2 none ({ frames := 1, cells := 1, slots := 16, locals := 20 } : Room) ws Z n0 #[(.ref a), (.int nv)] h0 (Q1 Z n0 h0 a nv N u1 u2) := by
  refine Con.body pn_1 ?_
  intro p e s m below meth c s₁ hx hby hml hown hnm hret hlk hZ X0
  have hown : s.vm.findClass "com/example/utu/utu/check/Zone" = some m.cls := hown
  have hnm : meth.name = "<init>" := hnm
  have K0 : Keep h0 h0 [a] := Keep.refl _ _
  rw [show entryFrame m #[(.ref a), (.int nv)] 2 = mkF m 0 #[.val (.ref a), .val (.int nv)] [] from ef_rm1 m a nv]
  show Go p e below (PostW s n0 (1 : Nat) (16 : Nat) (Q1 Z n0 h0 a nv N u1 u2)) s₁ (mkF m 0 #[.val (.ref a), .val (.int nv)] [])
  refine Go.st (T' := s₁) (g' := (mkF m 1 #[.val (.ref a), .val (.int nv)] [(.ref a)])) (fun t_ k_ => XS.aloadN X0.here hx rfl (hb hby d1_0) rfl rfl k_) ?_
  refine goInit X0 hx hZ hown (hw _ (List.mem_of_getElem? (i := 6) rfl)) (hw _ (List.mem_of_getElem? (i := 7) rfl)) (hw _ (List.mem_of_getElem? (i := 8) rfl)) (by rw [hml]; rfl) (hb hby d1_1) (by decide) (W := 0) (Nat.le_of_eq rfl) (by decide) fun T1 X1 => ?_
  show Go p e below _ T1 (mkF m 4 #[.val (.ref a), .val (.int nv)] [])
  refine Go.st (T' := T1) (g' := (mkF m 5 #[.val (.ref a), .val (.int nv)] [(.ref a)])) (fun t_ k_ => XS.aloadN X1.here hx rfl (hb hby d1_4) rfl rfl k_) ?_
  refine Go.st (T' := T1) (g' := (mkF m 6 #[.val (.ref a), .val (.int nv)] [(.int nv), (.ref a)])) (fun t_ k_ => XS.iloadN X1.here hx rfl (hb hby d1_5) rfl k_) ?_
  refine Go.st (T' := T1) (g' := (mkF m 7 #[.val (.ref a), .val (.int nv)] [(.int (1 : Int32)), (.int nv), (.ref a)])) (fun t_ k_ => XS.iconst X1.here hx rfl (hb hby d1_6) k_) ?_
  refine Go.st (T' := T1) (g' := (mkF m 8 #[.val (.ref a), .val (.int nv)] [(.int (nv + (1 : Int32))), (.ref a)])) (fun t_ k_ => XS.iadd X1.here hx rfl (hb hby d1_7) rfl k_) ?_
  refine goPut X1 hx hZ hown (host := "") (Or.inl (hw _ (List.mem_of_getElem? (i := 9) rfl))) Via.refl g1 g0 (Or.inr ⟨(hw _ (List.mem_of_getElem? (i := 10) rfl)), rfl, hnm⟩) (hw _ (List.mem_of_getElem? (i := 1) rfl)) (ty := .int) (by decide) rfl rfl g3 (hb hby d1_8) fun T2 h2 X2 W2 => ?_
  have Fw2 := g1.same W2
  have f2_0 : Exa Z h2 a "com/example/utu/utu/check/Zone" := g0.wr W2
  have f2_1 : Fld Z h2 a "com/example/utu/utu/check/Zone" "bounds" "[J" u2 := g2.other W2 (Or.inr (slot_ne (Or.inr (hw _ (List.mem_of_getElem? (i := 13) rfl))) (Or.inr (hw _ (List.mem_of_getElem? (i := 10) rfl))) (by decide) (t := (.array .long)) (t' := .int) (by decide) (by decide)))
  have sz2 : n0 ≤ h2.size := Nat.le_trans sz0 (Keep.of_wr W2).1
  have K2 : Keep h0 h2 [a] := K0.wr W2 (Or.inl (List.mem_of_getElem? (i := 0) rfl))
  show Go p e below _ T2 (mkF m 11 #[.val (.ref a), .val (.int nv)] [])
  refine Go.st (T' := T2) (g' := (mkF m 12 #[.val (.ref a), .val (.int nv)] [(.ref a)])) (fun t_ k_ => XS.aloadN X2.here hx rfl (hb hby d1_11) rfl rfl k_) ?_
  refine Go.st (T' := T2) (g' := (mkF m 13 #[.val (.ref a), .val (.int nv)] [(.ref a), (.ref a)])) (fun t_ k_ => XS.aloadN X2.here hx rfl (hb hby d1_12) rfl rfl k_) ?_
  refine goGet X2 hx hZ hown (host := "") (Or.inl (hw _ (List.mem_of_getElem? (i := 9) rfl))) Via.refl Fw2 (hb hby d1_13) fun T3 X3 => ?_
  show Go p e below _ T3 (mkF m 16 #[.val (.ref a), .val (.int nv)] [(.int (nv + (1 : Int32))), (.ref a)])
  refine Go.st (T' := T3) (g' := (mkF m 17 #[.val (.ref a), .val (.int nv)] [(.ref a), (.int (nv + (1 : Int32))), (.ref a)])) (fun t_ k_ => XS.aloadN X3.here hx rfl (hb hby d1_16) rfl rfl k_) ?_
  refine goGet X3 hx hZ hown (host := "") (Or.inl (hw _ (List.mem_of_getElem? (i := 9) rfl))) Via.refl Fw2 (hb hby d1_17) fun T4 X4 => ?_
  show Go p e below _ T4 (mkF m 20 #[.val (.ref a), .val (.int nv)] [(.int (nv + (1 : Int32))), (.int (nv + (1 : Int32))), (.ref a)])
  refine Go.st (T' := T4) (g' := (mkF m 21 #[.val (.ref a), .val (.int nv)] [(.int ((nv + (1 : Int32)) * (nv + (1 : Int32)))), (.ref a)])) (fun t_ k_ => XS.imul X4.here hx rfl (hb hby d1_20) rfl k_) ?_
  refine goNewA (aty := .long) X4 hx hZ (hw _ (List.mem_of_getElem? (i := 11) rfl)) (hb hby d1_21) (own_sq hD).2 (cap := 16) (by rw [(own_sq hD).1]; exact (own_dim_lt hD).2.2) (by decide) (by decide) (by decide) (ad := "[J") (by decide) fun T5 h5 nb gb5 X5 E5 A5 B5 => ?_
  have ge5 : n0 ≤ nb := gb5 ▸ sz2
  have ne5_a : a ≠ nb := gb5 ▸ Nat.ne_of_lt f2_0.lt
  have fr5 : h0.size ≤ nb := gb5 ▸ K2.1
  have f5_0 : Exa Z h5 a "com/example/utu/utu/check/Zone" := f2_0.ext E5
  have f5_1 : Fld Z h5 a "com/example/utu/utu/check/Zone" "bounds" "[J" u2 := f2_1.ext E5
  have f5_3 : Fld Z h5 a "com/example/utu/utu/check/Zone" "dimension" "I" (.int (nv + (1 : Int32))) := Fw2.ext E5
  have sz5 : n0 ≤ h5.size := Nat.le_trans sz2 E5.1
  have K5 : Keep h0 h5 [a] := K2.ext E5
  have B5' : Ary Z h5 nb .long N (fun _ => .long 0) := by have q := B5; rw [(own_sq hD).1] at q; exact q
  show Go p e below _ T5 (mkF m 23 #[.val (.ref a), .val (.int nv)] [(.ref nb), (.ref a)])
  refine goPut X5 hx hZ hown (host := "") (Or.inl (hw _ (List.mem_of_getElem? (i := 12) rfl))) Via.refl f5_1 f5_0 (Or.inr ⟨(hw _ (List.mem_of_getElem? (i := 13) rfl)), rfl, hnm⟩) (hw _ (List.mem_of_getElem? (i := 1) rfl)) (ty := (.array .long)) (by decide) rfl rfl g3 (hb hby d1_23) fun T6 h6 X6 W6 => ?_
  have Fw6 := f5_1.same W6
  have f6_0 : Exa Z h6 a "com/example/utu/utu/check/Zone" := f5_0.wr W6
  have f6_2 : Fld Z h6 a "com/example/utu/utu/check/Zone" "dimension" "I" (.int (nv + (1 : Int32))) := f5_3.other W6 (Or.inr (slot_ne (Or.inr (hw _ (List.mem_of_getElem? (i := 10) rfl))) (Or.inr (hw _ (List.mem_of_getElem? (i := 13) rfl))) (by decide) (t := .int) (t' := (.array .long)) (by decide) (by decide)))
  have f6_6 : Exa Z h6 nb "[J" := A5.wr W6
  have f6_7 : Ary Z h6 nb .long N (fun _ => .long 0) := B5'.other W6 ne5_a.symm
  have sz6 : n0 ≤ h6.size := Nat.le_trans sz5 (Keep.of_wr W6).1
  have K6 : Keep h0 h6 [a] := K5.wr W6 (Or.inl (List.mem_of_getElem? (i := 0) rfl))
  show Go p e below _ T6 (mkF m 26 #[.val (.ref a), .val (.int nv)] [])
  refine Go.st (T' := T6) (g' := (mkF m 27 #[.val (.ref a), .val (.int nv)] [(.ref a)])) (fun t_ k_ => XS.aloadN X6.here hx rfl (hb hby d1_26) rfl rfl k_) ?_
  refine goGet X6 hx hZ hown (host := "") (Or.inl (hw _ (List.mem_of_getElem? (i := 12) rfl))) Via.refl Fw6 (hb hby d1_27) fun T7 X7 => ?_
  show Go p e below _ T7 (mkF m 30 #[.val (.ref a), .val (.int nv)] [(.ref nb)])
  refine Go.st (T' := T7) (g' := (mkF m 31 #[.val (.ref a), .val (.int nv)] [(.long (1 : Int64)), (.ref nb)])) (fun t_ k_ => XS.lconst X7.here hx rfl (hb hby d1_30) k_) ?_
  refine goStatic X7 hx hZ (y := (⟨"java/util/Arrays", "fill", "([JJ)V"⟩ : MethodName)) hown (hw _ (List.mem_of_getElem? (i := 14) rfl)) (hw _ (List.mem_of_getElem? (i := 15) rfl)) (hw _ (List.mem_of_getElem? (i := 16) rfl)) (hw _ (List.mem_of_getElem? (i := 17) rfl)) (by decide) (rm3 l Z a0 hw [] n0 h6 nb (1 : Int64) N (fun _ => 0) sz6 f6_7 ge5 ((own_dim_lt hD).1)) 0 (by decide) (by decide) (by rw [hml]; rfl) [(.ref nb), (.long (1 : Int64))] [] (lenOf pd_5a140347 rfl) rfl rfl rfl (hb hby d1_31) (by decide) (by decide) fun v8 T8 h8 X8 hq8 => ?_
  obtain ⟨f'_8, rfl, K8c, p8_0⟩ := hq8
  have f8_0 : Exa Z h8 a "com/example/utu/utu/check/Zone" := f6_0.keep K8c
  have f8_2 : Fld Z h8 a "com/example/utu/utu/check/Zone" "dimension" "I" (.int (nv + (1 : Int32))) := f6_2.keep K8c (ninS ne5_a nin0)
  have f8_6 : Exa Z h8 nb "[J" := f6_6.keep K8c
  have f8_7 : Fld Z h8 a "com/example/utu/utu/check/Zone" "bounds" "[J" (.ref nb) := Fw6.keep K8c (ninS ne5_a nin0)
  have sz8 : n0 ≤ h8.size := Nat.le_trans sz6 K8c.1
  have K8 : Keep h0 h8 [a] := K6.trans K8c (allS (Or.inr fr5) all0)
  show Go p e below _ T8 (mkF m 34 #[.val (.ref a), .val (.int nv)] [])
  refine goRetV X8 hx hlk hret (hb hby d1_34) (by decide) (by decide) ?_
  refine ⟨nb, (fun i => (f'_8 i)), rfl, K8, f8_0, f8_2, f8_7, f8_6, p8_0, ge5⟩
theorem d11_0 : decode prog_27_method_20_code 0 = .ok (.iload_n 2, 1) := by decide +kernel
theorem d11_1 : decode prog_27_method_20_code 1 = .ok (.i2l, 1) := by decide +kernel
theorem d11_2 : decode prog_27_method_20_code 2 = .ok (.iconst 0, 1) := by decide +kernel
theorem d11_3 : decode prog_27_method_20_code 3 = .ok (.invokestatic 59, 3) := by decide +kernel
theorem d11_6 : decode prog_27_method_20_code 6 = .ok (.lstore_n 3, 1) := by decide +kernel
theorem d11_7 : decode prog_27_method_20_code 7 = .ok (.iload_n 2, 1) := by decide +kernel
theorem d11_8 : decode prog_27_method_20_code 8 = .ok (.i2l, 1) := by decide +kernel
theorem d11_9 : decode prog_27_method_20_code 9 = .ok (.lneg, 1) := by decide +kernel
theorem d11_10 : decode prog_27_method_20_code 10 = .ok (.iconst 0, 1) := by decide +kernel
theorem d11_11 : decode prog_27_method_20_code 11 = .ok (.invokestatic 59, 3) := by decide +kernel
theorem d11_14 : decode prog_27_method_20_code 14 = .ok (.lstore 5, 2) := by decide +kernel
theorem d11_16 : decode prog_27_method_20_code 16 = .ok (.iconst 0, 1) := by decide +kernel
theorem d11_17 : decode prog_27_method_20_code 17 = .ok (.istore 7, 2) := by decide +kernel
theorem d11_19 : decode prog_27_method_20_code 19 = .ok (.iload 7, 2) := by decide +kernel
theorem d11_21 : decode prog_27_method_20_code 21 = .ok (.aload_n 0, 1) := by decide +kernel
theorem d11_22 : decode prog_27_method_20_code 22 = .ok (.getfield 9, 3) := by decide +kernel
theorem d11_25 : decode prog_27_method_20_code 25 = .ok (.if_icmp .ge 60, 3) := by decide +kernel
theorem d11_28 : decode prog_27_method_20_code 28 = .ok (.aload_n 0, 1) := by decide +kernel
theorem d11_29 : decode prog_27_method_20_code 29 = .ok (.getfield 15, 3) := by decide +kernel
theorem d11_32 : decode prog_27_method_20_code 32 = .ok (.iload_n 1, 1) := by decide +kernel
theorem d11_33 : decode prog_27_method_20_code 33 = .ok (.aload_n 0, 1) := by decide +kernel
theorem d11_34 : decode prog_27_method_20_code 34 = .ok (.getfield 9, 3) := by decide +kernel
theorem d11_37 : decode prog_27_method_20_code 37 = .ok (.imul, 1) := by decide +kernel
theorem d11_38 : decode prog_27_method_20_code 38 = .ok (.iload 7, 2) := by decide +kernel
theorem d11_40 : decode prog_27_method_20_code 40 = .ok (.iadd, 1) := by decide +kernel
theorem d11_41 : decode prog_27_method_20_code 41 = .ok (.lload_n 3, 1) := by decide +kernel
theorem d11_42 : decode prog_27_method_20_code 42 = .ok (.aload_n 0, 1) := by decide +kernel
theorem d11_43 : decode prog_27_method_20_code 43 = .ok (.iconst 0, 1) := by decide +kernel
theorem d11_44 : decode prog_27_method_20_code 44 = .ok (.iload 7, 2) := by decide +kernel
theorem d11_46 : decode prog_27_method_20_code 46 = .ok (.invokevirtual 49, 3) := by decide +kernel
theorem d11_49 : decode prog_27_method_20_code 49 = .ok (.invokestatic 53, 3) := by decide +kernel
theorem d11_52 : decode prog_27_method_20_code 52 = .ok (.lastore, 1) := by decide +kernel
theorem d11_53 : decode prog_27_method_20_code 53 = .ok (.aload_n 0, 1) := by decide +kernel
theorem d11_54 : decode prog_27_method_20_code 54 = .ok (.getfield 15, 3) := by decide +kernel
theorem d11_57 : decode prog_27_method_20_code 57 = .ok (.iload 7, 2) := by decide +kernel
theorem d11_59 : decode prog_27_method_20_code 59 = .ok (.aload_n 0, 1) := by decide +kernel
theorem d11_60 : decode prog_27_method_20_code 60 = .ok (.getfield 9, 3) := by decide +kernel
theorem d11_63 : decode prog_27_method_20_code 63 = .ok (.imul, 1) := by decide +kernel
theorem d11_64 : decode prog_27_method_20_code 64 = .ok (.iload_n 1, 1) := by decide +kernel
theorem d11_65 : decode prog_27_method_20_code 65 = .ok (.iadd, 1) := by decide +kernel
theorem d11_66 : decode prog_27_method_20_code 66 = .ok (.aload_n 0, 1) := by decide +kernel
theorem d11_67 : decode prog_27_method_20_code 67 = .ok (.iload 7, 2) := by decide +kernel
theorem d11_69 : decode prog_27_method_20_code 69 = .ok (.iconst 0, 1) := by decide +kernel
theorem d11_70 : decode prog_27_method_20_code 70 = .ok (.invokevirtual 49, 3) := by decide +kernel
theorem d11_73 : decode prog_27_method_20_code 73 = .ok (.lload 5, 2) := by decide +kernel
theorem d11_75 : decode prog_27_method_20_code 75 = .ok (.invokestatic 53, 3) := by decide +kernel
theorem d11_78 : decode prog_27_method_20_code 78 = .ok (.lastore, 1) := by decide +kernel
theorem d11_79 : decode prog_27_method_20_code 79 = .ok (.iinc 7 1, 3) := by decide +kernel
theorem d11_82 : decode prog_27_method_20_code 82 = .ok (.goto (-63), 3) := by decide +kernel
theorem d11_85 : decode prog_27_method_20_code 85 = .ok (.aload_n 0, 1) := by decide +kernel
theorem d11_86 : decode prog_27_method_20_code 86 = .ok (.getfield 15, 3) := by decide +kernel
theorem d11_89 : decode prog_27_method_20_code 89 = .ok (.iload_n 1, 1) := by decide +kernel
theorem d11_90 : decode prog_27_method_20_code 90 = .ok (.aload_n 0, 1) := by decide +kernel
theorem d11_91 : decode prog_27_method_20_code 91 = .ok (.getfield 9, 3) := by decide +kernel
theorem d11_94 : decode prog_27_method_20_code 94 = .ok (.imul, 1) := by decide +kernel
theorem d11_95 : decode prog_27_method_20_code 95 = .ok (.iload_n 1, 1) := by decide +kernel
theorem d11_96 : decode prog_27_method_20_code 96 = .ok (.iadd, 1) := by decide +kernel
theorem d11_97 : decode prog_27_method_20_code 97 = .ok (.lconst 1, 1) := by decide +kernel
theorem d11_98 : decode prog_27_method_20_code 98 = .ok (.lastore, 1) := by decide +kernel
theorem d11_99 : decode prog_27_method_20_code 99 = .ok (.return_, 1) := by decide +kernel
theorem pn_11 : plainFor (⟨"com/example/utu/utu/check/Zone", "reset", "(II)V"⟩ : MethodName) = true := plainFor_of_name (by first | (simp [plainName, overriddenIn]; done) | decide +kernel)
theorem pd_705eb782 : parseMethodDescriptor "(JZ)J" = some ⟨[.long, .boolean], some .long⟩ := by decide +kernel
theorem pd_7c8b0545 : parseMethodDescriptor "(II)J" = some ⟨[.int, .int], some .long⟩ := by decide +kernel
theorem pd_6c7814f2 : parseMethodDescriptor "(JJ)J" = some ⟨[.long, .long], some .long⟩ := by decide +kernel
theorem ef_rm11 (m : MethodId) (x0 : Addr) (x1 : Int32) (x2 : Int32) : entryFrame m #[(.ref x0), (.int x1), (.int x2)] 8 = mkF m 0 #[.val (.ref x0), .val (.int x1), .val (.int x2), .unset, .unset, .unset, .unset, .unset] [] := by first | (simp [entryFrame, mkF, argsToLocals, Value.category]; done) | rfl
def Q11 (Z : State) (n0 : Nat) (h0 : Heap) (a : Addr) (ix : Int32) (q : Int32) (dm : Int32) (bs : Addr) (n : Nat) (f : Nat → Int64) (v : Option Value) (h : Heap) : Prop := ∃ (f' : Nat → Int64), v = none ∧ Keep h0 h [bs] ∧ Ary Z h bs .long n (fun i => .long (f' i))
set_option maxRecDepth 65536 in
set_option maxHeartbeats 40000000 in
theorem rm11 (l : Launch) (Z : State) (a0 : Array Value) (hw : ∀ d ∈ tables_1, d.before a0 Z = true) (ws : List Jvm.Cond) (n0 : Nat) (h0 : Heap) (a : Addr) (ix : Int32) (q : Int32) (dm : Int32) (bs : Addr) (n : Nat) (f : Nat → Int64) (sz0 : n0 ≤ h0.size) (g0 : Exa Z h0 a "com/example/utu/utu/check/Zone") (g1 : Exa Z h0 bs "[J") (g2 : Fld Z h0 a "com/example/utu/utu/check/Zone" "dimension" "I" (.int dm)) (g3 : Fld Z h0 a "com/example/utu/utu/check/Zone" "bounds" "[J" (.ref bs)) (g4 : Ary Z h0 bs .long n (fun i => .long (f i))) (g5 : n0 ≤ bs) (hD : own_dim dm n) (hi : own_rg ix dm) :
    Con l (⟨"com/example/utu/utu/check/Zone", "reset", "(II)V"⟩ : MethodName) prog_27_method_20_code 8 none ({ frames := 2, cells := 0, slots := 0, locals := 40 } : Room) ws Z n0 #[(.ref a), (.int ix), (.int q)] h0 (Q11 Z n0 h0 a ix q dm bs n f) := by
  refine Con.body pn_11 ?_
  intro p e s m below meth c s₁ hx hby hml hown hnm hret hlk hZ X0
  have hown : s.vm.findClass "com/example/utu/utu/check/Zone" = some m.cls := hown
  have hnm : meth.name = "reset" := hnm
  have K0 : Keep h0 h0 [bs] := Keep.refl _ _
  rw [show entryFrame m #[(.ref a), (.int ix), (.int q)] 8 = mkF m 0 #[.val (.ref a), .val (.int ix), .val (.int q), .unset, .unset, .unset, .unset, .unset] [] from ef_rm11 m a ix q]
  show Go p e below (PostW s n0 (0 : Nat) (0 : Nat) (Q11 Z n0 h0 a ix q dm bs n f)) s₁ (mkF m 0 #[.val (.ref a), .val (.int ix), .val (.int q), .unset, .unset, .unset, .unset, .unset] [])
  refine Go.st (T' := s₁) (g' := (mkF m 1 #[.val (.ref a), .val (.int ix), .val (.int q), .unset, .unset, .unset, .unset, .unset] [(.int q)])) (fun t_ k_ => XS.iloadN X0.here hx rfl (hb hby d11_0) rfl k_) ?_
  refine Go.st (T' := s₁) (g' := (mkF m 2 #[.val (.ref a), .val (.int ix), .val (.int q), .unset, .unset, .unset, .unset, .unset] [(.long (q.toInt64))])) (fun t_ k_ => XS.i2l X0.here hx rfl (hb hby d11_1) rfl k_) ?_
  refine Go.st (T' := s₁) (g' := (mkF m 3 #[.val (.ref a), .val (.int ix), .val (.int q), .unset, .unset, .unset, .unset, .unset] [(.int (0 : Int32)), (.long (q.toInt64))])) (fun t_ k_ => XS.iconst X0.here hx rfl (hb hby d11_2) k_) ?_
  refine goStatic X0 hx hZ (y := (⟨"com/example/utu/utu/check/Zone", "bound", "(JZ)J"⟩ : MethodName)) hown (hw _ (List.mem_of_getElem? (i := 59) rfl)) (hw _ (List.mem_of_getElem? (i := 19) rfl)) (hw _ (List.mem_of_getElem? (i := 2) rfl)) (hw _ (List.mem_of_getElem? (i := 20) rfl)) (by decide) (rm4 l Z a0 hw [] n0 h0 (q.toInt64) (0 : Int32) sz0) 0 (by decide) (by decide) (by rw [hml]; rfl) [(.long (q.toInt64)), (.int (0 : Int32))] [] (lenOf pd_705eb782 rfl) rfl rfl rfl (hb hby d11_3) (by decide) (by decide) fun v1 T1 h1 X1 hq1 => ?_
  obtain ⟨r_1, rfl, eh1⟩ := hq1
  rw [eh1] at X1
  show Go p e below _ T1 (mkF m 6 #[.val (.ref a), .val (.int ix), .val (.int q), .unset, .unset, .unset, .unset, .unset] [(.long r_1)])
  refine Go.st (T' := T1) (g' := (mkF m 7 #[.val (.ref a), .val (.int ix), .val (.int q), .val (.long r_1), .second, .unset, .unset, .unset] [])) (fun t_ k_ => XS.lstoreN X1.here hx rfl (hb hby d11_6) rfl (l' := #[.val (.ref a), .val (.int ix), .val (.int q), .val (.long r_1), .second, .unset, .unset, .unset]) rfl k_) ?_
  refine Go.st (T' := T1) (g' := (mkF m 8 #[.val (.ref a), .val (.int ix), .val (.int q), .val (.long r_1), .second, .unset, .unset, .unset] [(.int q)])) (fun t_ k_ => XS.iloadN X1.here hx rfl (hb hby d11_7) rfl k_) ?_
  refine Go.st (T' := T1) (g' := (mkF m 9 #[.val (.ref a), .val (.int ix), .val (.int q), .val (.long r_1), .second, .unset, .unset, .unset] [(.long (q.toInt64))])) (fun t_ k_ => XS.i2l X1.here hx rfl (hb hby d11_8) rfl k_) ?_
  refine Go.st (T' := T1) (g' := (mkF m 10 #[.val (.ref a), .val (.int ix), .val (.int q), .val (.long r_1), .second, .unset, .unset, .unset] [(.long (-(q.toInt64)))])) (fun t_ k_ => XS.lneg X1.here hx rfl (hb hby d11_9) rfl k_) ?_
  refine Go.st (T' := T1) (g' := (mkF m 11 #[.val (.ref a), .val (.int ix), .val (.int q), .val (.long r_1), .second, .unset, .unset, .unset] [(.int (0 : Int32)), (.long (-(q.toInt64)))])) (fun t_ k_ => XS.iconst X1.here hx rfl (hb hby d11_10) k_) ?_
  refine goStatic X1 hx hZ (y := (⟨"com/example/utu/utu/check/Zone", "bound", "(JZ)J"⟩ : MethodName)) hown (hw _ (List.mem_of_getElem? (i := 59) rfl)) (hw _ (List.mem_of_getElem? (i := 19) rfl)) (hw _ (List.mem_of_getElem? (i := 2) rfl)) (hw _ (List.mem_of_getElem? (i := 20) rfl)) (by decide) (rm4 l Z a0 hw [] n0 h0 (-(q.toInt64)) (0 : Int32) sz0) 0 (by decide) (by decide) (by rw [hml]; rfl) [(.long (-(q.toInt64))), (.int (0 : Int32))] [] (lenOf pd_705eb782 rfl) rfl rfl rfl (hb hby d11_11) (by decide) (by decide) fun v2 T2 h2 X2 hq2 => ?_
  obtain ⟨r_2, rfl, eh2⟩ := hq2
  rw [eh2] at X2
  show Go p e below _ T2 (mkF m 14 #[.val (.ref a), .val (.int ix), .val (.int q), .val (.long r_1), .second, .unset, .unset, .unset] [(.long r_2)])
  refine Go.st (T' := T2) (g' := (mkF m 16 #[.val (.ref a), .val (.int ix), .val (.int q), .val (.long r_1), .second, .val (.long r_2), .second, .unset] [])) (fun t_ k_ => XS.lstore X2.here hx rfl (hb hby d11_14) rfl (l' := #[.val (.ref a), .val (.int ix), .val (.int q), .val (.long r_1), .second, .val (.long r_2), .second, .unset]) rfl k_) ?_
  refine Go.st (T' := T2) (g' := (mkF m 17 #[.val (.ref a), .val (.int ix), .val (.int q), .val (.long r_1), .second, .val (.long r_2), .second, .unset] [(.int (0 : Int32))])) (fun t_ k_ => XS.iconst X2.here hx rfl (hb hby d11_16) k_) ?_
  refine Go.st (T' := T2) (g' := (mkF m 19 #[.val (.ref a), .val (.int ix), .val (.int q), .val (.long r_1), .second, .val (.long r_2), .second, .val (.int (0 : Int32))] [])) (fun t_ k_ => XS.istore X2.here hx rfl (hb hby d11_17) rfl (l' := #[.val (.ref a), .val (.int ix), .val (.int q), .val (.long r_1), .second, .val (.long r_2), .second, .val (.int (0 : Int32))]) rfl k_) ?_
  have J19 : ∀ (k_J19 : Nat) (i7 : Int32) (fa : Nat → Int64) (T_J19 : State) (h_J19 : Heap), (dm.toNatClampNeg - i7.toNatClampNeg) = k_J19 → Stn p l e ({ frames := 2, cells := 0, slots := 0, locals := 40 } : Room) s m #[(.ref a), (.int ix), (.int q)] below meth c n0 T_J19 h_J19 0 0 → n0 ≤ h_J19.size → Keep h0 h_J19 [bs] → Exa Z h_J19 a "com/example/utu/utu/check/Zone" → Exa Z h_J19 bs "[J" → Fld Z h_J19 a "com/example/utu/utu/check/Zone" "dimension" "I" (.int dm) → Fld Z h_J19 a "com/example/utu/utu/check/Zone" "bounds" "[J" (.ref bs) → Ary Z h_J19 bs .long n (fun i => .long (fa i)) → n0 ≤ bs → (¬ i7 < 0) → Go p e below (PostW s n0 (0 : Nat) (0 : Nat) (Q11 Z n0 h0 a ix q dm bs n f)) T_J19 (mkF m 19 #[.val (.ref a), .val (.int ix), .val (.int q), .val (.long r_1), .second, .val (.long r_2), .second, .val (.int i7)] []) := by
    intro k_J19
    induction k_J19 using Nat.strongRecOn with
    | _ k_J19 ih_J19 =>
      intro i7 fa T_J19 h_J19 hk_J19 X_J19 sz_J19 K_J19 g0_J19 g1_J19 g2_J19 g3_J19 g4_J19 g5_J19 hn7
      refine Go.st (T' := T_J19) (g' := (mkF m 21 #[.val (.ref a), .val (.int ix), .val (.int q), .val (.long r_1), .second, .val (.long r_2), .second, .val (.int i7)] [(.int i7)])) (fun t_ k_ => XS.iload X_J19.here hx rfl (hb hby d11_19) rfl k_) ?_
      refine Go.st (T' := T_J19) (g' := (mkF m 22 #[.val (.ref a), .val (.int ix), .val (.int q), .val (.long r_1), .second, .val (.long r_2), .second, .val (.int i7)] [(.ref a), (.int i7)])) (fun t_ k_ => XS.aloadN X_J19.here hx rfl (hb hby d11_21) rfl rfl k_) ?_
      refine goGet X_J19 hx hZ hown (host := "") (Or.inl (hw _ (List.mem_of_getElem? (i := 9) rfl))) Via.refl g2_J19 (hb hby d11_22) fun T3 X3 => ?_
      show Go p e below _ T3 (mkF m 25 #[.val (.ref a), .val (.int ix), .val (.int q), .val (.long r_1), .second, .val (.long r_2), .second, .val (.int i7)] [(.int dm), (.int i7)])
      by_cases hc25 : i7 < dm
      · skip
        refine Go.st (T' := T3) (g' := (mkF m 28 #[.val (.ref a), .val (.int ix), .val (.int q), .val (.long r_1), .second, .val (.long r_2), .second, .val (.int i7)] [])) (fun t_ k_ => XS.icmpNo X3.here hx rfl (hb hby d11_25) rfl (tlt hc25).2.1 k_) ?_
        refine Go.st (T' := T3) (g' := (mkF m 29 #[.val (.ref a), .val (.int ix), .val (.int q), .val (.long r_1), .second, .val (.long r_2), .second, .val (.int i7)] [(.ref a)])) (fun t_ k_ => XS.aloadN X3.here hx rfl (hb hby d11_28) rfl rfl k_) ?_
        refine goGet X3 hx hZ hown (host := "") (Or.inl (hw _ (List.mem_of_getElem? (i := 12) rfl))) Via.refl g3_J19 (hb hby d11_29) fun T4 X4 => ?_
        show Go p e below _ T4 (mkF m 32 #[.val (.ref a), .val (.int ix), .val (.int q), .val (.long r_1), .second, .val (.long r_2), .second, .val (.int i7)] [(.ref bs)])
        refine Go.st (T' := T4) (g' := (mkF m 33 #[.val (.ref a), .val (.int ix), .val (.int q), .val (.long r_1), .second, .val (.long r_2), .second, .val (.int i7)] [(.int ix), (.ref bs)])) (fun t_ k_ => XS.iloadN X4.here hx rfl (hb hby d11_32) rfl k_) ?_
        refine Go.st (T' := T4) (g' := (mkF m 34 #[.val (.ref a), .val (.int ix), .val (.int q), .val (.long r_1), .second, .val (.long r_2), .second, .val (.int i7)] [(.ref a), (.int ix), (.ref bs)])) (fun t_ k_ => XS.aloadN X4.here hx rfl (hb hby d11_33) rfl rfl k_) ?_
        refine goGet X4 hx hZ hown (host := "") (Or.inl (hw _ (List.mem_of_getElem? (i := 9) rfl))) Via.refl g2_J19 (hb hby d11_34) fun T5 X5 => ?_
        show Go p e below _ T5 (mkF m 37 #[.val (.ref a), .val (.int ix), .val (.int q), .val (.long r_1), .second, .val (.long r_2), .second, .val (.int i7)] [(.int dm), (.int ix), (.ref bs)])
        refine Go.st (T' := T5) (g' := (mkF m 38 #[.val (.ref a), .val (.int ix), .val (.int q), .val (.long r_1), .second, .val (.long r_2), .second, .val (.int i7)] [(.int (ix * dm)), (.ref bs)])) (fun t_ k_ => XS.imul X5.here hx rfl (hb hby d11_37) rfl k_) ?_
        refine Go.st (T' := T5) (g' := (mkF m 40 #[.val (.ref a), .val (.int ix), .val (.int q), .val (.long r_1), .second, .val (.long r_2), .second, .val (.int i7)] [(.int i7), (.int (ix * dm)), (.ref bs)])) (fun t_ k_ => XS.iload X5.here hx rfl (hb hby d11_38) rfl k_) ?_
        refine Go.st (T' := T5) (g' := (mkF m 41 #[.val (.ref a), .val (.int ix), .val (.int q), .val (.long r_1), .second, .val (.long r_2), .second, .val (.int i7)] [(.int ((ix * dm) + i7)), (.ref bs)])) (fun t_ k_ => XS.iadd X5.here hx rfl (hb hby d11_40) rfl k_) ?_
        refine Go.st (T' := T5) (g' := (mkF m 42 #[.val (.ref a), .val (.int ix), .val (.int q), .val (.long r_1), .second, .val (.long r_2), .second, .val (.int i7)] [(.long r_1), (.int ((ix * dm) + i7)), (.ref bs)])) (fun t_ k_ => XS.lloadN X5.here hx rfl (hb hby d11_41) rfl k_) ?_
        refine Go.st (T' := T5) (g' := (mkF m 43 #[.val (.ref a), .val (.int ix), .val (.int q), .val (.long r_1), .second, .val (.long r_2), .second, .val (.int i7)] [(.ref a), (.long r_1), (.int ((ix * dm) + i7)), (.ref bs)])) (fun t_ k_ => XS.aloadN X5.here hx rfl (hb hby d11_42) rfl rfl k_) ?_
        refine Go.st (T' := T5) (g' := (mkF m 44 #[.val (.ref a), .val (.int ix), .val (.int q), .val (.long r_1), .second, .val (.long r_2), .second, .val (.int i7)] [(.int (0 : Int32)), (.ref a), (.long r_1), (.int ((ix * dm) + i7)), (.ref bs)])) (fun t_ k_ => XS.iconst X5.here hx rfl (hb hby d11_43) k_) ?_
        refine Go.st (T' := T5) (g' := (mkF m 46 #[.val (.ref a), .val (.int ix), .val (.int q), .val (.long r_1), .second, .val (.long r_2), .second, .val (.int i7)] [(.int i7), (.int (0 : Int32)), (.ref a), (.long r_1), (.int ((ix * dm) + i7)), (.ref bs)])) (fun t_ k_ => XS.iload X5.here hx rfl (hb hby d11_44) rfl k_) ?_
        refine goVirtS X5 hx hZ (y := (⟨"com/example/utu/utu/check/Zone", "get", "(II)J"⟩ : MethodName)) hown (hw _ (List.mem_of_getElem? (i := 31) rfl)) (hw _ (List.mem_of_getElem? (i := 32) rfl)) (hw _ (List.mem_of_getElem? (i := 34) rfl)) (hw _ (List.mem_of_getElem? (i := 33) rfl)) (hw _ (List.mem_of_getElem? (i := 2) rfl)) (hw _ (List.mem_of_getElem? (i := 35) rfl)) (by decide) g0_J19 (rm7 l Z a0 hw [] n0 h_J19 a (0 : Int32) i7 dm bs n fa sz_J19 g2_J19 g3_J19 g4_J19 (hD) (own_0 hD) (⟨hn7, hc25⟩)) 4 (by decide) (by decide) (by rw [hml]; rfl) [(.int (0 : Int32)), (.int i7)] [(.long r_1), (.int ((ix * dm) + i7)), (.ref bs)] (lenOf pd_7c8b0545 rfl) rfl rfl rfl (hb hby d11_46) (by decide) (by decide) fun v6 T6 h6 X6 hq6 => ?_
        obtain ⟨r_6, rfl, eh6⟩ := hq6
        rw [eh6] at X6
        show Go p e below _ T6 (mkF m 49 #[.val (.ref a), .val (.int ix), .val (.int q), .val (.long r_1), .second, .val (.long r_2), .second, .val (.int i7)] [(.long r_6), (.long r_1), (.int ((ix * dm) + i7)), (.ref bs)])
        refine goStatic X6 hx hZ (y := (⟨"com/example/utu/utu/check/Zone", "add", "(JJ)J"⟩ : MethodName)) hown (hw _ (List.mem_of_getElem? (i := 60) rfl)) (hw _ (List.mem_of_getElem? (i := 61) rfl)) (hw _ (List.mem_of_getElem? (i := 2) rfl)) (hw _ (List.mem_of_getElem? (i := 62) rfl)) (by decide) (rm12 l Z a0 hw [] n0 h_J19 r_1 r_6 sz_J19) 2 (by decide) (by decide) (by rw [hml]; rfl) [(.long r_1), (.long r_6)] [(.int ((ix * dm) + i7)), (.ref bs)] (lenOf pd_6c7814f2 rfl) rfl rfl rfl (hb hby d11_49) (by decide) (by decide) fun v7 T7 h7 X7 hq7 => ?_
        obtain ⟨r_7, rfl, eh7⟩ := hq7
        rw [eh7] at X7
        show Go p e below _ T7 (mkF m 52 #[.val (.ref a), .val (.int ix), .val (.int q), .val (.long r_1), .second, .val (.long r_2), .second, .val (.int i7)] [(.long r_7), (.int ((ix * dm) + i7)), (.ref bs)])
        refine goStJ X7 hx hZ (f := (fun i => (fa i))) g4_J19 (j := ((ix * dm) + i7)) (own_ix hD hi ⟨hn7, hc25⟩) g5_J19 (hb hby d11_52) fun T8 h8 X8 W8 A8 => ?_
        have f8_1 : Exa Z h8 a "com/example/utu/utu/check/Zone" := g0_J19.wr W8
        have f8_2 : Exa Z h8 bs "[J" := g1_J19.wr W8
        have f8_3 : Fld Z h8 a "com/example/utu/utu/check/Zone" "dimension" "I" (.int dm) := g2_J19.other W8 (Or.inl (ne_exa g0_J19 g1_J19 (by decide)))
        have f8_4 : Fld Z h8 a "com/example/utu/utu/check/Zone" "bounds" "[J" (.ref bs) := g3_J19.other W8 (Or.inl (ne_exa g0_J19 g1_J19 (by decide)))
        have sz8 : n0 ≤ h8.size := Nat.le_trans sz_J19 (Keep.of_wr W8).1
        have K8 : Keep h0 h8 [bs] := K_J19.wr W8 (Or.inl (List.mem_of_getElem? (i := 0) rfl))
        show Go p e below _ T8 (mkF m 53 #[.val (.ref a), .val (.int ix), .val (.int q), .val (.long r_1), .second, .val (.long r_2), .second, .val (.int i7)] [])
        refine Go.st (T' := T8) (g' := (mkF m 54 #[.val (.ref a), .val (.int ix), .val (.int q), .val (.long r_1), .second, .val (.long r_2), .second, .val (.int i7)] [(.ref a)])) (fun t_ k_ => XS.aloadN X8.here hx rfl (hb hby d11_53) rfl rfl k_) ?_
        refine goGet X8 hx hZ hown (host := "") (Or.inl (hw _ (List.mem_of_getElem? (i := 12) rfl))) Via.refl f8_4 (hb hby d11_54) fun T9 X9 => ?_
        show Go p e below _ T9 (mkF m 57 #[.val (.ref a), .val (.int ix), .val (.int q), .val (.long r_1), .second, .val (.long r_2), .second, .val (.int i7)] [(.ref bs)])
        refine Go.st (T' := T9) (g' := (mkF m 59 #[.val (.ref a), .val (.int ix), .val (.int q), .val (.long r_1), .second, .val (.long r_2), .second, .val (.int i7)] [(.int i7), (.ref bs)])) (fun t_ k_ => XS.iload X9.here hx rfl (hb hby d11_57) rfl k_) ?_
        refine Go.st (T' := T9) (g' := (mkF m 60 #[.val (.ref a), .val (.int ix), .val (.int q), .val (.long r_1), .second, .val (.long r_2), .second, .val (.int i7)] [(.ref a), (.int i7), (.ref bs)])) (fun t_ k_ => XS.aloadN X9.here hx rfl (hb hby d11_59) rfl rfl k_) ?_
        refine goGet X9 hx hZ hown (host := "") (Or.inl (hw _ (List.mem_of_getElem? (i := 9) rfl))) Via.refl f8_3 (hb hby d11_60) fun T10 X10 => ?_
        show Go p e below _ T10 (mkF m 63 #[.val (.ref a), .val (.int ix), .val (.int q), .val (.long r_1), .second, .val (.long r_2), .second, .val (.int i7)] [(.int dm), (.int i7), (.ref bs)])
        refine Go.st (T' := T10) (g' := (mkF m 64 #[.val (.ref a), .val (.int ix), .val (.int q), .val (.long r_1), .second, .val (.long r_2), .second, .val (.int i7)] [(.int (i7 * dm)), (.ref bs)])) (fun t_ k_ => XS.imul X10.here hx rfl (hb hby d11_63) rfl k_) ?_
        refine Go.st (T' := T10) (g' := (mkF m 65 #[.val (.ref a), .val (.int ix), .val (.int q), .val (.long r_1), .second, .val (.long r_2), .second, .val (.int i7)] [(.int ix), (.int (i7 * dm)), (.ref bs)])) (fun t_ k_ => XS.iloadN X10.here hx rfl (hb hby d11_64) rfl k_) ?_
        refine Go.st (T' := T10) (g' := (mkF m 66 #[.val (.ref a), .val (.int ix), .val (.int q), .val (.long r_1), .second, .val (.long r_2), .second, .val (.int i7)] [(.int ((i7 * dm) + ix)), (.ref bs)])) (fun t_ k_ => XS.iadd X10.here hx rfl (hb hby d11_65) rfl k_) ?_
        refine Go.st (T' := T10) (g' := (mkF m 67 #[.val (.ref a), .val (.int ix), .val (.int q), .val (.long r_1), .second, .val (.long r_2), .second, .val (.int i7)] [(.ref a), (.int ((i7 * dm) + ix)), (.ref bs)])) (fun t_ k_ => XS.aloadN X10.here hx rfl (hb hby d11_66) rfl rfl k_) ?_
        refine Go.st (T' := T10) (g' := (mkF m 69 #[.val (.ref a), .val (.int ix), .val (.int q), .val (.long r_1), .second, .val (.long r_2), .second, .val (.int i7)] [(.int i7), (.ref a), (.int ((i7 * dm) + ix)), (.ref bs)])) (fun t_ k_ => XS.iload X10.here hx rfl (hb hby d11_67) rfl k_) ?_
        refine Go.st (T' := T10) (g' := (mkF m 70 #[.val (.ref a), .val (.int ix), .val (.int q), .val (.long r_1), .second, .val (.long r_2), .second, .val (.int i7)] [(.int (0 : Int32)), (.int i7), (.ref a), (.int ((i7 * dm) + ix)), (.ref bs)])) (fun t_ k_ => XS.iconst X10.here hx rfl (hb hby d11_69) k_) ?_
        refine goVirtS X10 hx hZ (y := (⟨"com/example/utu/utu/check/Zone", "get", "(II)J"⟩ : MethodName)) hown (hw _ (List.mem_of_getElem? (i := 31) rfl)) (hw _ (List.mem_of_getElem? (i := 32) rfl)) (hw _ (List.mem_of_getElem? (i := 34) rfl)) (hw _ (List.mem_of_getElem? (i := 33) rfl)) (hw _ (List.mem_of_getElem? (i := 2) rfl)) (hw _ (List.mem_of_getElem? (i := 35) rfl)) (by decide) f8_1 (rm7 l Z a0 hw [] n0 h8 a i7 (0 : Int32) dm bs n (fun i => (if i = (((ix * dm) + i7)).toNatClampNeg then r_7 else (fun i => (fa i)) i)) sz8 f8_3 f8_4 A8 (hD) (⟨hn7, hc25⟩) (own_0 hD)) 2 (by decide) (by decide) (by rw [hml]; rfl) [(.int i7), (.int (0 : Int32))] [(.int ((i7 * dm) + ix)), (.ref bs)] (lenOf pd_7c8b0545 rfl) rfl rfl rfl (hb hby d11_70) (by decide) (by decide) fun v11 T11 h11 X11 hq11 => ?_
        obtain ⟨r_11, rfl, eh11⟩ := hq11
        rw [eh11] at X11
        show Go p e below _ T11 (mkF m 73 #[.val (.ref a), .val (.int ix), .val (.int q), .val (.long r_1), .second, .val (.long r_2), .second, .val (.int i7)] [(.long r_11), (.int ((i7 * dm) + ix)), (.ref bs)])
        refine Go.st (T' := T11) (g' := (mkF m 75 #[.val (.ref a), .val (.int ix), .val (.int q), .val (.long r_1), .second, .val (.long r_2), .second, .val (.int i7)] [(.long r_2), (.long r_11), (.int ((i7 * dm) + ix)), (.ref bs)])) (fun t_ k_ => XS.lload X11.here hx rfl (hb hby d11_73) rfl k_) ?_
        refine goStatic X11 hx hZ (y := (⟨"com/example/utu/utu/check/Zone", "add", "(JJ)J"⟩ : MethodName)) hown (hw _ (List.mem_of_getElem? (i := 60) rfl)) (hw _ (List.mem_of_getElem? (i := 61) rfl)) (hw _ (List.mem_of_getElem? (i := 2) rfl)) (hw _ (List.mem_of_getElem? (i := 62) rfl)) (by decide) (rm12 l Z a0 hw [] n0 h8 r_11 r_2 sz8) 2 (by decide) (by decide) (by rw [hml]; rfl) [(.long r_11), (.long r_2)] [(.int ((i7 * dm) + ix)), (.ref bs)] (lenOf pd_6c7814f2 rfl) rfl rfl rfl (hb hby d11_75) (by decide) (by decide) fun v12 T12 h12 X12 hq12 => ?_
        obtain ⟨r_12, rfl, eh12⟩ := hq12
        rw [eh12] at X12
        show Go p e below _ T12 (mkF m 78 #[.val (.ref a), .val (.int ix), .val (.int q), .val (.long r_1), .second, .val (.long r_2), .second, .val (.int i7)] [(.long r_12), (.int ((i7 * dm) + ix)), (.ref bs)])
        refine goStJ X12 hx hZ (f := (fun i => (if i = (((ix * dm) + i7)).toNatClampNeg then r_7 else (fun i => (fa i)) i))) A8 (j := ((i7 * dm) + ix)) (own_ix hD ⟨hn7, hc25⟩ hi) g5_J19 (hb hby d11_78) fun T13 h13 X13 W13 A13 => ?_
        have f13_1 : Exa Z h13 a "com/example/utu/utu/check/Zone" := f8_1.wr W13
        have f13_2 : Exa Z h13 bs "[J" := f8_2.wr W13
        have f13_3 : Fld Z h13 a "com/example/utu/utu/check/Zone" "dimension" "I" (.int dm) := f8_3.other W13 (Or.inl (ne_exa f8_1 f8_2 (by decide)))
        have f13_4 : Fld Z h13 a "com/example/utu/utu/check/Zone" "bounds" "[J" (.ref bs) := f8_4.other W13 (Or.inl (ne_exa f8_1 f8_2 (by decide)))
        have sz13 : n0 ≤ h13.size := Nat.le_trans sz8 (Keep.of_wr W13).1
        have K13 : Keep h0 h13 [bs] := K8.wr W13 (Or.inl (List.mem_of_getElem? (i := 0) rfl))
        show Go p e below _ T13 (mkF m 79 #[.val (.ref a), .val (.int ix), .val (.int q), .val (.long r_1), .second, .val (.long r_2), .second, .val (.int i7)] [])
        refine Go.st (T' := T13) (g' := (mkF m 82 #[.val (.ref a), .val (.int ix), .val (.int q), .val (.long r_1), .second, .val (.long r_2), .second, .val (.int (i7 + (1 : Int32)))] [])) (fun t_ k_ => XS.iinc X13.here hx rfl (hb hby d11_79) rfl (l' := #[.val (.ref a), .val (.int ix), .val (.int q), .val (.long r_1), .second, .val (.long r_2), .second, .val (.int (i7 + (1 : Int32)))]) rfl k_) ?_
        refine Go.st (T' := T13) (g' := (mkF m 19 #[.val (.ref a), .val (.int ix), .val (.int q), .val (.long r_1), .second, .val (.long r_2), .second, .val (.int (i7 + (1 : Int32)))] [])) (fun t_ k_ => XS.goto X13.here hx rfl (pc0 := 82) (pc' := 19) rfl (hb hby d11_82) (by decide) (by decide) k_) ?_
        exact ih_J19 _ (by have z := own_nxt hD ⟨hn7, hc25⟩; omega) (i7 + (1 : Int32)) (fun i => (if i = (((i7 * dm) + ix)).toNatClampNeg then r_12 else (fun i => (if i = (((ix * dm) + i7)).toNatClampNeg then r_7 else (fun i => (fa i)) i)) i)) T13 h13 rfl (X13.mono (by decide) (by decide)) sz13 K13 f13_1 f13_2 f13_3 f13_4 A13 g5_J19 ((own_nxt hD ⟨hn7, hc25⟩).1)
      · skip
        refine Go.st (T' := T3) (g' := (mkF m 85 #[.val (.ref a), .val (.int ix), .val (.int q), .val (.long r_1), .second, .val (.long r_2), .second, .val (.int i7)] [])) (fun t_ k_ => XS.icmpYes X3.here hx rfl (pc0 := 25) (pc' := 85) rfl (hb hby d11_25) rfl (flt hc25).2.1 (by decide) (by decide) k_) ?_
        refine Go.st (T' := T3) (g' := (mkF m 86 #[.val (.ref a), .val (.int ix), .val (.int q), .val (.long r_1), .second, .val (.long r_2), .second, .val (.int i7)] [(.ref a)])) (fun t_ k_ => XS.aloadN X3.here hx rfl (hb hby d11_85) rfl rfl k_) ?_
        refine goGet X3 hx hZ hown (host := "") (Or.inl (hw _ (List.mem_of_getElem? (i := 12) rfl))) Via.refl g3_J19 (hb hby d11_86) fun T14 X14 => ?_
        show Go p e below _ T14 (mkF m 89 #[.val (.ref a), .val (.int ix), .val (.int q), .val (.long r_1), .second, .val (.long r_2), .second, .val (.int i7)] [(.ref bs)])
        refine Go.st (T' := T14) (g' := (mkF m 90 #[.val (.ref a), .val (.int ix), .val (.int q), .val (.long r_1), .second, .val (.long r_2), .second, .val (.int i7)] [(.int ix), (.ref bs)])) (fun t_ k_ => XS.iloadN X14.here hx rfl (hb hby d11_89) rfl k_) ?_
        refine Go.st (T' := T14) (g' := (mkF m 91 #[.val (.ref a), .val (.int ix), .val (.int q), .val (.long r_1), .second, .val (.long r_2), .second, .val (.int i7)] [(.ref a), (.int ix), (.ref bs)])) (fun t_ k_ => XS.aloadN X14.here hx rfl (hb hby d11_90) rfl rfl k_) ?_
        refine goGet X14 hx hZ hown (host := "") (Or.inl (hw _ (List.mem_of_getElem? (i := 9) rfl))) Via.refl g2_J19 (hb hby d11_91) fun T15 X15 => ?_
        show Go p e below _ T15 (mkF m 94 #[.val (.ref a), .val (.int ix), .val (.int q), .val (.long r_1), .second, .val (.long r_2), .second, .val (.int i7)] [(.int dm), (.int ix), (.ref bs)])
        refine Go.st (T' := T15) (g' := (mkF m 95 #[.val (.ref a), .val (.int ix), .val (.int q), .val (.long r_1), .second, .val (.long r_2), .second, .val (.int i7)] [(.int (ix * dm)), (.ref bs)])) (fun t_ k_ => XS.imul X15.here hx rfl (hb hby d11_94) rfl k_) ?_
        refine Go.st (T' := T15) (g' := (mkF m 96 #[.val (.ref a), .val (.int ix), .val (.int q), .val (.long r_1), .second, .val (.long r_2), .second, .val (.int i7)] [(.int ix), (.int (ix * dm)), (.ref bs)])) (fun t_ k_ => XS.iloadN X15.here hx rfl (hb hby d11_95) rfl k_) ?_
        refine Go.st (T' := T15) (g' := (mkF m 97 #[.val (.ref a), .val (.int ix), .val (.int q), .val (.long r_1), .second, .val (.long r_2), .second, .val (.int i7)] [(.int ((ix * dm) + ix)), (.ref bs)])) (fun t_ k_ => XS.iadd X15.here hx rfl (hb hby d11_96) rfl k_) ?_
        refine Go.st (T' := T15) (g' := (mkF m 98 #[.val (.ref a), .val (.int ix), .val (.int q), .val (.long r_1), .second, .val (.long r_2), .second, .val (.int i7)] [(.long (1 : Int64)), (.int ((ix * dm) + ix)), (.ref bs)])) (fun t_ k_ => XS.lconst X15.here hx rfl (hb hby d11_97) k_) ?_
        refine goStJ X15 hx hZ (f := (fun i => (fa i))) g4_J19 (j := ((ix * dm) + ix)) (own_ix hD hi hi) g5_J19 (hb hby d11_98) fun T16 h16 X16 W16 A16 => ?_
        have f16_1 : Exa Z h16 a "com/example/utu/utu/check/Zone" := g0_J19.wr W16
        have f16_2 : Exa Z h16 bs "[J" := g1_J19.wr W16
        have f16_3 : Fld Z h16 a "com/example/utu/utu/check/Zone" "dimension" "I" (.int dm) := g2_J19.other W16 (Or.inl (ne_exa g0_J19 g1_J19 (by decide)))
        have f16_4 : Fld Z h16 a "com/example/utu/utu/check/Zone" "bounds" "[J" (.ref bs) := g3_J19.other W16 (Or.inl (ne_exa g0_J19 g1_J19 (by decide)))
        have sz16 : n0 ≤ h16.size := Nat.le_trans sz_J19 (Keep.of_wr W16).1
        have K16 : Keep h0 h16 [bs] := K_J19.wr W16 (Or.inl (List.mem_of_getElem? (i := 0) rfl))
        show Go p e below _ T16 (mkF m 99 #[.val (.ref a), .val (.int ix), .val (.int q), .val (.long r_1), .second, .val (.long r_2), .second, .val (.int i7)] [])
        refine goRetV X16 hx hlk hret (hb hby d11_99) (by decide) (by decide) ?_
        refine ⟨(fun i => (if i = (((ix * dm) + ix)).toNatClampNeg then (1 : Int64) else (fun i => (fa i)) i)), rfl, K16, A16⟩
  exact J19 _ (0 : Int32) f T2 h0 rfl (X2.mono (by decide) (by decide)) sz0 K0 g0 g1 g2 g3 g4 g5 (by decide)

def own_t1 (s6 s7 s8 s9 s10 s11 s12 : Slot) : Prop := (s6 = .unset ∧ s7 = .unset ∧ s8 = .unset ∧ s9 = .unset ∧ s10 = .unset ∧ s11 = .unset ∧ s12 = .unset) ∨
  (∃ y6, s6 = .val (.long y6) ∧ s7 = .second ∧ s8 = .unset ∧ s9 = .unset ∧ s10 = .unset ∧ s11 = .unset ∧ s12 = .unset) ∨ (∃ y6 y8 y10 y11, s6 = .val (.long y6) ∧ s7 = .second ∧ s8 = .val (.long y8) ∧ s9 = .second ∧ s10 = .val (.int y10) ∧ s11 = .val (.long y11) ∧ s12 = .second) ∨
  (∃ y6 y8 y10, s6 = .val (.long y6) ∧ s7 = .second ∧ s8 = .val (.long y8) ∧ s9 = .second ∧ s10 = .val (.int y10) ∧ s11 = .unset ∧ s12 = .unset)
def own_t2 (s11 s12 : Slot) : Prop := (s11 = .unset ∧ s12 = .unset) ∨ (∃ y11, s11 = .val (.long y11) ∧ s12 = .second)

theorem d5_0 : decode prog_27_method_14_code 0 = .ok (.aload_n 0, 1) := by decide +kernel
theorem d5_1 : decode prog_27_method_14_code 1 = .ok (.invokevirtual 45, 3) := by decide +kernel
theorem d5_4 : decode prog_27_method_14_code 4 = .ok (.ifCond .eq 5, 3) := by decide +kernel
theorem d5_7 : decode prog_27_method_14_code 7 = .ok (.iconst 0, 1) := by decide +kernel
theorem d5_8 : decode prog_27_method_14_code 8 = .ok (.ireturn, 1) := by decide +kernel
theorem d5_9 : decode prog_27_method_14_code 9 = .ok (.lload_n 3, 1) := by decide +kernel
theorem d5_10 : decode prog_27_method_14_code 10 = .ok (.aload_n 0, 1) := by decide +kernel
theorem d5_11 : decode prog_27_method_14_code 11 = .ok (.iload_n 1, 1) := by decide +kernel
theorem d5_12 : decode prog_27_method_14_code 12 = .ok (.iload_n 2, 1) := by decide +kernel
theorem d5_13 : decode prog_27_method_14_code 13 = .ok (.invokevirtual 49, 3) := by decide +kernel
theorem d5_16 : decode prog_27_method_14_code 16 = .ok (.lcmp, 1) := by decide +kernel
theorem d5_17 : decode prog_27_method_14_code 17 = .ok (.ifCond .lt 5, 3) := by decide +kernel
theorem d5_20 : decode prog_27_method_14_code 20 = .ok (.iconst 1, 1) := by decide +kernel
theorem d5_21 : decode prog_27_method_14_code 21 = .ok (.ireturn, 1) := by decide +kernel
theorem d5_22 : decode prog_27_method_14_code 22 = .ok (.aload_n 0, 1) := by decide +kernel
theorem d5_23 : decode prog_27_method_14_code 23 = .ok (.iload_n 2, 1) := by decide +kernel
theorem d5_24 : decode prog_27_method_14_code 24 = .ok (.iload_n 1, 1) := by decide +kernel
theorem d5_25 : decode prog_27_method_14_code 25 = .ok (.invokevirtual 49, 3) := by decide +kernel
theorem d5_28 : decode prog_27_method_14_code 28 = .ok (.lload_n 3, 1) := by decide +kernel
theorem d5_29 : decode prog_27_method_14_code 29 = .ok (.invokestatic 53, 3) := by decide +kernel
theorem d5_32 : decode prog_27_method_14_code 32 = .ok (.lconst 1, 1) := by decide +kernel
theorem d5_33 : decode prog_27_method_14_code 33 = .ok (.lcmp, 1) := by decide +kernel
theorem d5_34 : decode prog_27_method_14_code 34 = .ok (.ifCond .ge 18, 3) := by decide +kernel
theorem d5_37 : decode prog_27_method_14_code 37 = .ok (.aload_n 0, 1) := by decide +kernel
theorem d5_38 : decode prog_27_method_14_code 38 = .ok (.getfield 15, 3) := by decide +kernel
theorem d5_41 : decode prog_27_method_14_code 41 = .ok (.iconst 0, 1) := by decide +kernel
theorem d5_42 : decode prog_27_method_14_code 42 = .ok (.ldc2_w 57, 3) := by decide +kernel
theorem d5_45 : decode prog_27_method_14_code 45 = .ok (.iconst 0, 1) := by decide +kernel
theorem d5_46 : decode prog_27_method_14_code 46 = .ok (.invokestatic 59, 3) := by decide +kernel
theorem d5_49 : decode prog_27_method_14_code 49 = .ok (.lastore, 1) := by decide +kernel
theorem d5_50 : decode prog_27_method_14_code 50 = .ok (.iconst 0, 1) := by decide +kernel
theorem d5_51 : decode prog_27_method_14_code 51 = .ok (.ireturn, 1) := by decide +kernel
theorem d5_52 : decode prog_27_method_14_code 52 = .ok (.aload_n 0, 1) := by decide +kernel
theorem d5_53 : decode prog_27_method_14_code 53 = .ok (.getfield 15, 3) := by decide +kernel
theorem d5_56 : decode prog_27_method_14_code 56 = .ok (.iload_n 1, 1) := by decide +kernel
theorem d5_57 : decode prog_27_method_14_code 57 = .ok (.aload_n 0, 1) := by decide +kernel
theorem d5_58 : decode prog_27_method_14_code 58 = .ok (.getfield 9, 3) := by decide +kernel
theorem d5_61 : decode prog_27_method_14_code 61 = .ok (.imul, 1) := by decide +kernel
theorem d5_62 : decode prog_27_method_14_code 62 = .ok (.iload_n 2, 1) := by decide +kernel
theorem d5_63 : decode prog_27_method_14_code 63 = .ok (.iadd, 1) := by decide +kernel
theorem d5_64 : decode prog_27_method_14_code 64 = .ok (.lload_n 3, 1) := by decide +kernel
theorem d5_65 : decode prog_27_method_14_code 65 = .ok (.lastore, 1) := by decide +kernel
theorem d5_66 : decode prog_27_method_14_code 66 = .ok (.iconst 0, 1) := by decide +kernel
theorem d5_67 : decode prog_27_method_14_code 67 = .ok (.istore 5, 2) := by decide +kernel
theorem d5_69 : decode prog_27_method_14_code 69 = .ok (.iload 5, 2) := by decide +kernel
theorem d5_71 : decode prog_27_method_14_code 71 = .ok (.aload_n 0, 1) := by decide +kernel
theorem d5_72 : decode prog_27_method_14_code 72 = .ok (.getfield 9, 3) := by decide +kernel
theorem d5_75 : decode prog_27_method_14_code 75 = .ok (.if_icmp .ge 101, 3) := by decide +kernel
theorem d5_78 : decode prog_27_method_14_code 78 = .ok (.aload_n 0, 1) := by decide +kernel
theorem d5_79 : decode prog_27_method_14_code 79 = .ok (.iload 5, 2) := by decide +kernel
theorem d5_81 : decode prog_27_method_14_code 81 = .ok (.iload_n 1, 1) := by decide +kernel
theorem d5_82 : decode prog_27_method_14_code 82 = .ok (.invokevirtual 49, 3) := by decide +kernel
theorem d5_85 : decode prog_27_method_14_code 85 = .ok (.lstore 6, 2) := by decide +kernel
theorem d5_87 : decode prog_27_method_14_code 87 = .ok (.lload 6, 2) := by decide +kernel
theorem d5_89 : decode prog_27_method_14_code 89 = .ok (.ldc2_w 30, 3) := by decide +kernel
theorem d5_92 : decode prog_27_method_14_code 92 = .ok (.lcmp, 1) := by decide +kernel
theorem d5_93 : decode prog_27_method_14_code 93 = .ok (.ifCond .ne 6, 3) := by decide +kernel
theorem d5_96 : decode prog_27_method_14_code 96 = .ok (.goto 74, 3) := by decide +kernel
theorem d5_99 : decode prog_27_method_14_code 99 = .ok (.lload 6, 2) := by decide +kernel
theorem d5_101 : decode prog_27_method_14_code 101 = .ok (.lload_n 3, 1) := by decide +kernel
theorem d5_102 : decode prog_27_method_14_code 102 = .ok (.invokestatic 53, 3) := by decide +kernel
theorem d5_105 : decode prog_27_method_14_code 105 = .ok (.lstore 8, 2) := by decide +kernel
theorem d5_107 : decode prog_27_method_14_code 107 = .ok (.iconst 0, 1) := by decide +kernel
theorem d5_108 : decode prog_27_method_14_code 108 = .ok (.istore 10, 2) := by decide +kernel
theorem d5_110 : decode prog_27_method_14_code 110 = .ok (.iload 10, 2) := by decide +kernel
theorem d5_112 : decode prog_27_method_14_code 112 = .ok (.aload_n 0, 1) := by decide +kernel
theorem d5_113 : decode prog_27_method_14_code 113 = .ok (.getfield 9, 3) := by decide +kernel
theorem d5_116 : decode prog_27_method_14_code 116 = .ok (.if_icmp .ge 54, 3) := by decide +kernel
theorem d5_119 : decode prog_27_method_14_code 119 = .ok (.lload 8, 2) := by decide +kernel
theorem d5_121 : decode prog_27_method_14_code 121 = .ok (.aload_n 0, 1) := by decide +kernel
theorem d5_122 : decode prog_27_method_14_code 122 = .ok (.iload_n 2, 1) := by decide +kernel
theorem d5_123 : decode prog_27_method_14_code 123 = .ok (.iload 10, 2) := by decide +kernel
theorem d5_125 : decode prog_27_method_14_code 125 = .ok (.invokevirtual 49, 3) := by decide +kernel
theorem d5_128 : decode prog_27_method_14_code 128 = .ok (.invokestatic 53, 3) := by decide +kernel
theorem d5_131 : decode prog_27_method_14_code 131 = .ok (.lstore 11, 2) := by decide +kernel
theorem d5_133 : decode prog_27_method_14_code 133 = .ok (.lload 11, 2) := by decide +kernel
theorem d5_135 : decode prog_27_method_14_code 135 = .ok (.aload_n 0, 1) := by decide +kernel
theorem d5_136 : decode prog_27_method_14_code 136 = .ok (.iload 5, 2) := by decide +kernel
theorem d5_138 : decode prog_27_method_14_code 138 = .ok (.iload 10, 2) := by decide +kernel
theorem d5_140 : decode prog_27_method_14_code 140 = .ok (.invokevirtual 49, 3) := by decide +kernel
theorem d5_143 : decode prog_27_method_14_code 143 = .ok (.lcmp, 1) := by decide +kernel
theorem d5_144 : decode prog_27_method_14_code 144 = .ok (.ifCond .ge 20, 3) := by decide +kernel
theorem d5_147 : decode prog_27_method_14_code 147 = .ok (.aload_n 0, 1) := by decide +kernel
theorem d5_148 : decode prog_27_method_14_code 148 = .ok (.getfield 15, 3) := by decide +kernel
theorem d5_151 : decode prog_27_method_14_code 151 = .ok (.iload 5, 2) := by decide +kernel
theorem d5_153 : decode prog_27_method_14_code 153 = .ok (.aload_n 0, 1) := by decide +kernel
theorem d5_154 : decode prog_27_method_14_code 154 = .ok (.getfield 9, 3) := by decide +kernel
theorem d5_157 : decode prog_27_method_14_code 157 = .ok (.imul, 1) := by decide +kernel
theorem d5_158 : decode prog_27_method_14_code 158 = .ok (.iload 10, 2) := by decide +kernel
theorem d5_160 : decode prog_27_method_14_code 160 = .ok (.iadd, 1) := by decide +kernel
theorem d5_161 : decode prog_27_method_14_code 161 = .ok (.lload 11, 2) := by decide +kernel
theorem d5_163 : decode prog_27_method_14_code 163 = .ok (.lastore, 1) := by decide +kernel
theorem d5_164 : decode prog_27_method_14_code 164 = .ok (.iinc 10 1, 3) := by decide +kernel
theorem d5_167 : decode prog_27_method_14_code 167 = .ok (.goto (-57), 3) := by decide +kernel
theorem d5_170 : decode prog_27_method_14_code 170 = .ok (.iinc 5 1, 3) := by decide +kernel
theorem d5_173 : decode prog_27_method_14_code 173 = .ok (.goto (-104), 3) := by decide +kernel
theorem d5_176 : decode prog_27_method_14_code 176 = .ok (.iconst 1, 1) := by decide +kernel
theorem d5_177 : decode prog_27_method_14_code 177 = .ok (.ireturn, 1) := by decide +kernel
theorem pn_5 : plainFor (⟨"com/example/utu/utu/check/Zone", "constrain", "(IIJ)Z"⟩ : MethodName) = true := plainFor_of_name (by first | (simp [plainName, overriddenIn]; done) | decide +kernel)
theorem pd_06e7e94b : parseMethodDescriptor "()Z" = some ⟨[], some .boolean⟩ := by decide +kernel
theorem ef_rm5 (m : MethodId) (x0 : Addr) (x1 : Int32) (x2 : Int32) (x3 : Int64) : entryFrame m #[(.ref x0), (.int x1), (.int x2), (.long x3)] 13 = mkF m 0 #[.val (.ref x0), .val (.int x1), .val (.int x2), .val (.long x3), .second, .unset, .unset, .unset, .unset, .unset, .unset, .unset, .unset] [] := by first | (simp [entryFrame, mkF, argsToLocals, Value.category]; done) | rfl
def Q5 (Z : State) (n0 : Nat) (h0 : Heap) (a : Addr) (ix : Int32) (jx : Int32) (q : Int64) (dm : Int32) (bs : Addr) (n : Nat) (f : Nat → Int64) (v : Option Value) (h : Heap) : Prop := ∃ (r : Int32) (f' : Nat → Int64), v = some (.int r) ∧ Keep h0 h [bs] ∧ Ary Z h bs .long n (fun i => .long (f' i))
set_option maxRecDepth 65536 in
set_option maxHeartbeats 40000000 in
theorem rm5 (l : Launch) (Z : State) (a0 : Array Value) (hw : ∀ d ∈ tables_1, d.before a0 Z = true) (ws : List Jvm.Cond) (n0 : Nat) (h0 : Heap) (a : Addr) (ix : Int32) (jx : Int32) (q : Int64) (dm : Int32) (bs : Addr) (n : Nat) (f : Nat → Int64) (sz0 : n0 ≤ h0.size) (g0 : Exa Z h0 a "com/example/utu/utu/check/Zone") (g1 : Exa Z h0 bs "[J") (g2 : Fld Z h0 a "com/example/utu/utu/check/Zone" "dimension" "I" (.int dm)) (g3 : Fld Z h0 a "com/example/utu/utu/check/Zone" "bounds" "[J" (.ref bs)) (g4 : Ary Z h0 bs .long n (fun i => .long (f i))) (g5 : n0 ≤ bs) (hD : own_dim dm n) (hi : own_rg ix dm) (hj : own_rg jx dm) :
    Con l (⟨"com/example/utu/utu/check/Zone", "constrain", "(IIJ)Z"⟩ : MethodName) prog_27_method_14_code 13 (some .boolean) ({ frames := 2, cells := 0, slots := 0, locals := 60 } : Room) ws Z n0 #[(.ref a), (.int ix), (.int jx), (.long q)] h0 (Q5 Z n0 h0 a ix jx q dm bs n f) := by
  refine Con.body pn_5 ?_
  intro p e s m below meth c s₁ hx hby hml hown hnm hret hlk hZ X0
  have hown : s.vm.findClass "com/example/utu/utu/check/Zone" = some m.cls := hown
  have hnm : meth.name = "constrain" := hnm
  have K0 : Keep h0 h0 [bs] := Keep.refl _ _
  rw [show entryFrame m #[(.ref a), (.int ix), (.int jx), (.long q)] 13 = mkF m 0 #[.val (.ref a), .val (.int ix), .val (.int jx), .val (.long q), .second, .unset, .unset, .unset, .unset, .unset, .unset, .unset, .unset] [] from ef_rm5 m a ix jx q]
  show Go p e below (PostW s n0 (0 : Nat) (0 : Nat) (Q5 Z n0 h0 a ix jx q dm bs n f)) s₁ (mkF m 0 #[.val (.ref a), .val (.int ix), .val (.int jx), .val (.long q), .second, .unset, .unset, .unset, .unset, .unset, .unset, .unset, .unset] [])
  refine Go.st (T' := s₁) (g' := (mkF m 1 #[.val (.ref a), .val (.int ix), .val (.int jx), .val (.long q), .second, .unset, .unset, .unset, .unset, .unset, .unset, .unset, .unset] [(.ref a)])) (fun t_ k_ => XS.aloadN X0.here hx rfl (hb hby d5_0) rfl rfl k_) ?_
  refine goVirtS X0 hx hZ (y := (⟨"com/example/utu/utu/check/Zone", "isEmpty", "()Z"⟩ : MethodName)) hown (hw _ (List.mem_of_getElem? (i := 26) rfl)) (hw _ (List.mem_of_getElem? (i := 27) rfl)) (hw _ (List.mem_of_getElem? (i := 29) rfl)) (hw _ (List.mem_of_getElem? (i := 28) rfl)) (hw _ (List.mem_of_getElem? (i := 2) rfl)) (hw _ (List.mem_of_getElem? (i := 30) rfl)) (by decide) g0 (rm6 l Z a0 hw [] n0 h0 a dm bs n f sz0 g2 g3 g4 (by first | assumption | omega | simp_all)) 0 (by decide) (by decide) (by rw [hml]; rfl) [] [] (lenOf pd_06e7e94b rfl) rfl rfl rfl (hb hby d5_1) (by decide) (by decide) fun v1 T1 h1 X1 hq1 => ?_
  obtain ⟨r_1, rfl, eh1⟩ := hq1
  rw [eh1] at X1
  show Go p e below _ T1 (mkF m 4 #[.val (.ref a), .val (.int ix), .val (.int jx), .val (.long q), .second, .unset, .unset, .unset, .unset, .unset, .unset, .unset, .unset] [(.int r_1)])
  by_cases hc4 : r_1 = (0 : Int32)
  · skip
    refine Go.st (T' := T1) (g' := (mkF m 9 #[.val (.ref a), .val (.int ix), .val (.int jx), .val (.long q), .second, .unset, .unset, .unset, .unset, .unset, .unset, .unset, .unset] [])) (fun t_ k_ => XS.ifYes X1.here hx rfl (pc0 := 4) (pc' := 9) rfl (hb hby d5_4) rfl ((if0 _ _).trans (teq hc4).1) (by decide) (by decide) k_) ?_
    refine Go.st (T' := T1) (g' := (mkF m 10 #[.val (.ref a), .val (.int ix), .val (.int jx), .val (.long q), .second, .unset, .unset, .unset, .unset, .unset, .unset, .unset, .unset] [(.long q)])) (fun t_ k_ => XS.lloadN X1.here hx rfl (hb hby d5_9) rfl k_) ?_
    refine Go.st (T' := T1) (g' := (mkF m 11 #[.val (.ref a), .val (.int ix), .val (.int jx), .val (.long q), .second, .unset, .unset, .unset, .unset, .unset, .unset, .unset, .unset] [(.ref a), (.long q)])) (fun t_ k_ => XS.aloadN X1.here hx rfl (hb hby d5_10) rfl rfl k_) ?_
    refine Go.st (T' := T1) (g' := (mkF m 12 #[.val (.ref a), .val (.int ix), .val (.int jx), .val (.long q), .second, .unset, .unset, .unset, .unset, .unset, .unset, .unset, .unset] [(.int ix), (.ref a), (.long q)])) (fun t_ k_ => XS.iloadN X1.here hx rfl (hb hby d5_11) rfl k_) ?_
    refine Go.st (T' := T1) (g' := (mkF m 13 #[.val (.ref a), .val (.int ix), .val (.int jx), .val (.long q), .second, .unset, .unset, .unset, .unset, .unset, .unset, .unset, .unset] [(.int jx), (.int ix), (.ref a), (.long q)])) (fun t_ k_ => XS.iloadN X1.here hx rfl (hb hby d5_12) rfl k_) ?_
    refine goVirtS X1 hx hZ (y := (⟨"com/example/utu/utu/check/Zone", "get", "(II)J"⟩ : MethodName)) hown (hw _ (List.mem_of_getElem? (i := 31) rfl)) (hw _ (List.mem_of_getElem? (i := 32) rfl)) (hw _ (List.mem_of_getElem? (i := 34) rfl)) (hw _ (List.mem_of_getElem? (i := 33) rfl)) (hw _ (List.mem_of_getElem? (i := 2) rfl)) (hw _ (List.mem_of_getElem? (i := 35) rfl)) (by decide) g0 (rm7 l Z a0 hw [] n0 h0 a ix jx dm bs n f sz0 g2 g3 g4 (hD) (hi) (hj)) 2 (by decide) (by decide) (by rw [hml]; rfl) [(.int ix), (.int jx)] [(.long q)] (lenOf pd_7c8b0545 rfl) rfl rfl rfl (hb hby d5_13) (by decide) (by decide) fun v2 T2 h2 X2 hq2 => ?_
    obtain ⟨r_2, rfl, eh2⟩ := hq2
    rw [eh2] at X2
    show Go p e below _ T2 (mkF m 16 #[.val (.ref a), .val (.int ix), .val (.int jx), .val (.long q), .second, .unset, .unset, .unset, .unset, .unset, .unset, .unset, .unset] [(.long r_2), (.long q)])
    refine Go.st (T' := T2) (g' := (mkF m 17 #[.val (.ref a), .val (.int ix), .val (.int jx), .val (.long q), .second, .unset, .unset, .unset, .unset, .unset, .unset, .unset, .unset] [(.int (lcmpW q r_2))])) (fun t_ k_ => XS.lcmp X2.here hx rfl (hb hby d5_16) rfl k_) ?_
    by_cases hc17 : q < r_2
    · skip
      refine Go.st (T' := T2) (g' := (mkF m 22 #[.val (.ref a), .val (.int ix), .val (.int jx), .val (.long q), .second, .unset, .unset, .unset, .unset, .unset, .unset, .unset, .unset] [])) (fun t_ k_ => XS.ifYes X2.here hx rfl (pc0 := 17) (pc' := 22) rfl (hb hby d5_17) rfl (lcTlt hc17).1 (by decide) (by decide) k_) ?_
      refine Go.st (T' := T2) (g' := (mkF m 23 #[.val (.ref a), .val (.int ix), .val (.int jx), .val (.long q), .second, .unset, .unset, .unset, .unset, .unset, .unset, .unset, .unset] [(.ref a)])) (fun t_ k_ => XS.aloadN X2.here hx rfl (hb hby d5_22) rfl rfl k_) ?_
      refine Go.st (T' := T2) (g' := (mkF m 24 #[.val (.ref a), .val (.int ix), .val (.int jx), .val (.long q), .second, .unset, .unset, .unset, .unset, .unset, .unset, .unset, .unset] [(.int jx), (.ref a)])) (fun t_ k_ => XS.iloadN X2.here hx rfl (hb hby d5_23) rfl k_) ?_
      refine Go.st (T' := T2) (g' := (mkF m 25 #[.val (.ref a), .val (.int ix), .val (.int jx), .val (.long q), .second, .unset, .unset, .unset, .unset, .unset, .unset, .unset, .unset] [(.int ix), (.int jx), (.ref a)])) (fun t_ k_ => XS.iloadN X2.here hx rfl (hb hby d5_24) rfl k_) ?_
      refine goVirtS X2 hx hZ (y := (⟨"com/example/utu/utu/check/Zone", "get", "(II)J"⟩ : MethodName)) hown (hw _ (List.mem_of_getElem? (i := 31) rfl)) (hw _ (List.mem_of_getElem? (i := 32) rfl)) (hw _ (List.mem_of_getElem? (i := 34) rfl)) (hw _ (List.mem_of_getElem? (i := 33) rfl)) (hw _ (List.mem_of_getElem? (i := 2) rfl)) (hw _ (List.mem_of_getElem? (i := 35) rfl)) (by decide) g0 (rm7 l Z a0 hw [] n0 h0 a jx ix dm bs n f sz0 g2 g3 g4 (hD) (hj) (hi)) 0 (by decide) (by decide) (by rw [hml]; rfl) [(.int jx), (.int ix)] [] (lenOf pd_7c8b0545 rfl) rfl rfl rfl (hb hby d5_25) (by decide) (by decide) fun v3 T3 h3 X3 hq3 => ?_
      obtain ⟨r_3, rfl, eh3⟩ := hq3
      rw [eh3] at X3
      show Go p e below _ T3 (mkF m 28 #[.val (.ref a), .val (.int ix), .val (.int jx), .val (.long q), .second, .unset, .unset, .unset, .unset, .unset, .unset, .unset, .unset] [(.long r_3)])
      refine Go.st (T' := T3) (g' := (mkF m 29 #[.val (.ref a), .val (.int ix), .val (.int jx), .val (.long q), .second, .unset, .unset, .unset, .unset, .unset, .unset, .unset, .unset] [(.long q), (.long r_3)])) (fun t_ k_ => XS.lloadN X3.here hx rfl (hb hby d5_28) rfl k_) ?_
      refine goStatic X3 hx hZ (y := (⟨"com/example/utu/utu/check/Zone", "add", "(JJ)J"⟩ : MethodName)) hown (hw _ (List.mem_of_getElem? (i := 60) rfl)) (hw _ (List.mem_of_getElem? (i := 61) rfl)) (hw _ (List.mem_of_getElem? (i := 2) rfl)) (hw _ (List.mem_of_getElem? (i := 62) rfl)) (by decide) (rm12 l Z a0 hw [] n0 h0 r_3 q sz0) 0 (by decide) (by decide) (by rw [hml]; rfl) [(.long r_3), (.long q)] [] (lenOf pd_6c7814f2 rfl) rfl rfl rfl (hb hby d5_29) (by decide) (by decide) fun v4 T4 h4 X4 hq4 => ?_
      obtain ⟨r_4, rfl, eh4⟩ := hq4
      rw [eh4] at X4
      show Go p e below _ T4 (mkF m 32 #[.val (.ref a), .val (.int ix), .val (.int jx), .val (.long q), .second, .unset, .unset, .unset, .unset, .unset, .unset, .unset, .unset] [(.long r_4)])
      refine Go.st (T' := T4) (g' := (mkF m 33 #[.val (.ref a), .val (.int ix), .val (.int jx), .val (.long q), .second, .unset, .unset, .unset, .unset, .unset, .unset, .unset, .unset] [(.long (1 : Int64)), (.long r_4)])) (fun t_ k_ => XS.lconst X4.here hx rfl (hb hby d5_32) k_) ?_
      refine Go.st (T' := T4) (g' := (mkF m 34 #[.val (.ref a), .val (.int ix), .val (.int jx), .val (.long q), .second, .unset, .unset, .unset, .unset, .unset, .unset, .unset, .unset] [(.int (lcmpW r_4 (1 : Int64)))])) (fun t_ k_ => XS.lcmp X4.here hx rfl (hb hby d5_33) rfl k_) ?_
      by_cases hc34 : r_4 < (1 : Int64)
      · skip
        refine Go.st (T' := T4) (g' := (mkF m 37 #[.val (.ref a), .val (.int ix), .val (.int jx), .val (.long q), .second, .unset, .unset, .unset, .unset, .unset, .unset, .unset, .unset] [])) (fun t_ k_ => XS.ifNo X4.here hx rfl (hb hby d5_34) rfl (lcTlt hc34).2 k_) ?_
        refine Go.st (T' := T4) (g' := (mkF m 38 #[.val (.ref a), .val (.int ix), .val (.int jx), .val (.long q), .second, .unset, .unset, .unset, .unset, .unset, .unset, .unset, .unset] [(.ref a)])) (fun t_ k_ => XS.aloadN X4.here hx rfl (hb hby d5_37) rfl rfl k_) ?_
        refine goGet X4 hx hZ hown (host := "") (Or.inl (hw _ (List.mem_of_getElem? (i := 12) rfl))) Via.refl g3 (hb hby d5_38) fun T5 X5 => ?_
        show Go p e below _ T5 (mkF m 41 #[.val (.ref a), .val (.int ix), .val (.int jx), .val (.long q), .second, .unset, .unset, .unset, .unset, .unset, .unset, .unset, .unset] [(.ref bs)])
        refine Go.st (T' := T5) (g' := (mkF m 42 #[.val (.ref a), .val (.int ix), .val (.int jx), .val (.long q), .second, .unset, .unset, .unset, .unset, .unset, .unset, .unset, .unset] [(.int (0 : Int32)), (.ref bs)])) (fun t_ k_ => XS.iconst X5.here hx rfl (hb hby d5_41) k_) ?_
        refine Go.st (T' := T5) (g' := (mkF m 45 #[.val (.ref a), .val (.int ix), .val (.int jx), .val (.long q), .second, .unset, .unset, .unset, .unset, .unset, .unset, .unset, .unset] [(.long (-1 : Int64)), (.int (0 : Int32)), (.ref bs)])) (fun t_ k_ => Stn.ldcJ X5 hx hZ hown (hw _ (List.mem_of_getElem? (i := 68) rfl)) (hb hby d5_42) k_) ?_
        refine Go.st (T' := T5) (g' := (mkF m 46 #[.val (.ref a), .val (.int ix), .val (.int jx), .val (.long q), .second, .unset, .unset, .unset, .unset, .unset, .unset, .unset, .unset] [(.int (0 : Int32)), (.long (-1 : Int64)), (.int (0 : Int32)), (.ref bs)])) (fun t_ k_ => XS.iconst X5.here hx rfl (hb hby d5_45) k_) ?_
        refine goStatic X5 hx hZ (y := (⟨"com/example/utu/utu/check/Zone", "bound", "(JZ)J"⟩ : MethodName)) hown (hw _ (List.mem_of_getElem? (i := 59) rfl)) (hw _ (List.mem_of_getElem? (i := 19) rfl)) (hw _ (List.mem_of_getElem? (i := 2) rfl)) (hw _ (List.mem_of_getElem? (i := 20) rfl)) (by decide) (rm4 l Z a0 hw [] n0 h0 (-1 : Int64) (0 : Int32) sz0) 2 (by decide) (by decide) (by rw [hml]; rfl) [(.long (-1 : Int64)), (.int (0 : Int32))] [(.int (0 : Int32)), (.ref bs)] (lenOf pd_705eb782 rfl) rfl rfl rfl (hb hby d5_46) (by decide) (by decide) fun v6 T6 h6 X6 hq6 => ?_
        obtain ⟨r_6, rfl, eh6⟩ := hq6
        rw [eh6] at X6
        show Go p e below _ T6 (mkF m 49 #[.val (.ref a), .val (.int ix), .val (.int jx), .val (.long q), .second, .unset, .unset, .unset, .unset, .unset, .unset, .unset, .unset] [(.long r_6), (.int (0 : Int32)), (.ref bs)])
        refine goStJ X6 hx hZ (f := (fun i => (f i))) g4 (j := (0 : Int32)) (own_inb (by decide) (by have z := own_dim_lt hD; show 0 < n; omega)) g5 (hb hby d5_49) fun T7 h7 X7 W7 A7 => ?_
        have f7_0 : Exa Z h7 a "com/example/utu/utu/check/Zone" := g0.wr W7
        have f7_1 : Exa Z h7 bs "[J" := g1.wr W7
        have f7_2 : Fld Z h7 a "com/example/utu/utu/check/Zone" "dimension" "I" (.int dm) := g2.other W7 (Or.inl (ne_exa g0 g1 (by decide)))
        have f7_3 : Fld Z h7 a "com/example/utu/utu/check/Zone" "bounds" "[J" (.ref bs) := g3.other W7 (Or.inl (ne_exa g0 g1 (by decide)))
        have sz7 : n0 ≤ h7.size := Nat.le_trans sz0 (Keep.of_wr W7).1
        have K7 : Keep h0 h7 [bs] := K0.wr W7 (Or.inl (List.mem_of_getElem? (i := 0) rfl))
        show Go p e below _ T7 (mkF m 50 #[.val (.ref a), .val (.int ix), .val (.int jx), .val (.long q), .second, .unset, .unset, .unset, .unset, .unset, .unset, .unset, .unset] [])
        refine Go.st (T' := T7) (g' := (mkF m 51 #[.val (.ref a), .val (.int ix), .val (.int jx), .val (.long q), .second, .unset, .unset, .unset, .unset, .unset, .unset, .unset, .unset] [(.int (0 : Int32))])) (fun t_ k_ => XS.iconst X7.here hx rfl (hb hby d5_50) k_) ?_
        refine goRetZ X7 hx hlk hret (hb hby d5_51) (by decide) (by decide) (Or.inl rfl) ?_
        refine ⟨(0 : Int32), (fun i => (if i = ((0 : Int32)).toNatClampNeg then r_6 else (fun i => (f i)) i)), rfl, K7, A7⟩
      · skip
        refine Go.st (T' := T4) (g' := (mkF m 52 #[.val (.ref a), .val (.int ix), .val (.int jx), .val (.long q), .second, .unset, .unset, .unset, .unset, .unset, .unset, .unset, .unset] [])) (fun t_ k_ => XS.ifYes X4.here hx rfl (pc0 := 34) (pc' := 52) rfl (hb hby d5_34) rfl (lcFlt hc34).2 (by decide) (by decide) k_) ?_
        refine Go.st (T' := T4) (g' := (mkF m 53 #[.val (.ref a), .val (.int ix), .val (.int jx), .val (.long q), .second, .unset, .unset, .unset, .unset, .unset, .unset, .unset, .unset] [(.ref a)])) (fun t_ k_ => XS.aloadN X4.here hx rfl (hb hby d5_52) rfl rfl k_) ?_
        refine goGet X4 hx hZ hown (host := "") (Or.inl (hw _ (List.mem_of_getElem? (i := 12) rfl))) Via.refl g3 (hb hby d5_53) fun T8 X8 => ?_
        show Go p e below _ T8 (mkF m 56 #[.val (.ref a), .val (.int ix), .val (.int jx), .val (.long q), .second, .unset, .unset, .unset, .unset, .unset, .unset, .unset, .unset] [(.ref bs)])
        refine Go.st (T' := T8) (g' := (mkF m 57 #[.val (.ref a), .val (.int ix), .val (.int jx), .val (.long q), .second, .unset, .unset, .unset, .unset, .unset, .unset, .unset, .unset] [(.int ix), (.ref bs)])) (fun t_ k_ => XS.iloadN X8.here hx rfl (hb hby d5_56) rfl k_) ?_
        refine Go.st (T' := T8) (g' := (mkF m 58 #[.val (.ref a), .val (.int ix), .val (.int jx), .val (.long q), .second, .unset, .unset, .unset, .unset, .unset, .unset, .unset, .unset] [(.ref a), (.int ix), (.ref bs)])) (fun t_ k_ => XS.aloadN X8.here hx rfl (hb hby d5_57) rfl rfl k_) ?_
        refine goGet X8 hx hZ hown (host := "") (Or.inl (hw _ (List.mem_of_getElem? (i := 9) rfl))) Via.refl g2 (hb hby d5_58) fun T9 X9 => ?_
        show Go p e below _ T9 (mkF m 61 #[.val (.ref a), .val (.int ix), .val (.int jx), .val (.long q), .second, .unset, .unset, .unset, .unset, .unset, .unset, .unset, .unset] [(.int dm), (.int ix), (.ref bs)])
        refine Go.st (T' := T9) (g' := (mkF m 62 #[.val (.ref a), .val (.int ix), .val (.int jx), .val (.long q), .second, .unset, .unset, .unset, .unset, .unset, .unset, .unset, .unset] [(.int (ix * dm)), (.ref bs)])) (fun t_ k_ => XS.imul X9.here hx rfl (hb hby d5_61) rfl k_) ?_
        refine Go.st (T' := T9) (g' := (mkF m 63 #[.val (.ref a), .val (.int ix), .val (.int jx), .val (.long q), .second, .unset, .unset, .unset, .unset, .unset, .unset, .unset, .unset] [(.int jx), (.int (ix * dm)), (.ref bs)])) (fun t_ k_ => XS.iloadN X9.here hx rfl (hb hby d5_62) rfl k_) ?_
        refine Go.st (T' := T9) (g' := (mkF m 64 #[.val (.ref a), .val (.int ix), .val (.int jx), .val (.long q), .second, .unset, .unset, .unset, .unset, .unset, .unset, .unset, .unset] [(.int ((ix * dm) + jx)), (.ref bs)])) (fun t_ k_ => XS.iadd X9.here hx rfl (hb hby d5_63) rfl k_) ?_
        refine Go.st (T' := T9) (g' := (mkF m 65 #[.val (.ref a), .val (.int ix), .val (.int jx), .val (.long q), .second, .unset, .unset, .unset, .unset, .unset, .unset, .unset, .unset] [(.long q), (.int ((ix * dm) + jx)), (.ref bs)])) (fun t_ k_ => XS.lloadN X9.here hx rfl (hb hby d5_64) rfl k_) ?_
        refine goStJ X9 hx hZ (f := (fun i => (f i))) g4 (j := ((ix * dm) + jx)) (own_ix hD hi hj) g5 (hb hby d5_65) fun T10 h10 X10 W10 A10 => ?_
        have f10_0 : Exa Z h10 a "com/example/utu/utu/check/Zone" := g0.wr W10
        have f10_1 : Exa Z h10 bs "[J" := g1.wr W10
        have f10_2 : Fld Z h10 a "com/example/utu/utu/check/Zone" "dimension" "I" (.int dm) := g2.other W10 (Or.inl (ne_exa g0 g1 (by decide)))
        have f10_3 : Fld Z h10 a "com/example/utu/utu/check/Zone" "bounds" "[J" (.ref bs) := g3.other W10 (Or.inl (ne_exa g0 g1 (by decide)))
        have sz10 : n0 ≤ h10.size := Nat.le_trans sz0 (Keep.of_wr W10).1
        have K10 : Keep h0 h10 [bs] := K0.wr W10 (Or.inl (List.mem_of_getElem? (i := 0) rfl))
        show Go p e below _ T10 (mkF m 66 #[.val (.ref a), .val (.int ix), .val (.int jx), .val (.long q), .second, .unset, .unset, .unset, .unset, .unset, .unset, .unset, .unset] [])
        refine Go.st (T' := T10) (g' := (mkF m 67 #[.val (.ref a), .val (.int ix), .val (.int jx), .val (.long q), .second, .unset, .unset, .unset, .unset, .unset, .unset, .unset, .unset] [(.int (0 : Int32))])) (fun t_ k_ => XS.iconst X10.here hx rfl (hb hby d5_66) k_) ?_
        refine Go.st (T' := T10) (g' := (mkF m 69 #[.val (.ref a), .val (.int ix), .val (.int jx), .val (.long q), .second, .val (.int (0 : Int32)), .unset, .unset, .unset, .unset, .unset, .unset, .unset] [])) (fun t_ k_ => XS.istore X10.here hx rfl (hb hby d5_67) rfl (l' := #[.val (.ref a), .val (.int ix), .val (.int jx), .val (.long q), .second, .val (.int (0 : Int32)), .unset, .unset, .unset, .unset, .unset, .unset, .unset]) rfl k_) ?_
        have J69 : ∀ (k_J69 : Nat) (i5 : Int32) (fa : Nat → Int64) (s6 : Slot) (s7 : Slot) (s8 : Slot) (s9 : Slot) (s10 : Slot) (s11 : Slot) (s12 : Slot) (T_J69 : State) (h_J69 : Heap), (dm.toNatClampNeg - i5.toNatClampNeg) = k_J69 → Stn p l e ({ frames := 2, cells := 0, slots := 0, locals := 60 } : Room) s m #[(.ref a), (.int ix), (.int jx), (.long q)] below meth c n0 T_J69 h_J69 0 0 → n0 ≤ h_J69.size → Keep h0 h_J69 [bs] → Exa Z h_J69 a "com/example/utu/utu/check/Zone" → Exa Z h_J69 bs "[J" → Fld Z h_J69 a "com/example/utu/utu/check/Zone" "dimension" "I" (.int dm) → Fld Z h_J69 a "com/example/utu/utu/check/Zone" "bounds" "[J" (.ref bs) → Ary Z h_J69 bs .long n (fun i => .long (fa i)) → n0 ≤ bs → (¬ i5 < 0) → (own_t1 s6 s7 s8 s9 s10 s11 s12) → Go p e below (PostW s n0 (0 : Nat) (0 : Nat) (Q5 Z n0 h0 a ix jx q dm bs n f)) T_J69 (mkF m 69 #[.val (.ref a), .val (.int ix), .val (.int jx), .val (.long q), .second, .val (.int i5), s6, s7, s8, s9, s10, s11, s12] []) := by
          intro k_J69
          induction k_J69 using Nat.strongRecOn with
          | _ k_J69 ih_J69 =>
            intro i5 fa s6 s7 s8 s9 s10 s11 s12 T_J69 h_J69 hk_J69 X_J69 sz_J69 K_J69 g0_J69 g1_J69 g2_J69 g3_J69 g4_J69 g5_J69 hn5 ht1
            rcases ht1 with ⟨rfl, rfl, rfl, rfl, rfl, rfl, rfl⟩ | ⟨y6, rfl, rfl, rfl, rfl, rfl, rfl, rfl⟩ | ⟨y6, y8, y10, y11, rfl, rfl, rfl, rfl, rfl, rfl, rfl⟩ | ⟨y6, y8, y10, rfl, rfl, rfl, rfl, rfl, rfl, rfl⟩
            · skip
              refine Go.st (T' := T_J69) (g' := (mkF m 71 #[.val (.ref a), .val (.int ix), .val (.int jx), .val (.long q), .second, .val (.int i5), .unset, .unset, .unset, .unset, .unset, .unset, .unset] [(.int i5)])) (fun t_ k_ => XS.iload X_J69.here hx rfl (hb hby d5_69) rfl k_) ?_
              refine Go.st (T' := T_J69) (g' := (mkF m 72 #[.val (.ref a), .val (.int ix), .val (.int jx), .val (.long q), .second, .val (.int i5), .unset, .unset, .unset, .unset, .unset, .unset, .unset] [(.ref a), (.int i5)])) (fun t_ k_ => XS.aloadN X_J69.here hx rfl (hb hby d5_71) rfl rfl k_) ?_
              refine goGet X_J69 hx hZ hown (host := "") (Or.inl (hw _ (List.mem_of_getElem? (i := 9) rfl))) Via.refl g2_J69 (hb hby d5_72) fun T11 X11 => ?_
              show Go p e below _ T11 (mkF m 75 #[.val (.ref a), .val (.int ix), .val (.int jx), .val (.long q), .second, .val (.int i5), .unset, .unset, .unset, .unset, .unset, .unset, .unset] [(.int dm), (.int i5)])
              by_cases hc75 : i5 < dm
              · skip
                refine Go.st (T' := T11) (g' := (mkF m 78 #[.val (.ref a), .val (.int ix), .val (.int jx), .val (.long q), .second, .val (.int i5), .unset, .unset, .unset, .unset, .unset, .unset, .unset] [])) (fun t_ k_ => XS.icmpNo X11.here hx rfl (hb hby d5_75) rfl (tlt hc75).2.1 k_) ?_
                refine Go.st (T' := T11) (g' := (mkF m 79 #[.val (.ref a), .val (.int ix), .val (.int jx), .val (.long q), .second, .val (.int i5), .unset, .unset, .unset, .unset, .unset, .unset, .unset] [(.ref a)])) (fun t_ k_ => XS.aloadN X11.here hx rfl (hb hby d5_78) rfl rfl k_) ?_
                refine Go.st (T' := T11) (g' := (mkF m 81 #[.val (.ref a), .val (.int ix), .val (.int jx), .val (.long q), .second, .val (.int i5), .unset, .unset, .unset, .unset, .unset, .unset, .unset] [(.int i5), (.ref a)])) (fun t_ k_ => XS.iload X11.here hx rfl (hb hby d5_79) rfl k_) ?_
                refine Go.st (T' := T11) (g' := (mkF m 82 #[.val (.ref a), .val (.int ix), .val (.int jx), .val (.long q), .second, .val (.int i5), .unset, .unset, .unset, .unset, .unset, .unset, .unset] [(.int ix), (.int i5), (.ref a)])) (fun t_ k_ => XS.iloadN X11.here hx rfl (hb hby d5_81) rfl k_) ?_
                refine goVirtS X11 hx hZ (y := (⟨"com/example/utu/utu/check/Zone", "get", "(II)J"⟩ : MethodName)) hown (hw _ (List.mem_of_getElem? (i := 31) rfl)) (hw _ (List.mem_of_getElem? (i := 32) rfl)) (hw _ (List.mem_of_getElem? (i := 34) rfl)) (hw _ (List.mem_of_getElem? (i := 33) rfl)) (hw _ (List.mem_of_getElem? (i := 2) rfl)) (hw _ (List.mem_of_getElem? (i := 35) rfl)) (by decide) g0_J69 (rm7 l Z a0 hw [] n0 h_J69 a i5 ix dm bs n fa sz_J69 g2_J69 g3_J69 g4_J69 (hD) (⟨hn5, hc75⟩) (hi)) 0 (by decide) (by decide) (by rw [hml]; rfl) [(.int i5), (.int ix)] [] (lenOf pd_7c8b0545 rfl) rfl rfl rfl (hb hby d5_82) (by decide) (by decide) fun v12 T12 h12 X12 hq12 => ?_
                obtain ⟨r_12, rfl, eh12⟩ := hq12
                rw [eh12] at X12
                show Go p e below _ T12 (mkF m 85 #[.val (.ref a), .val (.int ix), .val (.int jx), .val (.long q), .second, .val (.int i5), .unset, .unset, .unset, .unset, .unset, .unset, .unset] [(.long r_12)])
                refine Go.st (T' := T12) (g' := (mkF m 87 #[.val (.ref a), .val (.int ix), .val (.int jx), .val (.long q), .second, .val (.int i5), .val (.long r_12), .second, .unset, .unset, .unset, .unset, .unset] [])) (fun t_ k_ => XS.lstore X12.here hx rfl (hb hby d5_85) rfl (l' := #[.val (.ref a), .val (.int ix), .val (.int jx), .val (.long q), .second, .val (.int i5), .val (.long r_12), .second, .unset, .unset, .unset, .unset, .unset]) rfl k_) ?_
                refine Go.st (T' := T12) (g' := (mkF m 89 #[.val (.ref a), .val (.int ix), .val (.int jx), .val (.long q), .second, .val (.int i5), .val (.long r_12), .second, .unset, .unset, .unset, .unset, .unset] [(.long r_12)])) (fun t_ k_ => XS.lload X12.here hx rfl (hb hby d5_87) rfl k_) ?_
                refine Go.st (T' := T12) (g' := (mkF m 92 #[.val (.ref a), .val (.int ix), .val (.int jx), .val (.long q), .second, .val (.int i5), .val (.long r_12), .second, .unset, .unset, .unset, .unset, .unset] [(.long (9223372036854775807 : Int64)), (.long r_12)])) (fun t_ k_ => Stn.ldcJ X12 hx hZ hown (hw _ (List.mem_of_getElem? (i := 63) rfl)) (hb hby d5_89) k_) ?_
                refine Go.st (T' := T12) (g' := (mkF m 93 #[.val (.ref a), .val (.int ix), .val (.int jx), .val (.long q), .second, .val (.int i5), .val (.long r_12), .second, .unset, .unset, .unset, .unset, .unset] [(.int (lcmpW r_12 (9223372036854775807 : Int64)))])) (fun t_ k_ => XS.lcmp X12.here hx rfl (hb hby d5_92) rfl k_) ?_
                by_cases hc93 : r_12 = (9223372036854775807 : Int64)
                · skip
                  refine Go.st (T' := T12) (g' := (mkF m 96 #[.val (.ref a), .val (.int ix), .val (.int jx), .val (.long q), .second, .val (.int i5), .val (.long r_12), .second, .unset, .unset, .unset, .unset, .unset] [])) (fun t_ k_ => XS.ifNo X12.here hx rfl (hb hby d5_93) rfl (lcTeq hc93).2 k_) ?_
                  refine Go.st (T' := T12) (g' := (mkF m 170 #[.val (.ref a), .val (.int ix), .val (.int jx), .val (.long q), .second, .val (.int i5), .val (.long r_12), .second, .unset, .unset, .unset, .unset, .unset] [])) (fun t_ k_ => XS.goto X12.here hx rfl (pc0 := 96) (pc' := 170) rfl (hb hby d5_96) (by decide) (by decide) k_) ?_
                  refine Go.st (T' := T12) (g' := (mkF m 173 #[.val (.ref a), .val (.int ix), .val (.int jx), .val (.long q), .second, .val (.int (i5 + (1 : Int32))), .val (.long r_12), .second, .unset, .unset, .unset, .unset, .unset] [])) (fun t_ k_ => XS.iinc X12.here hx rfl (hb hby d5_170) rfl (l' := #[.val (.ref a), .val (.int ix), .val (.int jx), .val (.long q), .second, .val (.int (i5 + (1 : Int32))), .val (.long r_12), .second, .unset, .unset, .unset, .unset, .unset]) rfl k_) ?_
                  refine Go.st (T' := T12) (g' := (mkF m 69 #[.val (.ref a), .val (.int ix), .val (.int jx), .val (.long q), .second, .val (.int (i5 + (1 : Int32))), .val (.long r_12), .second, .unset, .unset, .unset, .unset, .unset] [])) (fun t_ k_ => XS.goto X12.here hx rfl (pc0 := 173) (pc' := 69) rfl (hb hby d5_173) (by decide) (by decide) k_) ?_
                  exact ih_J69 _ (by have z := own_nxt hD ⟨hn5, hc75⟩; omega) (i5 + (1 : Int32)) fa (.val (.long r_12)) (.second) (.unset) (.unset) (.unset) (.unset) (.unset) T12 h_J69 rfl (X12.mono (by decide) (by decide)) sz_J69 K_J69 g0_J69 g1_J69 g2_J69 g3_J69 g4_J69 g5_J69 ((own_nxt hD ⟨hn5, hc75⟩).1) (by first | exact Or.inl ⟨rfl, rfl, rfl, rfl, rfl, rfl, rfl⟩ | exact Or.inr (Or.inl ⟨_, rfl, rfl, rfl, rfl, rfl, rfl, rfl⟩) | exact Or.inr (Or.inr (Or.inl ⟨_, _, _, _, rfl, rfl, rfl, rfl, rfl, rfl, rfl⟩)) | exact Or.inr (Or.inr (Or.inr ⟨_, _, _, rfl, rfl, rfl, rfl, rfl, rfl, rfl⟩)))
                · skip
                  refine Go.st (T' := T12) (g' := (mkF m 99 #[.val (.ref a), .val (.int ix), .val (.int jx), .val (.long q), .second, .val (.int i5), .val (.long r_12), .second, .unset, .unset, .unset, .unset, .unset] [])) (fun t_ k_ => XS.ifYes X12.here hx rfl (pc0 := 93) (pc' := 99) rfl (hb hby d5_93) rfl (lcFeq hc93).2 (by decide) (by decide) k_) ?_
                  refine Go.st (T' := T12) (g' := (mkF m 101 #[.val (.ref a), .val (.int ix), .val (.int jx), .val (.long q), .second, .val (.int i5), .val (.long r_12), .second, .unset, .unset, .unset, .unset, .unset] [(.long r_12)])) (fun t_ k_ => XS.lload X12.here hx rfl (hb hby d5_99) rfl k_) ?_
                  refine Go.st (T' := T12) (g' := (mkF m 102 #[.val (.ref a), .val (.int ix), .val (.int jx), .val (.long q), .second, .val (.int i5), .val (.long r_12), .second, .unset, .unset, .unset, .unset, .unset] [(.long q), (.long r_12)])) (fun t_ k_ => XS.lloadN X12.here hx rfl (hb hby d5_101) rfl k_) ?_
                  refine goStatic X12 hx hZ (y := (⟨"com/example/utu/utu/check/Zone", "add", "(JJ)J"⟩ : MethodName)) hown (hw _ (List.mem_of_getElem? (i := 60) rfl)) (hw _ (List.mem_of_getElem? (i := 61) rfl)) (hw _ (List.mem_of_getElem? (i := 2) rfl)) (hw _ (List.mem_of_getElem? (i := 62) rfl)) (by decide) (rm12 l Z a0 hw [] n0 h_J69 r_12 q sz_J69) 0 (by decide) (by decide) (by rw [hml]; rfl) [(.long r_12), (.long q)] [] (lenOf pd_6c7814f2 rfl) rfl rfl rfl (hb hby d5_102) (by decide) (by decide) fun v13 T13 h13 X13 hq13 => ?_
                  obtain ⟨r_13, rfl, eh13⟩ := hq13
                  rw [eh13] at X13
                  show Go p e below _ T13 (mkF m 105 #[.val (.ref a), .val (.int ix), .val (.int jx), .val (.long q), .second, .val (.int i5), .val (.long r_12), .second, .unset, .unset, .unset, .unset, .unset] [(.long r_13)])
                  refine Go.st (T' := T13) (g' := (mkF m 107 #[.val (.ref a), .val (.int ix), .val (.int jx), .val (.long q), .second, .val (.int i5), .val (.long r_12), .second, .val (.long r_13), .second, .unset, .unset, .unset] [])) (fun t_ k_ => XS.lstore X13.here hx rfl (hb hby d5_105) rfl (l' := #[.val (.ref a), .val (.int ix), .val (.int jx), .val (.long q), .second, .val (.int i5), .val (.long r_12), .second, .val (.long r_13), .second, .unset, .unset, .unset]) rfl k_) ?_
                  refine Go.st (T' := T13) (g' := (mkF m 108 #[.val (.ref a), .val (.int ix), .val (.int jx), .val (.long q), .second, .val (.int i5), .val (.long r_12), .second, .val (.long r_13), .second, .unset, .unset, .unset] [(.int (0 : Int32))])) (fun t_ k_ => XS.iconst X13.here hx rfl (hb hby d5_107) k_) ?_
                  refine Go.st (T' := T13) (g' := (mkF m 110 #[.val (.ref a), .val (.int ix), .val (.int jx), .val (.long q), .second, .val (.int i5), .val (.long r_12), .second, .val (.long r_13), .second, .val (.int (0 : Int32)), .unset, .unset] [])) (fun t_ k_ => XS.istore X13.here hx rfl (hb hby d5_108) rfl (l' := #[.val (.ref a), .val (.int ix), .val (.int jx), .val (.long q), .second, .val (.int i5), .val (.long r_12), .second, .val (.long r_13), .second, .val (.int (0 : Int32)), .unset, .unset]) rfl k_) ?_
                  have J110 : ∀ (k_J110 : Nat) (i10 : Int32) (fb : Nat → Int64) (s11 : Slot) (s12 : Slot) (T_J110 : State) (h_J110 : Heap), (dm.toNatClampNeg - i10.toNatClampNeg) = k_J110 → Stn p l e ({ frames := 2, cells := 0, slots := 0, locals := 60 } : Room) s m #[(.ref a), (.int ix), (.int jx), (.long q)] below meth c n0 T_J110 h_J110 0 0 → n0 ≤ h_J110.size → Keep h0 h_J110 [bs] → Exa Z h_J110 a "com/example/utu/utu/check/Zone" → Exa Z h_J110 bs "[J" → Fld Z h_J110 a "com/example/utu/utu/check/Zone" "dimension" "I" (.int dm) → Fld Z h_J110 a "com/example/utu/utu/check/Zone" "bounds" "[J" (.ref bs) → Ary Z h_J110 bs .long n (fun i => .long (fb i)) → n0 ≤ bs → (¬ i10 < 0) → (own_t2 s11 s12) → Go p e below (PostW s n0 (0 : Nat) (0 : Nat) (Q5 Z n0 h0 a ix jx q dm bs n f)) T_J110 (mkF m 110 #[.val (.ref a), .val (.int ix), .val (.int jx), .val (.long q), .second, .val (.int i5), .val (.long r_12), .second, .val (.long r_13), .second, .val (.int i10), s11, s12] []) := by
                    intro k_J110
                    induction k_J110 using Nat.strongRecOn with
                    | _ k_J110 ih_J110 =>
                      intro i10 fb s11 s12 T_J110 h_J110 hk_J110 X_J110 sz_J110 K_J110 g0_J110 g1_J110 g2_J110 g3_J110 g4_J110 g5_J110 hn10 ht2
                      rcases ht2 with ⟨rfl, rfl⟩ | ⟨y11, rfl, rfl⟩
                      · skip
                        refine Go.st (T' := T_J110) (g' := (mkF m 112 #[.val (.ref a), .val (.int ix), .val (.int jx), .val (.long q), .second, .val (.int i5), .val (.long r_12), .second, .val (.long r_13), .second, .val (.int i10), .unset, .unset] [(.int i10)])) (fun t_ k_ => XS.iload X_J110.here hx rfl (hb hby d5_110) rfl k_) ?_
                        refine Go.st (T' := T_J110) (g' := (mkF m 113 #[.val (.ref a), .val (.int ix), .val (.int jx), .val (.long q), .second, .val (.int i5), .val (.long r_12), .second, .val (.long r_13), .second, .val (.int i10), .unset, .unset] [(.ref a), (.int i10)])) (fun t_ k_ => XS.aloadN X_J110.here hx rfl (hb hby d5_112) rfl rfl k_) ?_
                        refine goGet X_J110 hx hZ hown (host := "") (Or.inl (hw _ (List.mem_of_getElem? (i := 9) rfl))) Via.refl g2_J110 (hb hby d5_113) fun T14 X14 => ?_
                        show Go p e below _ T14 (mkF m 116 #[.val (.ref a), .val (.int ix), .val (.int jx), .val (.long q), .second, .val (.int i5), .val (.long r_12), .second, .val (.long r_13), .second, .val (.int i10), .unset, .unset] [(.int dm), (.int i10)])
                        by_cases hc116 : i10 < dm
                        · skip
                          refine Go.st (T' := T14) (g' := (mkF m 119 #[.val (.ref a), .val (.int ix), .val (.int jx), .val (.long q), .second, .val (.int i5), .val (.long r_12), .second, .val (.long r_13), .second, .val (.int i10), .unset, .unset] [])) (fun t_ k_ => XS.icmpNo X14.here hx rfl (hb hby d5_116) rfl (tlt hc116).2.1 k_) ?_
                          refine Go.st (T' := T14) (g' := (mkF m 121 #[.val (.ref a), .val (.int ix), .val (.int jx), .val (.long q), .second, .val (.int i5), .val (.long r_12), .second, .val (.long r_13), .second, .val (.int i10), .unset, .unset] [(.long r_13)])) (fun t_ k_ => XS.lload X14.here hx rfl (hb hby d5_119) rfl k_) ?_
                          refine Go.st (T' := T14) (g' := (mkF m 122 #[.val (.ref a), .val (.int ix), .val (.int jx), .val (.long q), .second, .val (.int i5), .val (.long r_12), .second, .val (.long r_13), .second, .val (.int i10), .unset, .unset] [(.ref a), (.long r_13)])) (fun t_ k_ => XS.aloadN X14.here hx rfl (hb hby d5_121) rfl rfl k_) ?_
                          refine Go.st (T' := T14) (g' := (mkF m 123 #[.val (.ref a), .val (.int ix), .val (.int jx), .val (.long q), .second, .val (.int i5), .val (.long r_12), .second, .val (.long r_13), .second, .val (.int i10), .unset, .unset] [(.int jx), (.ref a), (.long r_13)])) (fun t_ k_ => XS.iloadN X14.here hx rfl (hb hby d5_122) rfl k_) ?_
                          refine Go.st (T' := T14) (g' := (mkF m 125 #[.val (.ref a), .val (.int ix), .val (.int jx), .val (.long q), .second, .val (.int i5), .val (.long r_12), .second, .val (.long r_13), .second, .val (.int i10), .unset, .unset] [(.int i10), (.int jx), (.ref a), (.long r_13)])) (fun t_ k_ => XS.iload X14.here hx rfl (hb hby d5_123) rfl k_) ?_
                          refine goVirtS X14 hx hZ (y := (⟨"com/example/utu/utu/check/Zone", "get", "(II)J"⟩ : MethodName)) hown (hw _ (List.mem_of_getElem? (i := 31) rfl)) (hw _ (List.mem_of_getElem? (i := 32) rfl)) (hw _ (List.mem_of_getElem? (i := 34) rfl)) (hw _ (List.mem_of_getElem? (i := 33) rfl)) (hw _ (List.mem_of_getElem? (i := 2) rfl)) (hw _ (List.mem_of_getElem? (i := 35) rfl)) (by decide) g0_J110 (rm7 l Z a0 hw [] n0 h_J110 a jx i10 dm bs n fb sz_J110 g2_J110 g3_J110 g4_J110 (hD) (hj) (⟨hn10, hc116⟩)) 2 (by decide) (by decide) (by rw [hml]; rfl) [(.int jx), (.int i10)] [(.long r_13)] (lenOf pd_7c8b0545 rfl) rfl rfl rfl (hb hby d5_125) (by decide) (by decide) fun v15 T15 h15 X15 hq15 => ?_
                          obtain ⟨r_15, rfl, eh15⟩ := hq15
                          rw [eh15] at X15
                          show Go p e below _ T15 (mkF m 128 #[.val (.ref a), .val (.int ix), .val (.int jx), .val (.long q), .second, .val (.int i5), .val (.long r_12), .second, .val (.long r_13), .second, .val (.int i10), .unset, .unset] [(.long r_15), (.long r_13)])
                          refine goStatic X15 hx hZ (y := (⟨"com/example/utu/utu/check/Zone", "add", "(JJ)J"⟩ : MethodName)) hown (hw _ (List.mem_of_getElem? (i := 60) rfl)) (hw _ (List.mem_of_getElem? (i := 61) rfl)) (hw _ (List.mem_of_getElem? (i := 2) rfl)) (hw _ (List.mem_of_getElem? (i := 62) rfl)) (by decide) (rm12 l Z a0 hw [] n0 h_J110 r_13 r_15 sz_J110) 0 (by decide) (by decide) (by rw [hml]; rfl) [(.long r_13), (.long r_15)] [] (lenOf pd_6c7814f2 rfl) rfl rfl rfl (hb hby d5_128) (by decide) (by decide) fun v16 T16 h16 X16 hq16 => ?_
                          obtain ⟨r_16, rfl, eh16⟩ := hq16
                          rw [eh16] at X16
                          show Go p e below _ T16 (mkF m 131 #[.val (.ref a), .val (.int ix), .val (.int jx), .val (.long q), .second, .val (.int i5), .val (.long r_12), .second, .val (.long r_13), .second, .val (.int i10), .unset, .unset] [(.long r_16)])
                          refine Go.st (T' := T16) (g' := (mkF m 133 #[.val (.ref a), .val (.int ix), .val (.int jx), .val (.long q), .second, .val (.int i5), .val (.long r_12), .second, .val (.long r_13), .second, .val (.int i10), .val (.long r_16), .second] [])) (fun t_ k_ => XS.lstore X16.here hx rfl (hb hby d5_131) rfl (l' := #[.val (.ref a), .val (.int ix), .val (.int jx), .val (.long q), .second, .val (.int i5), .val (.long r_12), .second, .val (.long r_13), .second, .val (.int i10), .val (.long r_16), .second]) rfl k_) ?_
                          refine Go.st (T' := T16) (g' := (mkF m 135 #[.val (.ref a), .val (.int ix), .val (.int jx), .val (.long q), .second, .val (.int i5), .val (.long r_12), .second, .val (.long r_13), .second, .val (.int i10), .val (.long r_16), .second] [(.long r_16)])) (fun t_ k_ => XS.lload X16.here hx rfl (hb hby d5_133) rfl k_) ?_
                          refine Go.st (T' := T16) (g' := (mkF m 136 #[.val (.ref a), .val (.int ix), .val (.int jx), .val (.long q), .second, .val (.int i5), .val (.long r_12), .second, .val (.long r_13), .second, .val (.int i10), .val (.long r_16), .second] [(.ref a), (.long r_16)])) (fun t_ k_ => XS.aloadN X16.here hx rfl (hb hby d5_135) rfl rfl k_) ?_
                          refine Go.st (T' := T16) (g' := (mkF m 138 #[.val (.ref a), .val (.int ix), .val (.int jx), .val (.long q), .second, .val (.int i5), .val (.long r_12), .second, .val (.long r_13), .second, .val (.int i10), .val (.long r_16), .second] [(.int i5), (.ref a), (.long r_16)])) (fun t_ k_ => XS.iload X16.here hx rfl (hb hby d5_136) rfl k_) ?_
                          refine Go.st (T' := T16) (g' := (mkF m 140 #[.val (.ref a), .val (.int ix), .val (.int jx), .val (.long q), .second, .val (.int i5), .val (.long r_12), .second, .val (.long r_13), .second, .val (.int i10), .val (.long r_16), .second] [(.int i10), (.int i5), (.ref a), (.long r_16)])) (fun t_ k_ => XS.iload X16.here hx rfl (hb hby d5_138) rfl k_) ?_
                          refine goVirtS X16 hx hZ (y := (⟨"com/example/utu/utu/check/Zone", "get", "(II)J"⟩ : MethodName)) hown (hw _ (List.mem_of_getElem? (i := 31) rfl)) (hw _ (List.mem_of_getElem? (i := 32) rfl)) (hw _ (List.mem_of_getElem? (i := 34) rfl)) (hw _ (List.mem_of_getElem? (i := 33) rfl)) (hw _ (List.mem_of_getElem? (i := 2) rfl)) (hw _ (List.mem_of_getElem? (i := 35) rfl)) (by decide) g0_J110 (rm7 l Z a0 hw [] n0 h_J110 a i5 i10 dm bs n fb sz_J110 g2_J110 g3_J110 g4_J110 (hD) (⟨hn5, hc75⟩) (⟨hn10, hc116⟩)) 2 (by decide) (by decide) (by rw [hml]; rfl) [(.int i5), (.int i10)] [(.long r_16)] (lenOf pd_7c8b0545 rfl) rfl rfl rfl (hb hby d5_140) (by decide) (by decide) fun v17 T17 h17 X17 hq17 => ?_
                          obtain ⟨r_17, rfl, eh17⟩ := hq17
                          rw [eh17] at X17
                          show Go p e below _ T17 (mkF m 143 #[.val (.ref a), .val (.int ix), .val (.int jx), .val (.long q), .second, .val (.int i5), .val (.long r_12), .second, .val (.long r_13), .second, .val (.int i10), .val (.long r_16), .second] [(.long r_17), (.long r_16)])
                          refine Go.st (T' := T17) (g' := (mkF m 144 #[.val (.ref a), .val (.int ix), .val (.int jx), .val (.long q), .second, .val (.int i5), .val (.long r_12), .second, .val (.long r_13), .second, .val (.int i10), .val (.long r_16), .second] [(.int (lcmpW r_16 r_17))])) (fun t_ k_ => XS.lcmp X17.here hx rfl (hb hby d5_143) rfl k_) ?_
                          by_cases hc144 : r_16 < r_17
                          · skip
                            refine Go.st (T' := T17) (g' := (mkF m 147 #[.val (.ref a), .val (.int ix), .val (.int jx), .val (.long q), .second, .val (.int i5), .val (.long r_12), .second, .val (.long r_13), .second, .val (.int i10), .val (.long r_16), .second] [])) (fun t_ k_ => XS.ifNo X17.here hx rfl (hb hby d5_144) rfl (lcTlt hc144).2 k_) ?_
                            refine Go.st (T' := T17) (g' := (mkF m 148 #[.val (.ref a), .val (.int ix), .val (.int jx), .val (.long q), .second, .val (.int i5), .val (.long r_12), .second, .val (.long r_13), .second, .val (.int i10), .val (.long r_16), .second] [(.ref a)])) (fun t_ k_ => XS.aloadN X17.here hx rfl (hb hby d5_147) rfl rfl k_) ?_
                            refine goGet X17 hx hZ hown (host := "") (Or.inl (hw _ (List.mem_of_getElem? (i := 12) rfl))) Via.refl g3_J110 (hb hby d5_148) fun T18 X18 => ?_
                            show Go p e below _ T18 (mkF m 151 #[.val (.ref a), .val (.int ix), .val (.int jx), .val (.long q), .second, .val (.int i5), .val (.long r_12), .second, .val (.long r_13), .second, .val (.int i10), .val (.long r_16), .second] [(.ref bs)])
                            refine Go.st (T' := T18) (g' := (mkF m 153 #[.val (.ref a), .val (.int ix), .val (.int jx), .val (.long q), .second, .val (.int i5), .val (.long r_12), .second, .val (.long r_13), .second, .val (.int i10), .val (.long r_16), .second] [(.int i5), (.ref bs)])) (fun t_ k_ => XS.iload X18.here hx rfl (hb hby d5_151) rfl k_) ?_
                            refine Go.st (T' := T18) (g' := (mkF m 154 #[.val (.ref a), .val (.int ix), .val (.int jx), .val (.long q), .second, .val (.int i5), .val (.long r_12), .second, .val (.long r_13), .second, .val (.int i10), .val (.long r_16), .second] [(.ref a), (.int i5), (.ref bs)])) (fun t_ k_ => XS.aloadN X18.here hx rfl (hb hby d5_153) rfl rfl k_) ?_
                            refine goGet X18 hx hZ hown (host := "") (Or.inl (hw _ (List.mem_of_getElem? (i := 9) rfl))) Via.refl g2_J110 (hb hby d5_154) fun T19 X19 => ?_
                            show Go p e below _ T19 (mkF m 157 #[.val (.ref a), .val (.int ix), .val (.int jx), .val (.long q), .second, .val (.int i5), .val (.long r_12), .second, .val (.long r_13), .second, .val (.int i10), .val (.long r_16), .second] [(.int dm), (.int i5), (.ref bs)])
                            refine Go.st (T' := T19) (g' := (mkF m 158 #[.val (.ref a), .val (.int ix), .val (.int jx), .val (.long q), .second, .val (.int i5), .val (.long r_12), .second, .val (.long r_13), .second, .val (.int i10), .val (.long r_16), .second] [(.int (i5 * dm)), (.ref bs)])) (fun t_ k_ => XS.imul X19.here hx rfl (hb hby d5_157) rfl k_) ?_
                            refine Go.st (T' := T19) (g' := (mkF m 160 #[.val (.ref a), .val (.int ix), .val (.int jx), .val (.long q), .second, .val (.int i5), .val (.long r_12), .second, .val (.long r_13), .second, .val (.int i10), .val (.long r_16), .second] [(.int i10), (.int (i5 * dm)), (.ref bs)])) (fun t_ k_ => XS.iload X19.here hx rfl (hb hby d5_158) rfl k_) ?_
                            refine Go.st (T' := T19) (g' := (mkF m 161 #[.val (.ref a), .val (.int ix), .val (.int jx), .val (.long q), .second, .val (.int i5), .val (.long r_12), .second, .val (.long r_13), .second, .val (.int i10), .val (.long r_16), .second] [(.int ((i5 * dm) + i10)), (.ref bs)])) (fun t_ k_ => XS.iadd X19.here hx rfl (hb hby d5_160) rfl k_) ?_
                            refine Go.st (T' := T19) (g' := (mkF m 163 #[.val (.ref a), .val (.int ix), .val (.int jx), .val (.long q), .second, .val (.int i5), .val (.long r_12), .second, .val (.long r_13), .second, .val (.int i10), .val (.long r_16), .second] [(.long r_16), (.int ((i5 * dm) + i10)), (.ref bs)])) (fun t_ k_ => XS.lload X19.here hx rfl (hb hby d5_161) rfl k_) ?_
                            refine goStJ X19 hx hZ (f := (fun i => (fb i))) g4_J110 (j := ((i5 * dm) + i10)) (own_ix hD ⟨hn5, hc75⟩ ⟨hn10, hc116⟩) g5_J110 (hb hby d5_163) fun T20 h20 X20 W20 A20 => ?_
                            have f20_1 : Exa Z h20 a "com/example/utu/utu/check/Zone" := g0_J110.wr W20
                            have f20_2 : Exa Z h20 bs "[J" := g1_J110.wr W20
                            have f20_3 : Fld Z h20 a "com/example/utu/utu/check/Zone" "dimension" "I" (.int dm) := g2_J110.other W20 (Or.inl (ne_exa g0_J110 g1_J110 (by decide)))
                            have f20_4 : Fld Z h20 a "com/example/utu/utu/check/Zone" "bounds" "[J" (.ref bs) := g3_J110.other W20 (Or.inl (ne_exa g0_J110 g1_J110 (by decide)))
                            have sz20 : n0 ≤ h20.size := Nat.le_trans sz_J110 (Keep.of_wr W20).1
                            have K20 : Keep h0 h20 [bs] := K_J110.wr W20 (Or.inl (List.mem_of_getElem? (i := 0) rfl))
                            show Go p e below _ T20 (mkF m 164 #[.val (.ref a), .val (.int ix), .val (.int jx), .val (.long q), .second, .val (.int i5), .val (.long r_12), .second, .val (.long r_13), .second, .val (.int i10), .val (.long r_16), .second] [])
                            refine Go.st (T' := T20) (g' := (mkF m 167 #[.val (.ref a), .val (.int ix), .val (.int jx), .val (.long q), .second, .val (.int i5), .val (.long r_12), .second, .val (.long r_13), .second, .val (.int (i10 + (1 : Int32))), .val (.long r_16), .second] [])) (fun t_ k_ => XS.iinc X20.here hx rfl (hb hby d5_164) rfl (l' := #[.val (.ref a), .val (.int ix), .val (.int jx), .val (.long q), .second, .val (.int i5), .val (.long r_12), .second, .val (.long r_13), .second, .val (.int (i10 + (1 : Int32))), .val (.long r_16), .second]) rfl k_) ?_
                            refine Go.st (T' := T20) (g' := (mkF m 110 #[.val (.ref a), .val (.int ix), .val (.int jx), .val (.long q), .second, .val (.int i5), .val (.long r_12), .second, .val (.long r_13), .second, .val (.int (i10 + (1 : Int32))), .val (.long r_16), .second] [])) (fun t_ k_ => XS.goto X20.here hx rfl (pc0 := 167) (pc' := 110) rfl (hb hby d5_167) (by decide) (by decide) k_) ?_
                            exact ih_J110 _ (by have z := own_nxt hD ⟨hn10, hc116⟩; omega) (i10 + (1 : Int32)) (fun i => (if i = (((i5 * dm) + i10)).toNatClampNeg then r_16 else (fun i => (fb i)) i)) (.val (.long r_16)) (.second) T20 h20 rfl (X20.mono (by decide) (by decide)) sz20 K20 f20_1 f20_2 f20_3 f20_4 A20 g5_J110 ((own_nxt hD ⟨hn10, hc116⟩).1) (by first | exact Or.inl ⟨rfl, rfl⟩ | exact Or.inr ⟨_, rfl, rfl⟩)
                          · skip
                            refine Go.st (T' := T17) (g' := (mkF m 164 #[.val (.ref a), .val (.int ix), .val (.int jx), .val (.long q), .second, .val (.int i5), .val (.long r_12), .second, .val (.long r_13), .second, .val (.int i10), .val (.long r_16), .second] [])) (fun t_ k_ => XS.ifYes X17.here hx rfl (pc0 := 144) (pc' := 164) rfl (hb hby d5_144) rfl (lcFlt hc144).2 (by decide) (by decide) k_) ?_
                            refine Go.st (T' := T17) (g' := (mkF m 167 #[.val (.ref a), .val (.int ix), .val (.int jx), .val (.long q), .second, .val (.int i5), .val (.long r_12), .second, .val (.long r_13), .second, .val (.int (i10 + (1 : Int32))), .val (.long r_16), .second] [])) (fun t_ k_ => XS.iinc X17.here hx rfl (hb hby d5_164) rfl (l' := #[.val (.ref a), .val (.int ix), .val (.int jx), .val (.long q), .second, .val (.int i5), .val (.long r_12), .second, .val (.long r_13), .second, .val (.int (i10 + (1 : Int32))), .val (.long r_16), .second]) rfl k_) ?_
                            refine Go.st (T' := T17) (g' := (mkF m 110 #[.val (.ref a), .val (.int ix), .val (.int jx), .val (.long q), .second, .val (.int i5), .val (.long r_12), .second, .val (.long r_13), .second, .val (.int (i10 + (1 : Int32))), .val (.long r_16), .second] [])) (fun t_ k_ => XS.goto X17.here hx rfl (pc0 := 167) (pc' := 110) rfl (hb hby d5_167) (by decide) (by decide) k_) ?_
                            exact ih_J110 _ (by have z := own_nxt hD ⟨hn10, hc116⟩; omega) (i10 + (1 : Int32)) fb (.val (.long r_16)) (.second) T17 h_J110 rfl (X17.mono (by decide) (by decide)) sz_J110 K_J110 g0_J110 g1_J110 g2_J110 g3_J110 g4_J110 g5_J110 ((own_nxt hD ⟨hn10, hc116⟩).1) (by first | exact Or.inl ⟨rfl, rfl⟩ | exact Or.inr ⟨_, rfl, rfl⟩)
                        · skip
                          refine Go.st (T' := T14) (g' := (mkF m 170 #[.val (.ref a), .val (.int ix), .val (.int jx), .val (.long q), .second, .val (.int i5), .val (.long r_12), .second, .val (.long r_13), .second, .val (.int i10), .unset, .unset] [])) (fun t_ k_ => XS.icmpYes X14.here hx rfl (pc0 := 116) (pc' := 170) rfl (hb hby d5_116) rfl (flt hc116).2.1 (by decide) (by decide) k_) ?_
                          refine Go.st (T' := T14) (g' := (mkF m 173 #[.val (.ref a), .val (.int ix), .val (.int jx), .val (.long q), .second, .val (.int (i5 + (1 : Int32))), .val (.long r_12), .second, .val (.long r_13), .second, .val (.int i10), .unset, .unset] [])) (fun t_ k_ => XS.iinc X14.here hx rfl (hb hby d5_170) rfl (l' := #[.val (.ref a), .val (.int ix), .val (.int jx), .val (.long q), .second, .val (.int (i5 + (1 : Int32))), .val (.long r_12), .second, .val (.long r_13), .second, .val (.int i10), .unset, .unset]) rfl k_) ?_
                          refine Go.st (T' := T14) (g' := (mkF m 69 #[.val (.ref a), .val (.int ix), .val (.int jx), .val (.long q), .second, .val (.int (i5 + (1 : Int32))), .val (.long r_12), .second, .val (.long r_13), .second, .val (.int i10), .unset, .unset] [])) (fun t_ k_ => XS.goto X14.here hx rfl (pc0 := 173) (pc' := 69) rfl (hb hby d5_173) (by decide) (by decide) k_) ?_
                          exact ih_J69 _ (by have z := own_nxt hD ⟨hn5, hc75⟩; omega) (i5 + (1 : Int32)) fb (.val (.long r_12)) (.second) (.val (.long r_13)) (.second) (.val (.int i10)) (.unset) (.unset) T14 h_J110 rfl (X14.mono (by decide) (by decide)) sz_J110 K_J110 g0_J110 g1_J110 g2_J110 g3_J110 g4_J110 g5_J110 ((own_nxt hD ⟨hn5, hc75⟩).1) (by first | exact Or.inl ⟨rfl, rfl, rfl, rfl, rfl, rfl, rfl⟩ | exact Or.inr (Or.inl ⟨_, rfl, rfl, rfl, rfl, rfl, rfl, rfl⟩) | exact Or.inr (Or.inr (Or.inl ⟨_, _, _, _, rfl, rfl, rfl, rfl, rfl, rfl, rfl⟩)) | exact Or.inr (Or.inr (Or.inr ⟨_, _, _, rfl, rfl, rfl, rfl, rfl, rfl, rfl⟩)))
                      · skip
                        refine Go.st (T' := T_J110) (g' := (mkF m 112 #[.val (.ref a), .val (.int ix), .val (.int jx), .val (.long q), .second, .val (.int i5), .val (.long r_12), .second, .val (.long r_13), .second, .val (.int i10), .val (.long y11), .second] [(.int i10)])) (fun t_ k_ => XS.iload X_J110.here hx rfl (hb hby d5_110) rfl k_) ?_
                        refine Go.st (T' := T_J110) (g' := (mkF m 113 #[.val (.ref a), .val (.int ix), .val (.int jx), .val (.long q), .second, .val (.int i5), .val (.long r_12), .second, .val (.long r_13), .second, .val (.int i10), .val (.long y11), .second] [(.ref a), (.int i10)])) (fun t_ k_ => XS.aloadN X_J110.here hx rfl (hb hby d5_112) rfl rfl k_) ?_
                        refine goGet X_J110 hx hZ hown (host := "") (Or.inl (hw _ (List.mem_of_getElem? (i := 9) rfl))) Via.refl g2_J110 (hb hby d5_113) fun T21 X21 => ?_
                        show Go p e below _ T21 (mkF m 116 #[.val (.ref a), .val (.int ix), .val (.int jx), .val (.long q), .second, .val (.int i5), .val (.long r_12), .second, .val (.long r_13), .second, .val (.int i10), .val (.long y11), .second] [(.int dm), (.int i10)])
                        by_cases hc116 : i10 < dm
                        · skip
                          refine Go.st (T' := T21) (g' := (mkF m 119 #[.val (.ref a), .val (.int ix), .val (.int jx), .val (.long q), .second, .val (.int i5), .val (.long r_12), .second, .val (.long r_13), .second, .val (.int i10), .val (.long y11), .second] [])) (fun t_ k_ => XS.icmpNo X21.here hx rfl (hb hby d5_116) rfl (tlt hc116).2.1 k_) ?_
                          refine Go.st (T' := T21) (g' := (mkF m 121 #[.val (.ref a), .val (.int ix), .val (.int jx), .val (.long q), .second, .val (.int i5), .val (.long r_12), .second, .val (.long r_13), .second, .val (.int i10), .val (.long y11), .second] [(.long r_13)])) (fun t_ k_ => XS.lload X21.here hx rfl (hb hby d5_119) rfl k_) ?_
                          refine Go.st (T' := T21) (g' := (mkF m 122 #[.val (.ref a), .val (.int ix), .val (.int jx), .val (.long q), .second, .val (.int i5), .val (.long r_12), .second, .val (.long r_13), .second, .val (.int i10), .val (.long y11), .second] [(.ref a), (.long r_13)])) (fun t_ k_ => XS.aloadN X21.here hx rfl (hb hby d5_121) rfl rfl k_) ?_
                          refine Go.st (T' := T21) (g' := (mkF m 123 #[.val (.ref a), .val (.int ix), .val (.int jx), .val (.long q), .second, .val (.int i5), .val (.long r_12), .second, .val (.long r_13), .second, .val (.int i10), .val (.long y11), .second] [(.int jx), (.ref a), (.long r_13)])) (fun t_ k_ => XS.iloadN X21.here hx rfl (hb hby d5_122) rfl k_) ?_
                          refine Go.st (T' := T21) (g' := (mkF m 125 #[.val (.ref a), .val (.int ix), .val (.int jx), .val (.long q), .second, .val (.int i5), .val (.long r_12), .second, .val (.long r_13), .second, .val (.int i10), .val (.long y11), .second] [(.int i10), (.int jx), (.ref a), (.long r_13)])) (fun t_ k_ => XS.iload X21.here hx rfl (hb hby d5_123) rfl k_) ?_
                          refine goVirtS X21 hx hZ (y := (⟨"com/example/utu/utu/check/Zone", "get", "(II)J"⟩ : MethodName)) hown (hw _ (List.mem_of_getElem? (i := 31) rfl)) (hw _ (List.mem_of_getElem? (i := 32) rfl)) (hw _ (List.mem_of_getElem? (i := 34) rfl)) (hw _ (List.mem_of_getElem? (i := 33) rfl)) (hw _ (List.mem_of_getElem? (i := 2) rfl)) (hw _ (List.mem_of_getElem? (i := 35) rfl)) (by decide) g0_J110 (rm7 l Z a0 hw [] n0 h_J110 a jx i10 dm bs n fb sz_J110 g2_J110 g3_J110 g4_J110 (hD) (hj) (⟨hn10, hc116⟩)) 2 (by decide) (by decide) (by rw [hml]; rfl) [(.int jx), (.int i10)] [(.long r_13)] (lenOf pd_7c8b0545 rfl) rfl rfl rfl (hb hby d5_125) (by decide) (by decide) fun v22 T22 h22 X22 hq22 => ?_
                          obtain ⟨r_22, rfl, eh22⟩ := hq22
                          rw [eh22] at X22
                          show Go p e below _ T22 (mkF m 128 #[.val (.ref a), .val (.int ix), .val (.int jx), .val (.long q), .second, .val (.int i5), .val (.long r_12), .second, .val (.long r_13), .second, .val (.int i10), .val (.long y11), .second] [(.long r_22), (.long r_13)])
                          refine goStatic X22 hx hZ (y := (⟨"com/example/utu/utu/check/Zone", "add", "(JJ)J"⟩ : MethodName)) hown (hw _ (List.mem_of_getElem? (i := 60) rfl)) (hw _ (List.mem_of_getElem? (i := 61) rfl)) (hw _ (List.mem_of_getElem? (i := 2) rfl)) (hw _ (List.mem_of_getElem? (i := 62) rfl)) (by decide) (rm12 l Z a0 hw [] n0 h_J110 r_13 r_22 sz_J110) 0 (by decide) (by decide) (by rw [hml]; rfl) [(.long r_13), (.long r_22)] [] (lenOf pd_6c7814f2 rfl) rfl rfl rfl (hb hby d5_128) (by decide) (by decide) fun v23 T23 h23 X23 hq23 => ?_
                          obtain ⟨r_23, rfl, eh23⟩ := hq23
                          rw [eh23] at X23
                          show Go p e below _ T23 (mkF m 131 #[.val (.ref a), .val (.int ix), .val (.int jx), .val (.long q), .second, .val (.int i5), .val (.long r_12), .second, .val (.long r_13), .second, .val (.int i10), .val (.long y11), .second] [(.long r_23)])
                          refine Go.st (T' := T23) (g' := (mkF m 133 #[.val (.ref a), .val (.int ix), .val (.int jx), .val (.long q), .second, .val (.int i5), .val (.long r_12), .second, .val (.long r_13), .second, .val (.int i10), .val (.long r_23), .second] [])) (fun t_ k_ => XS.lstore X23.here hx rfl (hb hby d5_131) rfl (l' := #[.val (.ref a), .val (.int ix), .val (.int jx), .val (.long q), .second, .val (.int i5), .val (.long r_12), .second, .val (.long r_13), .second, .val (.int i10), .val (.long r_23), .second]) rfl k_) ?_
                          refine Go.st (T' := T23) (g' := (mkF m 135 #[.val (.ref a), .val (.int ix), .val (.int jx), .val (.long q), .second, .val (.int i5), .val (.long r_12), .second, .val (.long r_13), .second, .val (.int i10), .val (.long r_23), .second] [(.long r_23)])) (fun t_ k_ => XS.lload X23.here hx rfl (hb hby d5_133) rfl k_) ?_
                          refine Go.st (T' := T23) (g' := (mkF m 136 #[.val (.ref a), .val (.int ix), .val (.int jx), .val (.long q), .second, .val (.int i5), .val (.long r_12), .second, .val (.long r_13), .second, .val (.int i10), .val (.long r_23), .second] [(.ref a), (.long r_23)])) (fun t_ k_ => XS.aloadN X23.here hx rfl (hb hby d5_135) rfl rfl k_) ?_
                          refine Go.st (T' := T23) (g' := (mkF m 138 #[.val (.ref a), .val (.int ix), .val (.int jx), .val (.long q), .second, .val (.int i5), .val (.long r_12), .second, .val (.long r_13), .second, .val (.int i10), .val (.long r_23), .second] [(.int i5), (.ref a), (.long r_23)])) (fun t_ k_ => XS.iload X23.here hx rfl (hb hby d5_136) rfl k_) ?_
                          refine Go.st (T' := T23) (g' := (mkF m 140 #[.val (.ref a), .val (.int ix), .val (.int jx), .val (.long q), .second, .val (.int i5), .val (.long r_12), .second, .val (.long r_13), .second, .val (.int i10), .val (.long r_23), .second] [(.int i10), (.int i5), (.ref a), (.long r_23)])) (fun t_ k_ => XS.iload X23.here hx rfl (hb hby d5_138) rfl k_) ?_
                          refine goVirtS X23 hx hZ (y := (⟨"com/example/utu/utu/check/Zone", "get", "(II)J"⟩ : MethodName)) hown (hw _ (List.mem_of_getElem? (i := 31) rfl)) (hw _ (List.mem_of_getElem? (i := 32) rfl)) (hw _ (List.mem_of_getElem? (i := 34) rfl)) (hw _ (List.mem_of_getElem? (i := 33) rfl)) (hw _ (List.mem_of_getElem? (i := 2) rfl)) (hw _ (List.mem_of_getElem? (i := 35) rfl)) (by decide) g0_J110 (rm7 l Z a0 hw [] n0 h_J110 a i5 i10 dm bs n fb sz_J110 g2_J110 g3_J110 g4_J110 (hD) (⟨hn5, hc75⟩) (⟨hn10, hc116⟩)) 2 (by decide) (by decide) (by rw [hml]; rfl) [(.int i5), (.int i10)] [(.long r_23)] (lenOf pd_7c8b0545 rfl) rfl rfl rfl (hb hby d5_140) (by decide) (by decide) fun v24 T24 h24 X24 hq24 => ?_
                          obtain ⟨r_24, rfl, eh24⟩ := hq24
                          rw [eh24] at X24
                          show Go p e below _ T24 (mkF m 143 #[.val (.ref a), .val (.int ix), .val (.int jx), .val (.long q), .second, .val (.int i5), .val (.long r_12), .second, .val (.long r_13), .second, .val (.int i10), .val (.long r_23), .second] [(.long r_24), (.long r_23)])
                          refine Go.st (T' := T24) (g' := (mkF m 144 #[.val (.ref a), .val (.int ix), .val (.int jx), .val (.long q), .second, .val (.int i5), .val (.long r_12), .second, .val (.long r_13), .second, .val (.int i10), .val (.long r_23), .second] [(.int (lcmpW r_23 r_24))])) (fun t_ k_ => XS.lcmp X24.here hx rfl (hb hby d5_143) rfl k_) ?_
                          by_cases hc144 : r_23 < r_24
                          · skip
                            refine Go.st (T' := T24) (g' := (mkF m 147 #[.val (.ref a), .val (.int ix), .val (.int jx), .val (.long q), .second, .val (.int i5), .val (.long r_12), .second, .val (.long r_13), .second, .val (.int i10), .val (.long r_23), .second] [])) (fun t_ k_ => XS.ifNo X24.here hx rfl (hb hby d5_144) rfl (lcTlt hc144).2 k_) ?_
                            refine Go.st (T' := T24) (g' := (mkF m 148 #[.val (.ref a), .val (.int ix), .val (.int jx), .val (.long q), .second, .val (.int i5), .val (.long r_12), .second, .val (.long r_13), .second, .val (.int i10), .val (.long r_23), .second] [(.ref a)])) (fun t_ k_ => XS.aloadN X24.here hx rfl (hb hby d5_147) rfl rfl k_) ?_
                            refine goGet X24 hx hZ hown (host := "") (Or.inl (hw _ (List.mem_of_getElem? (i := 12) rfl))) Via.refl g3_J110 (hb hby d5_148) fun T25 X25 => ?_
                            show Go p e below _ T25 (mkF m 151 #[.val (.ref a), .val (.int ix), .val (.int jx), .val (.long q), .second, .val (.int i5), .val (.long r_12), .second, .val (.long r_13), .second, .val (.int i10), .val (.long r_23), .second] [(.ref bs)])
                            refine Go.st (T' := T25) (g' := (mkF m 153 #[.val (.ref a), .val (.int ix), .val (.int jx), .val (.long q), .second, .val (.int i5), .val (.long r_12), .second, .val (.long r_13), .second, .val (.int i10), .val (.long r_23), .second] [(.int i5), (.ref bs)])) (fun t_ k_ => XS.iload X25.here hx rfl (hb hby d5_151) rfl k_) ?_
                            refine Go.st (T' := T25) (g' := (mkF m 154 #[.val (.ref a), .val (.int ix), .val (.int jx), .val (.long q), .second, .val (.int i5), .val (.long r_12), .second, .val (.long r_13), .second, .val (.int i10), .val (.long r_23), .second] [(.ref a), (.int i5), (.ref bs)])) (fun t_ k_ => XS.aloadN X25.here hx rfl (hb hby d5_153) rfl rfl k_) ?_
                            refine goGet X25 hx hZ hown (host := "") (Or.inl (hw _ (List.mem_of_getElem? (i := 9) rfl))) Via.refl g2_J110 (hb hby d5_154) fun T26 X26 => ?_
                            show Go p e below _ T26 (mkF m 157 #[.val (.ref a), .val (.int ix), .val (.int jx), .val (.long q), .second, .val (.int i5), .val (.long r_12), .second, .val (.long r_13), .second, .val (.int i10), .val (.long r_23), .second] [(.int dm), (.int i5), (.ref bs)])
                            refine Go.st (T' := T26) (g' := (mkF m 158 #[.val (.ref a), .val (.int ix), .val (.int jx), .val (.long q), .second, .val (.int i5), .val (.long r_12), .second, .val (.long r_13), .second, .val (.int i10), .val (.long r_23), .second] [(.int (i5 * dm)), (.ref bs)])) (fun t_ k_ => XS.imul X26.here hx rfl (hb hby d5_157) rfl k_) ?_
                            refine Go.st (T' := T26) (g' := (mkF m 160 #[.val (.ref a), .val (.int ix), .val (.int jx), .val (.long q), .second, .val (.int i5), .val (.long r_12), .second, .val (.long r_13), .second, .val (.int i10), .val (.long r_23), .second] [(.int i10), (.int (i5 * dm)), (.ref bs)])) (fun t_ k_ => XS.iload X26.here hx rfl (hb hby d5_158) rfl k_) ?_
                            refine Go.st (T' := T26) (g' := (mkF m 161 #[.val (.ref a), .val (.int ix), .val (.int jx), .val (.long q), .second, .val (.int i5), .val (.long r_12), .second, .val (.long r_13), .second, .val (.int i10), .val (.long r_23), .second] [(.int ((i5 * dm) + i10)), (.ref bs)])) (fun t_ k_ => XS.iadd X26.here hx rfl (hb hby d5_160) rfl k_) ?_
                            refine Go.st (T' := T26) (g' := (mkF m 163 #[.val (.ref a), .val (.int ix), .val (.int jx), .val (.long q), .second, .val (.int i5), .val (.long r_12), .second, .val (.long r_13), .second, .val (.int i10), .val (.long r_23), .second] [(.long r_23), (.int ((i5 * dm) + i10)), (.ref bs)])) (fun t_ k_ => XS.lload X26.here hx rfl (hb hby d5_161) rfl k_) ?_
                            refine goStJ X26 hx hZ (f := (fun i => (fb i))) g4_J110 (j := ((i5 * dm) + i10)) (own_ix hD ⟨hn5, hc75⟩ ⟨hn10, hc116⟩) g5_J110 (hb hby d5_163) fun T27 h27 X27 W27 A27 => ?_
                            have f27_1 : Exa Z h27 a "com/example/utu/utu/check/Zone" := g0_J110.wr W27
                            have f27_2 : Exa Z h27 bs "[J" := g1_J110.wr W27
                            have f27_3 : Fld Z h27 a "com/example/utu/utu/check/Zone" "dimension" "I" (.int dm) := g2_J110.other W27 (Or.inl (ne_exa g0_J110 g1_J110 (by decide)))
                            have f27_4 : Fld Z h27 a "com/example/utu/utu/check/Zone" "bounds" "[J" (.ref bs) := g3_J110.other W27 (Or.inl (ne_exa g0_J110 g1_J110 (by decide)))
                            have sz27 : n0 ≤ h27.size := Nat.le_trans sz_J110 (Keep.of_wr W27).1
                            have K27 : Keep h0 h27 [bs] := K_J110.wr W27 (Or.inl (List.mem_of_getElem? (i := 0) rfl))
                            show Go p e below _ T27 (mkF m 164 #[.val (.ref a), .val (.int ix), .val (.int jx), .val (.long q), .second, .val (.int i5), .val (.long r_12), .second, .val (.long r_13), .second, .val (.int i10), .val (.long r_23), .second] [])
                            refine Go.st (T' := T27) (g' := (mkF m 167 #[.val (.ref a), .val (.int ix), .val (.int jx), .val (.long q), .second, .val (.int i5), .val (.long r_12), .second, .val (.long r_13), .second, .val (.int (i10 + (1 : Int32))), .val (.long r_23), .second] [])) (fun t_ k_ => XS.iinc X27.here hx rfl (hb hby d5_164) rfl (l' := #[.val (.ref a), .val (.int ix), .val (.int jx), .val (.long q), .second, .val (.int i5), .val (.long r_12), .second, .val (.long r_13), .second, .val (.int (i10 + (1 : Int32))), .val (.long r_23), .second]) rfl k_) ?_
                            refine Go.st (T' := T27) (g' := (mkF m 110 #[.val (.ref a), .val (.int ix), .val (.int jx), .val (.long q), .second, .val (.int i5), .val (.long r_12), .second, .val (.long r_13), .second, .val (.int (i10 + (1 : Int32))), .val (.long r_23), .second] [])) (fun t_ k_ => XS.goto X27.here hx rfl (pc0 := 167) (pc' := 110) rfl (hb hby d5_167) (by decide) (by decide) k_) ?_
                            exact ih_J110 _ (by have z := own_nxt hD ⟨hn10, hc116⟩; omega) (i10 + (1 : Int32)) (fun i => (if i = (((i5 * dm) + i10)).toNatClampNeg then r_23 else (fun i => (fb i)) i)) (.val (.long r_23)) (.second) T27 h27 rfl (X27.mono (by decide) (by decide)) sz27 K27 f27_1 f27_2 f27_3 f27_4 A27 g5_J110 ((own_nxt hD ⟨hn10, hc116⟩).1) (by first | exact Or.inl ⟨rfl, rfl⟩ | exact Or.inr ⟨_, rfl, rfl⟩)
                          · skip
                            refine Go.st (T' := T24) (g' := (mkF m 164 #[.val (.ref a), .val (.int ix), .val (.int jx), .val (.long q), .second, .val (.int i5), .val (.long r_12), .second, .val (.long r_13), .second, .val (.int i10), .val (.long r_23), .second] [])) (fun t_ k_ => XS.ifYes X24.here hx rfl (pc0 := 144) (pc' := 164) rfl (hb hby d5_144) rfl (lcFlt hc144).2 (by decide) (by decide) k_) ?_
                            refine Go.st (T' := T24) (g' := (mkF m 167 #[.val (.ref a), .val (.int ix), .val (.int jx), .val (.long q), .second, .val (.int i5), .val (.long r_12), .second, .val (.long r_13), .second, .val (.int (i10 + (1 : Int32))), .val (.long r_23), .second] [])) (fun t_ k_ => XS.iinc X24.here hx rfl (hb hby d5_164) rfl (l' := #[.val (.ref a), .val (.int ix), .val (.int jx), .val (.long q), .second, .val (.int i5), .val (.long r_12), .second, .val (.long r_13), .second, .val (.int (i10 + (1 : Int32))), .val (.long r_23), .second]) rfl k_) ?_
                            refine Go.st (T' := T24) (g' := (mkF m 110 #[.val (.ref a), .val (.int ix), .val (.int jx), .val (.long q), .second, .val (.int i5), .val (.long r_12), .second, .val (.long r_13), .second, .val (.int (i10 + (1 : Int32))), .val (.long r_23), .second] [])) (fun t_ k_ => XS.goto X24.here hx rfl (pc0 := 167) (pc' := 110) rfl (hb hby d5_167) (by decide) (by decide) k_) ?_
                            exact ih_J110 _ (by have z := own_nxt hD ⟨hn10, hc116⟩; omega) (i10 + (1 : Int32)) fb (.val (.long r_23)) (.second) T24 h_J110 rfl (X24.mono (by decide) (by decide)) sz_J110 K_J110 g0_J110 g1_J110 g2_J110 g3_J110 g4_J110 g5_J110 ((own_nxt hD ⟨hn10, hc116⟩).1) (by first | exact Or.inl ⟨rfl, rfl⟩ | exact Or.inr ⟨_, rfl, rfl⟩)
                        · skip
                          refine Go.st (T' := T21) (g' := (mkF m 170 #[.val (.ref a), .val (.int ix), .val (.int jx), .val (.long q), .second, .val (.int i5), .val (.long r_12), .second, .val (.long r_13), .second, .val (.int i10), .val (.long y11), .second] [])) (fun t_ k_ => XS.icmpYes X21.here hx rfl (pc0 := 116) (pc' := 170) rfl (hb hby d5_116) rfl (flt hc116).2.1 (by decide) (by decide) k_) ?_
                          refine Go.st (T' := T21) (g' := (mkF m 173 #[.val (.ref a), .val (.int ix), .val (.int jx), .val (.long q), .second, .val (.int (i5 + (1 : Int32))), .val (.long r_12), .second, .val (.long r_13), .second, .val (.int i10), .val (.long y11), .second] [])) (fun t_ k_ => XS.iinc X21.here hx rfl (hb hby d5_170) rfl (l' := #[.val (.ref a), .val (.int ix), .val (.int jx), .val (.long q), .second, .val (.int (i5 + (1 : Int32))), .val (.long r_12), .second, .val (.long r_13), .second, .val (.int i10), .val (.long y11), .second]) rfl k_) ?_
                          refine Go.st (T' := T21) (g' := (mkF m 69 #[.val (.ref a), .val (.int ix), .val (.int jx), .val (.long q), .second, .val (.int (i5 + (1 : Int32))), .val (.long r_12), .second, .val (.long r_13), .second, .val (.int i10), .val (.long y11), .second] [])) (fun t_ k_ => XS.goto X21.here hx rfl (pc0 := 173) (pc' := 69) rfl (hb hby d5_173) (by decide) (by decide) k_) ?_
                          exact ih_J69 _ (by have z := own_nxt hD ⟨hn5, hc75⟩; omega) (i5 + (1 : Int32)) fb (.val (.long r_12)) (.second) (.val (.long r_13)) (.second) (.val (.int i10)) (.val (.long y11)) (.second) T21 h_J110 rfl (X21.mono (by decide) (by decide)) sz_J110 K_J110 g0_J110 g1_J110 g2_J110 g3_J110 g4_J110 g5_J110 ((own_nxt hD ⟨hn5, hc75⟩).1) (by first | exact Or.inl ⟨rfl, rfl, rfl, rfl, rfl, rfl, rfl⟩ | exact Or.inr (Or.inl ⟨_, rfl, rfl, rfl, rfl, rfl, rfl, rfl⟩) | exact Or.inr (Or.inr (Or.inl ⟨_, _, _, _, rfl, rfl, rfl, rfl, rfl, rfl, rfl⟩)) | exact Or.inr (Or.inr (Or.inr ⟨_, _, _, rfl, rfl, rfl, rfl, rfl, rfl, rfl⟩)))
                  exact J110 _ (0 : Int32) fa (.unset) (.unset) T13 h_J69 rfl (X13.mono (by decide) (by decide)) sz_J69 K_J69 g0_J69 g1_J69 g2_J69 g3_J69 g4_J69 g5_J69 (by decide) (by first | exact Or.inl ⟨rfl, rfl⟩ | exact Or.inr ⟨_, rfl, rfl⟩)
              · skip
                refine Go.st (T' := T11) (g' := (mkF m 176 #[.val (.ref a), .val (.int ix), .val (.int jx), .val (.long q), .second, .val (.int i5), .unset, .unset, .unset, .unset, .unset, .unset, .unset] [])) (fun t_ k_ => XS.icmpYes X11.here hx rfl (pc0 := 75) (pc' := 176) rfl (hb hby d5_75) rfl (flt hc75).2.1 (by decide) (by decide) k_) ?_
                refine Go.st (T' := T11) (g' := (mkF m 177 #[.val (.ref a), .val (.int ix), .val (.int jx), .val (.long q), .second, .val (.int i5), .unset, .unset, .unset, .unset, .unset, .unset, .unset] [(.int (1 : Int32))])) (fun t_ k_ => XS.iconst X11.here hx rfl (hb hby d5_176) k_) ?_
                refine goRetZ X11 hx hlk hret (hb hby d5_177) (by decide) (by decide) (Or.inr rfl) ?_
                refine ⟨(1 : Int32), fa, rfl, K_J69, g4_J69⟩
            · skip
              refine Go.st (T' := T_J69) (g' := (mkF m 71 #[.val (.ref a), .val (.int ix), .val (.int jx), .val (.long q), .second, .val (.int i5), .val (.long y6), .second, .unset, .unset, .unset, .unset, .unset] [(.int i5)])) (fun t_ k_ => XS.iload X_J69.here hx rfl (hb hby d5_69) rfl k_) ?_
              refine Go.st (T' := T_J69) (g' := (mkF m 72 #[.val (.ref a), .val (.int ix), .val (.int jx), .val (.long q), .second, .val (.int i5), .val (.long y6), .second, .unset, .unset, .unset, .unset, .unset] [(.ref a), (.int i5)])) (fun t_ k_ => XS.aloadN X_J69.here hx rfl (hb hby d5_71) rfl rfl k_) ?_
              refine goGet X_J69 hx hZ hown (host := "") (Or.inl (hw _ (List.mem_of_getElem? (i := 9) rfl))) Via.refl g2_J69 (hb hby d5_72) fun T28 X28 => ?_
              show Go p e below _ T28 (mkF m 75 #[.val (.ref a), .val (.int ix), .val (.int jx), .val (.long q), .second, .val (.int i5), .val (.long y6), .second, .unset, .unset, .unset, .unset, .unset] [(.int dm), (.int i5)])
              by_cases hc75 : i5 < dm
              · skip
                refine Go.st (T' := T28) (g' := (mkF m 78 #[.val (.ref a), .val (.int ix), .val (.int jx), .val (.long q), .second, .val (.int i5), .val (.long y6), .second, .unset, .unset, .unset, .unset, .unset] [])) (fun t_ k_ => XS.icmpNo X28.here hx rfl (hb hby d5_75) rfl (tlt hc75).2.1 k_) ?_
                refine Go.st (T' := T28) (g' := (mkF m 79 #[.val (.ref a), .val (.int ix), .val (.int jx), .val (.long q), .second, .val (.int i5), .val (.long y6), .second, .unset, .unset, .unset, .unset, .unset] [(.ref a)])) (fun t_ k_ => XS.aloadN X28.here hx rfl (hb hby d5_78) rfl rfl k_) ?_
                refine Go.st (T' := T28) (g' := (mkF m 81 #[.val (.ref a), .val (.int ix), .val (.int jx), .val (.long q), .second, .val (.int i5), .val (.long y6), .second, .unset, .unset, .unset, .unset, .unset] [(.int i5), (.ref a)])) (fun t_ k_ => XS.iload X28.here hx rfl (hb hby d5_79) rfl k_) ?_
                refine Go.st (T' := T28) (g' := (mkF m 82 #[.val (.ref a), .val (.int ix), .val (.int jx), .val (.long q), .second, .val (.int i5), .val (.long y6), .second, .unset, .unset, .unset, .unset, .unset] [(.int ix), (.int i5), (.ref a)])) (fun t_ k_ => XS.iloadN X28.here hx rfl (hb hby d5_81) rfl k_) ?_
                refine goVirtS X28 hx hZ (y := (⟨"com/example/utu/utu/check/Zone", "get", "(II)J"⟩ : MethodName)) hown (hw _ (List.mem_of_getElem? (i := 31) rfl)) (hw _ (List.mem_of_getElem? (i := 32) rfl)) (hw _ (List.mem_of_getElem? (i := 34) rfl)) (hw _ (List.mem_of_getElem? (i := 33) rfl)) (hw _ (List.mem_of_getElem? (i := 2) rfl)) (hw _ (List.mem_of_getElem? (i := 35) rfl)) (by decide) g0_J69 (rm7 l Z a0 hw [] n0 h_J69 a i5 ix dm bs n fa sz_J69 g2_J69 g3_J69 g4_J69 (hD) (⟨hn5, hc75⟩) (hi)) 0 (by decide) (by decide) (by rw [hml]; rfl) [(.int i5), (.int ix)] [] (lenOf pd_7c8b0545 rfl) rfl rfl rfl (hb hby d5_82) (by decide) (by decide) fun v29 T29 h29 X29 hq29 => ?_
                obtain ⟨r_29, rfl, eh29⟩ := hq29
                rw [eh29] at X29
                show Go p e below _ T29 (mkF m 85 #[.val (.ref a), .val (.int ix), .val (.int jx), .val (.long q), .second, .val (.int i5), .val (.long y6), .second, .unset, .unset, .unset, .unset, .unset] [(.long r_29)])
                refine Go.st (T' := T29) (g' := (mkF m 87 #[.val (.ref a), .val (.int ix), .val (.int jx), .val (.long q), .second, .val (.int i5), .val (.long r_29), .second, .unset, .unset, .unset, .unset, .unset] [])) (fun t_ k_ => XS.lstore X29.here hx rfl (hb hby d5_85) rfl (l' := #[.val (.ref a), .val (.int ix), .val (.int jx), .val (.long q), .second, .val (.int i5), .val (.long r_29), .second, .unset, .unset, .unset, .unset, .unset]) rfl k_) ?_
                refine Go.st (T' := T29) (g' := (mkF m 89 #[.val (.ref a), .val (.int ix), .val (.int jx), .val (.long q), .second, .val (.int i5), .val (.long r_29), .second, .unset, .unset, .unset, .unset, .unset] [(.long r_29)])) (fun t_ k_ => XS.lload X29.here hx rfl (hb hby d5_87) rfl k_) ?_
                refine Go.st (T' := T29) (g' := (mkF m 92 #[.val (.ref a), .val (.int ix), .val (.int jx), .val (.long q), .second, .val (.int i5), .val (.long r_29), .second, .unset, .unset, .unset, .unset, .unset] [(.long (9223372036854775807 : Int64)), (.long r_29)])) (fun t_ k_ => Stn.ldcJ X29 hx hZ hown (hw _ (List.mem_of_getElem? (i := 63) rfl)) (hb hby d5_89) k_) ?_
                refine Go.st (T' := T29) (g' := (mkF m 93 #[.val (.ref a), .val (.int ix), .val (.int jx), .val (.long q), .second, .val (.int i5), .val (.long r_29), .second, .unset, .unset, .unset, .unset, .unset] [(.int (lcmpW r_29 (9223372036854775807 : Int64)))])) (fun t_ k_ => XS.lcmp X29.here hx rfl (hb hby d5_92) rfl k_) ?_
                by_cases hc93 : r_29 = (9223372036854775807 : Int64)
                · skip
                  refine Go.st (T' := T29) (g' := (mkF m 96 #[.val (.ref a), .val (.int ix), .val (.int jx), .val (.long q), .second, .val (.int i5), .val (.long r_29), .second, .unset, .unset, .unset, .unset, .unset] [])) (fun t_ k_ => XS.ifNo X29.here hx rfl (hb hby d5_93) rfl (lcTeq hc93).2 k_) ?_
                  refine Go.st (T' := T29) (g' := (mkF m 170 #[.val (.ref a), .val (.int ix), .val (.int jx), .val (.long q), .second, .val (.int i5), .val (.long r_29), .second, .unset, .unset, .unset, .unset, .unset] [])) (fun t_ k_ => XS.goto X29.here hx rfl (pc0 := 96) (pc' := 170) rfl (hb hby d5_96) (by decide) (by decide) k_) ?_
                  refine Go.st (T' := T29) (g' := (mkF m 173 #[.val (.ref a), .val (.int ix), .val (.int jx), .val (.long q), .second, .val (.int (i5 + (1 : Int32))), .val (.long r_29), .second, .unset, .unset, .unset, .unset, .unset] [])) (fun t_ k_ => XS.iinc X29.here hx rfl (hb hby d5_170) rfl (l' := #[.val (.ref a), .val (.int ix), .val (.int jx), .val (.long q), .second, .val (.int (i5 + (1 : Int32))), .val (.long r_29), .second, .unset, .unset, .unset, .unset, .unset]) rfl k_) ?_
                  refine Go.st (T' := T29) (g' := (mkF m 69 #[.val (.ref a), .val (.int ix), .val (.int jx), .val (.long q), .second, .val (.int (i5 + (1 : Int32))), .val (.long r_29), .second, .unset, .unset, .unset, .unset, .unset] [])) (fun t_ k_ => XS.goto X29.here hx rfl (pc0 := 173) (pc' := 69) rfl (hb hby d5_173) (by decide) (by decide) k_) ?_
                  exact ih_J69 _ (by have z := own_nxt hD ⟨hn5, hc75⟩; omega) (i5 + (1 : Int32)) fa (.val (.long r_29)) (.second) (.unset) (.unset) (.unset) (.unset) (.unset) T29 h_J69 rfl (X29.mono (by decide) (by decide)) sz_J69 K_J69 g0_J69 g1_J69 g2_J69 g3_J69 g4_J69 g5_J69 ((own_nxt hD ⟨hn5, hc75⟩).1) (by first | exact Or.inl ⟨rfl, rfl, rfl, rfl, rfl, rfl, rfl⟩ | exact Or.inr (Or.inl ⟨_, rfl, rfl, rfl, rfl, rfl, rfl, rfl⟩) | exact Or.inr (Or.inr (Or.inl ⟨_, _, _, _, rfl, rfl, rfl, rfl, rfl, rfl, rfl⟩)) | exact Or.inr (Or.inr (Or.inr ⟨_, _, _, rfl, rfl, rfl, rfl, rfl, rfl, rfl⟩)))
                · skip
                  refine Go.st (T' := T29) (g' := (mkF m 99 #[.val (.ref a), .val (.int ix), .val (.int jx), .val (.long q), .second, .val (.int i5), .val (.long r_29), .second, .unset, .unset, .unset, .unset, .unset] [])) (fun t_ k_ => XS.ifYes X29.here hx rfl (pc0 := 93) (pc' := 99) rfl (hb hby d5_93) rfl (lcFeq hc93).2 (by decide) (by decide) k_) ?_
                  refine Go.st (T' := T29) (g' := (mkF m 101 #[.val (.ref a), .val (.int ix), .val (.int jx), .val (.long q), .second, .val (.int i5), .val (.long r_29), .second, .unset, .unset, .unset, .unset, .unset] [(.long r_29)])) (fun t_ k_ => XS.lload X29.here hx rfl (hb hby d5_99) rfl k_) ?_
                  refine Go.st (T' := T29) (g' := (mkF m 102 #[.val (.ref a), .val (.int ix), .val (.int jx), .val (.long q), .second, .val (.int i5), .val (.long r_29), .second, .unset, .unset, .unset, .unset, .unset] [(.long q), (.long r_29)])) (fun t_ k_ => XS.lloadN X29.here hx rfl (hb hby d5_101) rfl k_) ?_
                  refine goStatic X29 hx hZ (y := (⟨"com/example/utu/utu/check/Zone", "add", "(JJ)J"⟩ : MethodName)) hown (hw _ (List.mem_of_getElem? (i := 60) rfl)) (hw _ (List.mem_of_getElem? (i := 61) rfl)) (hw _ (List.mem_of_getElem? (i := 2) rfl)) (hw _ (List.mem_of_getElem? (i := 62) rfl)) (by decide) (rm12 l Z a0 hw [] n0 h_J69 r_29 q sz_J69) 0 (by decide) (by decide) (by rw [hml]; rfl) [(.long r_29), (.long q)] [] (lenOf pd_6c7814f2 rfl) rfl rfl rfl (hb hby d5_102) (by decide) (by decide) fun v30 T30 h30 X30 hq30 => ?_
                  obtain ⟨r_30, rfl, eh30⟩ := hq30
                  rw [eh30] at X30
                  show Go p e below _ T30 (mkF m 105 #[.val (.ref a), .val (.int ix), .val (.int jx), .val (.long q), .second, .val (.int i5), .val (.long r_29), .second, .unset, .unset, .unset, .unset, .unset] [(.long r_30)])
                  refine Go.st (T' := T30) (g' := (mkF m 107 #[.val (.ref a), .val (.int ix), .val (.int jx), .val (.long q), .second, .val (.int i5), .val (.long r_29), .second, .val (.long r_30), .second, .unset, .unset, .unset] [])) (fun t_ k_ => XS.lstore X30.here hx rfl (hb hby d5_105) rfl (l' := #[.val (.ref a), .val (.int ix), .val (.int jx), .val (.long q), .second, .val (.int i5), .val (.long r_29), .second, .val (.long r_30), .second, .unset, .unset, .unset]) rfl k_) ?_
                  refine Go.st (T' := T30) (g' := (mkF m 108 #[.val (.ref a), .val (.int ix), .val (.int jx), .val (.long q), .second, .val (.int i5), .val (.long r_29), .second, .val (.long r_30), .second, .unset, .unset, .unset] [(.int (0 : Int32))])) (fun t_ k_ => XS.iconst X30.here hx rfl (hb hby d5_107) k_) ?_
                  refine Go.st (T' := T30) (g' := (mkF m 110 #[.val (.ref a), .val (.int ix), .val (.int jx), .val (.long q), .second, .val (.int i5), .val (.long r_29), .second, .val (.long r_30), .second, .val (.int (0 : Int32)), .unset, .unset] [])) (fun t_ k_ => XS.istore X30.here hx rfl (hb hby d5_108) rfl (l' := #[.val (.ref a), .val (.int ix), .val (.int jx), .val (.long q), .second, .val (.int i5), .val (.long r_29), .second, .val (.long r_30), .second, .val (.int (0 : Int32)), .unset, .unset]) rfl k_) ?_
                  have J110 : ∀ (k_J110 : Nat) (i10 : Int32) (fb : Nat → Int64) (s11 : Slot) (s12 : Slot) (T_J110 : State) (h_J110 : Heap), (dm.toNatClampNeg - i10.toNatClampNeg) = k_J110 → Stn p l e ({ frames := 2, cells := 0, slots := 0, locals := 60 } : Room) s m #[(.ref a), (.int ix), (.int jx), (.long q)] below meth c n0 T_J110 h_J110 0 0 → n0 ≤ h_J110.size → Keep h0 h_J110 [bs] → Exa Z h_J110 a "com/example/utu/utu/check/Zone" → Exa Z h_J110 bs "[J" → Fld Z h_J110 a "com/example/utu/utu/check/Zone" "dimension" "I" (.int dm) → Fld Z h_J110 a "com/example/utu/utu/check/Zone" "bounds" "[J" (.ref bs) → Ary Z h_J110 bs .long n (fun i => .long (fb i)) → n0 ≤ bs → (¬ i10 < 0) → (own_t2 s11 s12) → Go p e below (PostW s n0 (0 : Nat) (0 : Nat) (Q5 Z n0 h0 a ix jx q dm bs n f)) T_J110 (mkF m 110 #[.val (.ref a), .val (.int ix), .val (.int jx), .val (.long q), .second, .val (.int i5), .val (.long r_29), .second, .val (.long r_30), .second, .val (.int i10), s11, s12] []) := by
                    intro k_J110
                    induction k_J110 using Nat.strongRecOn with
                    | _ k_J110 ih_J110 =>
                      intro i10 fb s11 s12 T_J110 h_J110 hk_J110 X_J110 sz_J110 K_J110 g0_J110 g1_J110 g2_J110 g3_J110 g4_J110 g5_J110 hn10 ht2
                      rcases ht2 with ⟨rfl, rfl⟩ | ⟨y11, rfl, rfl⟩
                      · skip
                        refine Go.st (T' := T_J110) (g' := (mkF m 112 #[.val (.ref a), .val (.int ix), .val (.int jx), .val (.long q), .second, .val (.int i5), .val (.long r_29), .second, .val (.long r_30), .second, .val (.int i10), .unset, .unset] [(.int i10)])) (fun t_ k_ => XS.iload X_J110.here hx rfl (hb hby d5_110) rfl k_) ?_
                        refine Go.st (T' := T_J110) (g' := (mkF m 113 #[.val (.ref a), .val (.int ix), .val (.int jx), .val (.long q), .second, .val (.int i5), .val (.long r_29), .second, .val (.long r_30), .second, .val (.int i10), .unset, .unset] [(.ref a), (.int i10)])) (fun t_ k_ => XS.aloadN X_J110.here hx rfl (hb hby d5_112) rfl rfl k_) ?_
                        refine goGet X_J110 hx hZ hown (host := "") (Or.inl (hw _ (List.mem_of_getElem? (i := 9) rfl))) Via.refl g2_J110 (hb hby d5_113) fun T31 X31 => ?_
                        show Go p e below _ T31 (mkF m 116 #[.val (.ref a), .val (.int ix), .val (.int jx), .val (.long q), .second, .val (.int i5), .val (.long r_29), .second, .val (.long r_30), .second, .val (.int i10), .unset, .unset] [(.int dm), (.int i10)])
                        by_cases hc116 : i10 < dm
                        · skip
                          refine Go.st (T' := T31) (g' := (mkF m 119 #[.val (.ref a), .val (.int ix), .val (.int jx), .val (.long q), .second, .val (.int i5), .val (.long r_29), .second, .val (.long r_30), .second, .val (.int i10), .unset, .unset] [])) (fun t_ k_ => XS.icmpNo X31.here hx rfl (hb hby d5_116) rfl (tlt hc116).2.1 k_) ?_
                          refine Go.st (T' := T31) (g' := (mkF m 121 #[.val (.ref a), .val (.int ix), .val (.int jx), .val (.long q), .second, .val (.int i5), .val (.long r_29), .second, .val (.long r_30), .second, .val (.int i10), .unset, .unset] [(.long r_30)])) (fun t_ k_ => XS.lload X31.here hx rfl (hb hby d5_119) rfl k_) ?_
                          refine Go.st (T' := T31) (g' := (mkF m 122 #[.val (.ref a), .val (.int ix), .val (.int jx), .val (.long q), .second, .val (.int i5), .val (.long r_29), .second, .val (.long r_30), .second, .val (.int i10), .unset, .unset] [(.ref a), (.long r_30)])) (fun t_ k_ => XS.aloadN X31.here hx rfl (hb hby d5_121) rfl rfl k_) ?_
                          refine Go.st (T' := T31) (g' := (mkF m 123 #[.val (.ref a), .val (.int ix), .val (.int jx), .val (.long q), .second, .val (.int i5), .val (.long r_29), .second, .val (.long r_30), .second, .val (.int i10), .unset, .unset] [(.int jx), (.ref a), (.long r_30)])) (fun t_ k_ => XS.iloadN X31.here hx rfl (hb hby d5_122) rfl k_) ?_
                          refine Go.st (T' := T31) (g' := (mkF m 125 #[.val (.ref a), .val (.int ix), .val (.int jx), .val (.long q), .second, .val (.int i5), .val (.long r_29), .second, .val (.long r_30), .second, .val (.int i10), .unset, .unset] [(.int i10), (.int jx), (.ref a), (.long r_30)])) (fun t_ k_ => XS.iload X31.here hx rfl (hb hby d5_123) rfl k_) ?_
                          refine goVirtS X31 hx hZ (y := (⟨"com/example/utu/utu/check/Zone", "get", "(II)J"⟩ : MethodName)) hown (hw _ (List.mem_of_getElem? (i := 31) rfl)) (hw _ (List.mem_of_getElem? (i := 32) rfl)) (hw _ (List.mem_of_getElem? (i := 34) rfl)) (hw _ (List.mem_of_getElem? (i := 33) rfl)) (hw _ (List.mem_of_getElem? (i := 2) rfl)) (hw _ (List.mem_of_getElem? (i := 35) rfl)) (by decide) g0_J110 (rm7 l Z a0 hw [] n0 h_J110 a jx i10 dm bs n fb sz_J110 g2_J110 g3_J110 g4_J110 (hD) (hj) (⟨hn10, hc116⟩)) 2 (by decide) (by decide) (by rw [hml]; rfl) [(.int jx), (.int i10)] [(.long r_30)] (lenOf pd_7c8b0545 rfl) rfl rfl rfl (hb hby d5_125) (by decide) (by decide) fun v32 T32 h32 X32 hq32 => ?_
                          obtain ⟨r_32, rfl, eh32⟩ := hq32
                          rw [eh32] at X32
                          show Go p e below _ T32 (mkF m 128 #[.val (.ref a), .val (.int ix), .val (.int jx), .val (.long q), .second, .val (.int i5), .val (.long r_29), .second, .val (.long r_30), .second, .val (.int i10), .unset, .unset] [(.long r_32), (.long r_30)])
                          refine goStatic X32 hx hZ (y := (⟨"com/example/utu/utu/check/Zone", "add", "(JJ)J"⟩ : MethodName)) hown (hw _ (List.mem_of_getElem? (i := 60) rfl)) (hw _ (List.mem_of_getElem? (i := 61) rfl)) (hw _ (List.mem_of_getElem? (i := 2) rfl)) (hw _ (List.mem_of_getElem? (i := 62) rfl)) (by decide) (rm12 l Z a0 hw [] n0 h_J110 r_30 r_32 sz_J110) 0 (by decide) (by decide) (by rw [hml]; rfl) [(.long r_30), (.long r_32)] [] (lenOf pd_6c7814f2 rfl) rfl rfl rfl (hb hby d5_128) (by decide) (by decide) fun v33 T33 h33 X33 hq33 => ?_
                          obtain ⟨r_33, rfl, eh33⟩ := hq33
                          rw [eh33] at X33
                          show Go p e below _ T33 (mkF m 131 #[.val (.ref a), .val (.int ix), .val (.int jx), .val (.long q), .second, .val (.int i5), .val (.long r_29), .second, .val (.long r_30), .second, .val (.int i10), .unset, .unset] [(.long r_33)])
                          refine Go.st (T' := T33) (g' := (mkF m 133 #[.val (.ref a), .val (.int ix), .val (.int jx), .val (.long q), .second, .val (.int i5), .val (.long r_29), .second, .val (.long r_30), .second, .val (.int i10), .val (.long r_33), .second] [])) (fun t_ k_ => XS.lstore X33.here hx rfl (hb hby d5_131) rfl (l' := #[.val (.ref a), .val (.int ix), .val (.int jx), .val (.long q), .second, .val (.int i5), .val (.long r_29), .second, .val (.long r_30), .second, .val (.int i10), .val (.long r_33), .second]) rfl k_) ?_
                          refine Go.st (T' := T33) (g' := (mkF m 135 #[.val (.ref a), .val (.int ix), .val (.int jx), .val (.long q), .second, .val (.int i5), .val (.long r_29), .second, .val (.long r_30), .second, .val (.int i10), .val (.long r_33), .second] [(.long r_33)])) (fun t_ k_ => XS.lload X33.here hx rfl (hb hby d5_133) rfl k_) ?_
                          refine Go.st (T' := T33) (g' := (mkF m 136 #[.val (.ref a), .val (.int ix), .val (.int jx), .val (.long q), .second, .val (.int i5), .val (.long r_29), .second, .val (.long r_30), .second, .val (.int i10), .val (.long r_33), .second] [(.ref a), (.long r_33)])) (fun t_ k_ => XS.aloadN X33.here hx rfl (hb hby d5_135) rfl rfl k_) ?_
                          refine Go.st (T' := T33) (g' := (mkF m 138 #[.val (.ref a), .val (.int ix), .val (.int jx), .val (.long q), .second, .val (.int i5), .val (.long r_29), .second, .val (.long r_30), .second, .val (.int i10), .val (.long r_33), .second] [(.int i5), (.ref a), (.long r_33)])) (fun t_ k_ => XS.iload X33.here hx rfl (hb hby d5_136) rfl k_) ?_
                          refine Go.st (T' := T33) (g' := (mkF m 140 #[.val (.ref a), .val (.int ix), .val (.int jx), .val (.long q), .second, .val (.int i5), .val (.long r_29), .second, .val (.long r_30), .second, .val (.int i10), .val (.long r_33), .second] [(.int i10), (.int i5), (.ref a), (.long r_33)])) (fun t_ k_ => XS.iload X33.here hx rfl (hb hby d5_138) rfl k_) ?_
                          refine goVirtS X33 hx hZ (y := (⟨"com/example/utu/utu/check/Zone", "get", "(II)J"⟩ : MethodName)) hown (hw _ (List.mem_of_getElem? (i := 31) rfl)) (hw _ (List.mem_of_getElem? (i := 32) rfl)) (hw _ (List.mem_of_getElem? (i := 34) rfl)) (hw _ (List.mem_of_getElem? (i := 33) rfl)) (hw _ (List.mem_of_getElem? (i := 2) rfl)) (hw _ (List.mem_of_getElem? (i := 35) rfl)) (by decide) g0_J110 (rm7 l Z a0 hw [] n0 h_J110 a i5 i10 dm bs n fb sz_J110 g2_J110 g3_J110 g4_J110 (hD) (⟨hn5, hc75⟩) (⟨hn10, hc116⟩)) 2 (by decide) (by decide) (by rw [hml]; rfl) [(.int i5), (.int i10)] [(.long r_33)] (lenOf pd_7c8b0545 rfl) rfl rfl rfl (hb hby d5_140) (by decide) (by decide) fun v34 T34 h34 X34 hq34 => ?_
                          obtain ⟨r_34, rfl, eh34⟩ := hq34
                          rw [eh34] at X34
                          show Go p e below _ T34 (mkF m 143 #[.val (.ref a), .val (.int ix), .val (.int jx), .val (.long q), .second, .val (.int i5), .val (.long r_29), .second, .val (.long r_30), .second, .val (.int i10), .val (.long r_33), .second] [(.long r_34), (.long r_33)])
                          refine Go.st (T' := T34) (g' := (mkF m 144 #[.val (.ref a), .val (.int ix), .val (.int jx), .val (.long q), .second, .val (.int i5), .val (.long r_29), .second, .val (.long r_30), .second, .val (.int i10), .val (.long r_33), .second] [(.int (lcmpW r_33 r_34))])) (fun t_ k_ => XS.lcmp X34.here hx rfl (hb hby d5_143) rfl k_) ?_
                          by_cases hc144 : r_33 < r_34
                          · skip
                            refine Go.st (T' := T34) (g' := (mkF m 147 #[.val (.ref a), .val (.int ix), .val (.int jx), .val (.long q), .second, .val (.int i5), .val (.long r_29), .second, .val (.long r_30), .second, .val (.int i10), .val (.long r_33), .second] [])) (fun t_ k_ => XS.ifNo X34.here hx rfl (hb hby d5_144) rfl (lcTlt hc144).2 k_) ?_
                            refine Go.st (T' := T34) (g' := (mkF m 148 #[.val (.ref a), .val (.int ix), .val (.int jx), .val (.long q), .second, .val (.int i5), .val (.long r_29), .second, .val (.long r_30), .second, .val (.int i10), .val (.long r_33), .second] [(.ref a)])) (fun t_ k_ => XS.aloadN X34.here hx rfl (hb hby d5_147) rfl rfl k_) ?_
                            refine goGet X34 hx hZ hown (host := "") (Or.inl (hw _ (List.mem_of_getElem? (i := 12) rfl))) Via.refl g3_J110 (hb hby d5_148) fun T35 X35 => ?_
                            show Go p e below _ T35 (mkF m 151 #[.val (.ref a), .val (.int ix), .val (.int jx), .val (.long q), .second, .val (.int i5), .val (.long r_29), .second, .val (.long r_30), .second, .val (.int i10), .val (.long r_33), .second] [(.ref bs)])
                            refine Go.st (T' := T35) (g' := (mkF m 153 #[.val (.ref a), .val (.int ix), .val (.int jx), .val (.long q), .second, .val (.int i5), .val (.long r_29), .second, .val (.long r_30), .second, .val (.int i10), .val (.long r_33), .second] [(.int i5), (.ref bs)])) (fun t_ k_ => XS.iload X35.here hx rfl (hb hby d5_151) rfl k_) ?_
                            refine Go.st (T' := T35) (g' := (mkF m 154 #[.val (.ref a), .val (.int ix), .val (.int jx), .val (.long q), .second, .val (.int i5), .val (.long r_29), .second, .val (.long r_30), .second, .val (.int i10), .val (.long r_33), .second] [(.ref a), (.int i5), (.ref bs)])) (fun t_ k_ => XS.aloadN X35.here hx rfl (hb hby d5_153) rfl rfl k_) ?_
                            refine goGet X35 hx hZ hown (host := "") (Or.inl (hw _ (List.mem_of_getElem? (i := 9) rfl))) Via.refl g2_J110 (hb hby d5_154) fun T36 X36 => ?_
                            show Go p e below _ T36 (mkF m 157 #[.val (.ref a), .val (.int ix), .val (.int jx), .val (.long q), .second, .val (.int i5), .val (.long r_29), .second, .val (.long r_30), .second, .val (.int i10), .val (.long r_33), .second] [(.int dm), (.int i5), (.ref bs)])
                            refine Go.st (T' := T36) (g' := (mkF m 158 #[.val (.ref a), .val (.int ix), .val (.int jx), .val (.long q), .second, .val (.int i5), .val (.long r_29), .second, .val (.long r_30), .second, .val (.int i10), .val (.long r_33), .second] [(.int (i5 * dm)), (.ref bs)])) (fun t_ k_ => XS.imul X36.here hx rfl (hb hby d5_157) rfl k_) ?_
                            refine Go.st (T' := T36) (g' := (mkF m 160 #[.val (.ref a), .val (.int ix), .val (.int jx), .val (.long q), .second, .val (.int i5), .val (.long r_29), .second, .val (.long r_30), .second, .val (.int i10), .val (.long r_33), .second] [(.int i10), (.int (i5 * dm)), (.ref bs)])) (fun t_ k_ => XS.iload X36.here hx rfl (hb hby d5_158) rfl k_) ?_
                            refine Go.st (T' := T36) (g' := (mkF m 161 #[.val (.ref a), .val (.int ix), .val (.int jx), .val (.long q), .second, .val (.int i5), .val (.long r_29), .second, .val (.long r_30), .second, .val (.int i10), .val (.long r_33), .second] [(.int ((i5 * dm) + i10)), (.ref bs)])) (fun t_ k_ => XS.iadd X36.here hx rfl (hb hby d5_160) rfl k_) ?_
                            refine Go.st (T' := T36) (g' := (mkF m 163 #[.val (.ref a), .val (.int ix), .val (.int jx), .val (.long q), .second, .val (.int i5), .val (.long r_29), .second, .val (.long r_30), .second, .val (.int i10), .val (.long r_33), .second] [(.long r_33), (.int ((i5 * dm) + i10)), (.ref bs)])) (fun t_ k_ => XS.lload X36.here hx rfl (hb hby d5_161) rfl k_) ?_
                            refine goStJ X36 hx hZ (f := (fun i => (fb i))) g4_J110 (j := ((i5 * dm) + i10)) (own_ix hD ⟨hn5, hc75⟩ ⟨hn10, hc116⟩) g5_J110 (hb hby d5_163) fun T37 h37 X37 W37 A37 => ?_
                            have f37_1 : Exa Z h37 a "com/example/utu/utu/check/Zone" := g0_J110.wr W37
                            have f37_2 : Exa Z h37 bs "[J" := g1_J110.wr W37
                            have f37_3 : Fld Z h37 a "com/example/utu/utu/check/Zone" "dimension" "I" (.int dm) := g2_J110.other W37 (Or.inl (ne_exa g0_J110 g1_J110 (by decide)))
                            have f37_4 : Fld Z h37 a "com/example/utu/utu/check/Zone" "bounds" "[J" (.ref bs) := g3_J110.other W37 (Or.inl (ne_exa g0_J110 g1_J110 (by decide)))
                            have sz37 : n0 ≤ h37.size := Nat.le_trans sz_J110 (Keep.of_wr W37).1
                            have K37 : Keep h0 h37 [bs] := K_J110.wr W37 (Or.inl (List.mem_of_getElem? (i := 0) rfl))
                            show Go p e below _ T37 (mkF m 164 #[.val (.ref a), .val (.int ix), .val (.int jx), .val (.long q), .second, .val (.int i5), .val (.long r_29), .second, .val (.long r_30), .second, .val (.int i10), .val (.long r_33), .second] [])
                            refine Go.st (T' := T37) (g' := (mkF m 167 #[.val (.ref a), .val (.int ix), .val (.int jx), .val (.long q), .second, .val (.int i5), .val (.long r_29), .second, .val (.long r_30), .second, .val (.int (i10 + (1 : Int32))), .val (.long r_33), .second] [])) (fun t_ k_ => XS.iinc X37.here hx rfl (hb hby d5_164) rfl (l' := #[.val (.ref a), .val (.int ix), .val (.int jx), .val (.long q), .second, .val (.int i5), .val (.long r_29), .second, .val (.long r_30), .second, .val (.int (i10 + (1 : Int32))), .val (.long r_33), .second]) rfl k_) ?_
                            refine Go.st (T' := T37) (g' := (mkF m 110 #[.val (.ref a), .val (.int ix), .val (.int jx), .val (.long q), .second, .val (.int i5), .val (.long r_29), .second, .val (.long r_30), .second, .val (.int (i10 + (1 : Int32))), .val (.long r_33), .second] [])) (fun t_ k_ => XS.goto X37.here hx rfl (pc0 := 167) (pc' := 110) rfl (hb hby d5_167) (by decide) (by decide) k_) ?_
                            exact ih_J110 _ (by have z := own_nxt hD ⟨hn10, hc116⟩; omega) (i10 + (1 : Int32)) (fun i => (if i = (((i5 * dm) + i10)).toNatClampNeg then r_33 else (fun i => (fb i)) i)) (.val (.long r_33)) (.second) T37 h37 rfl (X37.mono (by decide) (by decide)) sz37 K37 f37_1 f37_2 f37_3 f37_4 A37 g5_J110 ((own_nxt hD ⟨hn10, hc116⟩).1) (by first | exact Or.inl ⟨rfl, rfl⟩ | exact Or.inr ⟨_, rfl, rfl⟩)
                          · skip
                            refine Go.st (T' := T34) (g' := (mkF m 164 #[.val (.ref a), .val (.int ix), .val (.int jx), .val (.long q), .second, .val (.int i5), .val (.long r_29), .second, .val (.long r_30), .second, .val (.int i10), .val (.long r_33), .second] [])) (fun t_ k_ => XS.ifYes X34.here hx rfl (pc0 := 144) (pc' := 164) rfl (hb hby d5_144) rfl (lcFlt hc144).2 (by decide) (by decide) k_) ?_
                            refine Go.st (T' := T34) (g' := (mkF m 167 #[.val (.ref a), .val (.int ix), .val (.int jx), .val (.long q), .second, .val (.int i5), .val (.long r_29), .second, .val (.long r_30), .second, .val (.int (i10 + (1 : Int32))), .val (.long r_33), .second] [])) (fun t_ k_ => XS.iinc X34.here hx rfl (hb hby d5_164) rfl (l' := #[.val (.ref a), .val (.int ix), .val (.int jx), .val (.long q), .second, .val (.int i5), .val (.long r_29), .second, .val (.long r_30), .second, .val (.int (i10 + (1 : Int32))), .val (.long r_33), .second]) rfl k_) ?_
                            refine Go.st (T' := T34) (g' := (mkF m 110 #[.val (.ref a), .val (.int ix), .val (.int jx), .val (.long q), .second, .val (.int i5), .val (.long r_29), .second, .val (.long r_30), .second, .val (.int (i10 + (1 : Int32))), .val (.long r_33), .second] [])) (fun t_ k_ => XS.goto X34.here hx rfl (pc0 := 167) (pc' := 110) rfl (hb hby d5_167) (by decide) (by decide) k_) ?_
                            exact ih_J110 _ (by have z := own_nxt hD ⟨hn10, hc116⟩; omega) (i10 + (1 : Int32)) fb (.val (.long r_33)) (.second) T34 h_J110 rfl (X34.mono (by decide) (by decide)) sz_J110 K_J110 g0_J110 g1_J110 g2_J110 g3_J110 g4_J110 g5_J110 ((own_nxt hD ⟨hn10, hc116⟩).1) (by first | exact Or.inl ⟨rfl, rfl⟩ | exact Or.inr ⟨_, rfl, rfl⟩)
                        · skip
                          refine Go.st (T' := T31) (g' := (mkF m 170 #[.val (.ref a), .val (.int ix), .val (.int jx), .val (.long q), .second, .val (.int i5), .val (.long r_29), .second, .val (.long r_30), .second, .val (.int i10), .unset, .unset] [])) (fun t_ k_ => XS.icmpYes X31.here hx rfl (pc0 := 116) (pc' := 170) rfl (hb hby d5_116) rfl (flt hc116).2.1 (by decide) (by decide) k_) ?_
                          refine Go.st (T' := T31) (g' := (mkF m 173 #[.val (.ref a), .val (.int ix), .val (.int jx), .val (.long q), .second, .val (.int (i5 + (1 : Int32))), .val (.long r_29), .second, .val (.long r_30), .second, .val (.int i10), .unset, .unset] [])) (fun t_ k_ => XS.iinc X31.here hx rfl (hb hby d5_170) rfl (l' := #[.val (.ref a), .val (.int ix), .val (.int jx), .val (.long q), .second, .val (.int (i5 + (1 : Int32))), .val (.long r_29), .second, .val (.long r_30), .second, .val (.int i10), .unset, .unset]) rfl k_) ?_
                          refine Go.st (T' := T31) (g' := (mkF m 69 #[.val (.ref a), .val (.int ix), .val (.int jx), .val (.long q), .second, .val (.int (i5 + (1 : Int32))), .val (.long r_29), .second, .val (.long r_30), .second, .val (.int i10), .unset, .unset] [])) (fun t_ k_ => XS.goto X31.here hx rfl (pc0 := 173) (pc' := 69) rfl (hb hby d5_173) (by decide) (by decide) k_) ?_
                          exact ih_J69 _ (by have z := own_nxt hD ⟨hn5, hc75⟩; omega) (i5 + (1 : Int32)) fb (.val (.long r_29)) (.second) (.val (.long r_30)) (.second) (.val (.int i10)) (.unset) (.unset) T31 h_J110 rfl (X31.mono (by decide) (by decide)) sz_J110 K_J110 g0_J110 g1_J110 g2_J110 g3_J110 g4_J110 g5_J110 ((own_nxt hD ⟨hn5, hc75⟩).1) (by first | exact Or.inl ⟨rfl, rfl, rfl, rfl, rfl, rfl, rfl⟩ | exact Or.inr (Or.inl ⟨_, rfl, rfl, rfl, rfl, rfl, rfl, rfl⟩) | exact Or.inr (Or.inr (Or.inl ⟨_, _, _, _, rfl, rfl, rfl, rfl, rfl, rfl, rfl⟩)) | exact Or.inr (Or.inr (Or.inr ⟨_, _, _, rfl, rfl, rfl, rfl, rfl, rfl, rfl⟩)))
                      · skip
                        refine Go.st (T' := T_J110) (g' := (mkF m 112 #[.val (.ref a), .val (.int ix), .val (.int jx), .val (.long q), .second, .val (.int i5), .val (.long r_29), .second, .val (.long r_30), .second, .val (.int i10), .val (.long y11), .second] [(.int i10)])) (fun t_ k_ => XS.iload X_J110.here hx rfl (hb hby d5_110) rfl k_) ?_
                        refine Go.st (T' := T_J110) (g' := (mkF m 113 #[.val (.ref a), .val (.int ix), .val (.int jx), .val (.long q), .second, .val (.int i5), .val (.long r_29), .second, .val (.long r_30), .second, .val (.int i10), .val (.long y11), .second] [(.ref a), (.int i10)])) (fun t_ k_ => XS.aloadN X_J110.here hx rfl (hb hby d5_112) rfl rfl k_) ?_
                        refine goGet X_J110 hx hZ hown (host := "") (Or.inl (hw _ (List.mem_of_getElem? (i := 9) rfl))) Via.refl g2_J110 (hb hby d5_113) fun T38 X38 => ?_
                        show Go p e below _ T38 (mkF m 116 #[.val (.ref a), .val (.int ix), .val (.int jx), .val (.long q), .second, .val (.int i5), .val (.long r_29), .second, .val (.long r_30), .second, .val (.int i10), .val (.long y11), .second] [(.int dm), (.int i10)])
                        by_cases hc116 : i10 < dm
                        · skip
                          refine Go.st (T' := T38) (g' := (mkF m 119 #[.val (.ref a), .val (.int ix), .val (.int jx), .val (.long q), .second, .val (.int i5), .val (.long r_29), .second, .val (.long r_30), .second, .val (.int i10), .val (.long y11), .second] [])) (fun t_ k_ => XS.icmpNo X38.here hx rfl (hb hby d5_116) rfl (tlt hc116).2.1 k_) ?_
                          refine Go.st (T' := T38) (g' := (mkF m 121 #[.val (.ref a), .val (.int ix), .val (.int jx), .val (.long q), .second, .val (.int i5), .val (.long r_29), .second, .val (.long r_30), .second, .val (.int i10), .val (.long y11), .second] [(.long r_30)])) (fun t_ k_ => XS.lload X38.here hx rfl (hb hby d5_119) rfl k_) ?_
                          refine Go.st (T' := T38) (g' := (mkF m 122 #[.val (.ref a), .val (.int ix), .val (.int jx), .val (.long q), .second, .val (.int i5), .val (.long r_29), .second, .val (.long r_30), .second, .val (.int i10), .val (.long y11), .second] [(.ref a), (.long r_30)])) (fun t_ k_ => XS.aloadN X38.here hx rfl (hb hby d5_121) rfl rfl k_) ?_
                          refine Go.st (T' := T38) (g' := (mkF m 123 #[.val (.ref a), .val (.int ix), .val (.int jx), .val (.long q), .second, .val (.int i5), .val (.long r_29), .second, .val (.long r_30), .second, .val (.int i10), .val (.long y11), .second] [(.int jx), (.ref a), (.long r_30)])) (fun t_ k_ => XS.iloadN X38.here hx rfl (hb hby d5_122) rfl k_) ?_
                          refine Go.st (T' := T38) (g' := (mkF m 125 #[.val (.ref a), .val (.int ix), .val (.int jx), .val (.long q), .second, .val (.int i5), .val (.long r_29), .second, .val (.long r_30), .second, .val (.int i10), .val (.long y11), .second] [(.int i10), (.int jx), (.ref a), (.long r_30)])) (fun t_ k_ => XS.iload X38.here hx rfl (hb hby d5_123) rfl k_) ?_
                          refine goVirtS X38 hx hZ (y := (⟨"com/example/utu/utu/check/Zone", "get", "(II)J"⟩ : MethodName)) hown (hw _ (List.mem_of_getElem? (i := 31) rfl)) (hw _ (List.mem_of_getElem? (i := 32) rfl)) (hw _ (List.mem_of_getElem? (i := 34) rfl)) (hw _ (List.mem_of_getElem? (i := 33) rfl)) (hw _ (List.mem_of_getElem? (i := 2) rfl)) (hw _ (List.mem_of_getElem? (i := 35) rfl)) (by decide) g0_J110 (rm7 l Z a0 hw [] n0 h_J110 a jx i10 dm bs n fb sz_J110 g2_J110 g3_J110 g4_J110 (hD) (hj) (⟨hn10, hc116⟩)) 2 (by decide) (by decide) (by rw [hml]; rfl) [(.int jx), (.int i10)] [(.long r_30)] (lenOf pd_7c8b0545 rfl) rfl rfl rfl (hb hby d5_125) (by decide) (by decide) fun v39 T39 h39 X39 hq39 => ?_
                          obtain ⟨r_39, rfl, eh39⟩ := hq39
                          rw [eh39] at X39
                          show Go p e below _ T39 (mkF m 128 #[.val (.ref a), .val (.int ix), .val (.int jx), .val (.long q), .second, .val (.int i5), .val (.long r_29), .second, .val (.long r_30), .second, .val (.int i10), .val (.long y11), .second] [(.long r_39), (.long r_30)])
                          refine goStatic X39 hx hZ (y := (⟨"com/example/utu/utu/check/Zone", "add", "(JJ)J"⟩ : MethodName)) hown (hw _ (List.mem_of_getElem? (i := 60) rfl)) (hw _ (List.mem_of_getElem? (i := 61) rfl)) (hw _ (List.mem_of_getElem? (i := 2) rfl)) (hw _ (List.mem_of_getElem? (i := 62) rfl)) (by decide) (rm12 l Z a0 hw [] n0 h_J110 r_30 r_39 sz_J110) 0 (by decide) (by decide) (by rw [hml]; rfl) [(.long r_30), (.long r_39)] [] (lenOf pd_6c7814f2 rfl) rfl rfl rfl (hb hby d5_128) (by decide) (by decide) fun v40 T40 h40 X40 hq40 => ?_
                          obtain ⟨r_40, rfl, eh40⟩ := hq40
                          rw [eh40] at X40
                          show Go p e below _ T40 (mkF m 131 #[.val (.ref a), .val (.int ix), .val (.int jx), .val (.long q), .second, .val (.int i5), .val (.long r_29), .second, .val (.long r_30), .second, .val (.int i10), .val (.long y11), .second] [(.long r_40)])
                          refine Go.st (T' := T40) (g' := (mkF m 133 #[.val (.ref a), .val (.int ix), .val (.int jx), .val (.long q), .second, .val (.int i5), .val (.long r_29), .second, .val (.long r_30), .second, .val (.int i10), .val (.long r_40), .second] [])) (fun t_ k_ => XS.lstore X40.here hx rfl (hb hby d5_131) rfl (l' := #[.val (.ref a), .val (.int ix), .val (.int jx), .val (.long q), .second, .val (.int i5), .val (.long r_29), .second, .val (.long r_30), .second, .val (.int i10), .val (.long r_40), .second]) rfl k_) ?_
                          refine Go.st (T' := T40) (g' := (mkF m 135 #[.val (.ref a), .val (.int ix), .val (.int jx), .val (.long q), .second, .val (.int i5), .val (.long r_29), .second, .val (.long r_30), .second, .val (.int i10), .val (.long r_40), .second] [(.long r_40)])) (fun t_ k_ => XS.lload X40.here hx rfl (hb hby d5_133) rfl k_) ?_
                          refine Go.st (T' := T40) (g' := (mkF m 136 #[.val (.ref a), .val (.int ix), .val (.int jx), .val (.long q), .second, .val (.int i5), .val (.long r_29), .second, .val (.long r_30), .second, .val (.int i10), .val (.long r_40), .second] [(.ref a), (.long r_40)])) (fun t_ k_ => XS.aloadN X40.here hx rfl (hb hby d5_135) rfl rfl k_) ?_
                          refine Go.st (T' := T40) (g' := (mkF m 138 #[.val (.ref a), .val (.int ix), .val (.int jx), .val (.long q), .second, .val (.int i5), .val (.long r_29), .second, .val (.long r_30), .second, .val (.int i10), .val (.long r_40), .second] [(.int i5), (.ref a), (.long r_40)])) (fun t_ k_ => XS.iload X40.here hx rfl (hb hby d5_136) rfl k_) ?_
                          refine Go.st (T' := T40) (g' := (mkF m 140 #[.val (.ref a), .val (.int ix), .val (.int jx), .val (.long q), .second, .val (.int i5), .val (.long r_29), .second, .val (.long r_30), .second, .val (.int i10), .val (.long r_40), .second] [(.int i10), (.int i5), (.ref a), (.long r_40)])) (fun t_ k_ => XS.iload X40.here hx rfl (hb hby d5_138) rfl k_) ?_
                          refine goVirtS X40 hx hZ (y := (⟨"com/example/utu/utu/check/Zone", "get", "(II)J"⟩ : MethodName)) hown (hw _ (List.mem_of_getElem? (i := 31) rfl)) (hw _ (List.mem_of_getElem? (i := 32) rfl)) (hw _ (List.mem_of_getElem? (i := 34) rfl)) (hw _ (List.mem_of_getElem? (i := 33) rfl)) (hw _ (List.mem_of_getElem? (i := 2) rfl)) (hw _ (List.mem_of_getElem? (i := 35) rfl)) (by decide) g0_J110 (rm7 l Z a0 hw [] n0 h_J110 a i5 i10 dm bs n fb sz_J110 g2_J110 g3_J110 g4_J110 (hD) (⟨hn5, hc75⟩) (⟨hn10, hc116⟩)) 2 (by decide) (by decide) (by rw [hml]; rfl) [(.int i5), (.int i10)] [(.long r_40)] (lenOf pd_7c8b0545 rfl) rfl rfl rfl (hb hby d5_140) (by decide) (by decide) fun v41 T41 h41 X41 hq41 => ?_
                          obtain ⟨r_41, rfl, eh41⟩ := hq41
                          rw [eh41] at X41
                          show Go p e below _ T41 (mkF m 143 #[.val (.ref a), .val (.int ix), .val (.int jx), .val (.long q), .second, .val (.int i5), .val (.long r_29), .second, .val (.long r_30), .second, .val (.int i10), .val (.long r_40), .second] [(.long r_41), (.long r_40)])
                          refine Go.st (T' := T41) (g' := (mkF m 144 #[.val (.ref a), .val (.int ix), .val (.int jx), .val (.long q), .second, .val (.int i5), .val (.long r_29), .second, .val (.long r_30), .second, .val (.int i10), .val (.long r_40), .second] [(.int (lcmpW r_40 r_41))])) (fun t_ k_ => XS.lcmp X41.here hx rfl (hb hby d5_143) rfl k_) ?_
                          by_cases hc144 : r_40 < r_41
                          · skip
                            refine Go.st (T' := T41) (g' := (mkF m 147 #[.val (.ref a), .val (.int ix), .val (.int jx), .val (.long q), .second, .val (.int i5), .val (.long r_29), .second, .val (.long r_30), .second, .val (.int i10), .val (.long r_40), .second] [])) (fun t_ k_ => XS.ifNo X41.here hx rfl (hb hby d5_144) rfl (lcTlt hc144).2 k_) ?_
                            refine Go.st (T' := T41) (g' := (mkF m 148 #[.val (.ref a), .val (.int ix), .val (.int jx), .val (.long q), .second, .val (.int i5), .val (.long r_29), .second, .val (.long r_30), .second, .val (.int i10), .val (.long r_40), .second] [(.ref a)])) (fun t_ k_ => XS.aloadN X41.here hx rfl (hb hby d5_147) rfl rfl k_) ?_
                            refine goGet X41 hx hZ hown (host := "") (Or.inl (hw _ (List.mem_of_getElem? (i := 12) rfl))) Via.refl g3_J110 (hb hby d5_148) fun T42 X42 => ?_
                            show Go p e below _ T42 (mkF m 151 #[.val (.ref a), .val (.int ix), .val (.int jx), .val (.long q), .second, .val (.int i5), .val (.long r_29), .second, .val (.long r_30), .second, .val (.int i10), .val (.long r_40), .second] [(.ref bs)])
                            refine Go.st (T' := T42) (g' := (mkF m 153 #[.val (.ref a), .val (.int ix), .val (.int jx), .val (.long q), .second, .val (.int i5), .val (.long r_29), .second, .val (.long r_30), .second, .val (.int i10), .val (.long r_40), .second] [(.int i5), (.ref bs)])) (fun t_ k_ => XS.iload X42.here hx rfl (hb hby d5_151) rfl k_) ?_
                            refine Go.st (T' := T42) (g' := (mkF m 154 #[.val (.ref a), .val (.int ix), .val (.int jx), .val (.long q), .second, .val (.int i5), .val (.long r_29), .second, .val (.long r_30), .second, .val (.int i10), .val (.long r_40), .second] [(.ref a), (.int i5), (.ref bs)])) (fun t_ k_ => XS.aloadN X42.here hx rfl (hb hby d5_153) rfl rfl k_) ?_
                            refine goGet X42 hx hZ hown (host := "") (Or.inl (hw _ (List.mem_of_getElem? (i := 9) rfl))) Via.refl g2_J110 (hb hby d5_154) fun T43 X43 => ?_
                            show Go p e below _ T43 (mkF m 157 #[.val (.ref a), .val (.int ix), .val (.int jx), .val (.long q), .second, .val (.int i5), .val (.long r_29), .second, .val (.long r_30), .second, .val (.int i10), .val (.long r_40), .second] [(.int dm), (.int i5), (.ref bs)])
                            refine Go.st (T' := T43) (g' := (mkF m 158 #[.val (.ref a), .val (.int ix), .val (.int jx), .val (.long q), .second, .val (.int i5), .val (.long r_29), .second, .val (.long r_30), .second, .val (.int i10), .val (.long r_40), .second] [(.int (i5 * dm)), (.ref bs)])) (fun t_ k_ => XS.imul X43.here hx rfl (hb hby d5_157) rfl k_) ?_
                            refine Go.st (T' := T43) (g' := (mkF m 160 #[.val (.ref a), .val (.int ix), .val (.int jx), .val (.long q), .second, .val (.int i5), .val (.long r_29), .second, .val (.long r_30), .second, .val (.int i10), .val (.long r_40), .second] [(.int i10), (.int (i5 * dm)), (.ref bs)])) (fun t_ k_ => XS.iload X43.here hx rfl (hb hby d5_158) rfl k_) ?_
                            refine Go.st (T' := T43) (g' := (mkF m 161 #[.val (.ref a), .val (.int ix), .val (.int jx), .val (.long q), .second, .val (.int i5), .val (.long r_29), .second, .val (.long r_30), .second, .val (.int i10), .val (.long r_40), .second] [(.int ((i5 * dm) + i10)), (.ref bs)])) (fun t_ k_ => XS.iadd X43.here hx rfl (hb hby d5_160) rfl k_) ?_
                            refine Go.st (T' := T43) (g' := (mkF m 163 #[.val (.ref a), .val (.int ix), .val (.int jx), .val (.long q), .second, .val (.int i5), .val (.long r_29), .second, .val (.long r_30), .second, .val (.int i10), .val (.long r_40), .second] [(.long r_40), (.int ((i5 * dm) + i10)), (.ref bs)])) (fun t_ k_ => XS.lload X43.here hx rfl (hb hby d5_161) rfl k_) ?_
                            refine goStJ X43 hx hZ (f := (fun i => (fb i))) g4_J110 (j := ((i5 * dm) + i10)) (own_ix hD ⟨hn5, hc75⟩ ⟨hn10, hc116⟩) g5_J110 (hb hby d5_163) fun T44 h44 X44 W44 A44 => ?_
                            have f44_1 : Exa Z h44 a "com/example/utu/utu/check/Zone" := g0_J110.wr W44
                            have f44_2 : Exa Z h44 bs "[J" := g1_J110.wr W44
                            have f44_3 : Fld Z h44 a "com/example/utu/utu/check/Zone" "dimension" "I" (.int dm) := g2_J110.other W44 (Or.inl (ne_exa g0_J110 g1_J110 (by decide)))
                            have f44_4 : Fld Z h44 a "com/example/utu/utu/check/Zone" "bounds" "[J" (.ref bs) := g3_J110.other W44 (Or.inl (ne_exa g0_J110 g1_J110 (by decide)))
                            have sz44 : n0 ≤ h44.size := Nat.le_trans sz_J110 (Keep.of_wr W44).1
                            have K44 : Keep h0 h44 [bs] := K_J110.wr W44 (Or.inl (List.mem_of_getElem? (i := 0) rfl))
                            show Go p e below _ T44 (mkF m 164 #[.val (.ref a), .val (.int ix), .val (.int jx), .val (.long q), .second, .val (.int i5), .val (.long r_29), .second, .val (.long r_30), .second, .val (.int i10), .val (.long r_40), .second] [])
                            refine Go.st (T' := T44) (g' := (mkF m 167 #[.val (.ref a), .val (.int ix), .val (.int jx), .val (.long q), .second, .val (.int i5), .val (.long r_29), .second, .val (.long r_30), .second, .val (.int (i10 + (1 : Int32))), .val (.long r_40), .second] [])) (fun t_ k_ => XS.iinc X44.here hx rfl (hb hby d5_164) rfl (l' := #[.val (.ref a), .val (.int ix), .val (.int jx), .val (.long q), .second, .val (.int i5), .val (.long r_29), .second, .val (.long r_30), .second, .val (.int (i10 + (1 : Int32))), .val (.long r_40), .second]) rfl k_) ?_
                            refine Go.st (T' := T44) (g' := (mkF m 110 #[.val (.ref a), .val (.int ix), .val (.int jx), .val (.long q), .second, .val (.int i5), .val (.long r_29), .second, .val (.long r_30), .second, .val (.int (i10 + (1 : Int32))), .val (.long r_40), .second] [])) (fun t_ k_ => XS.goto X44.here hx rfl (pc0 := 167) (pc' := 110) rfl (hb hby d5_167) (by decide) (by decide) k_) ?_
                            exact ih_J110 _ (by have z := own_nxt hD ⟨hn10, hc116⟩; omega) (i10 + (1 : Int32)) (fun i => (if i = (((i5 * dm) + i10)).toNatClampNeg then r_40 else (fun i => (fb i)) i)) (.val (.long r_40)) (.second) T44 h44 rfl (X44.mono (by decide) (by decide)) sz44 K44 f44_1 f44_2 f44_3 f44_4 A44 g5_J110 ((own_nxt hD ⟨hn10, hc116⟩).1) (by first | exact Or.inl ⟨rfl, rfl⟩ | exact Or.inr ⟨_, rfl, rfl⟩)
                          · skip
                            refine Go.st (T' := T41) (g' := (mkF m 164 #[.val (.ref a), .val (.int ix), .val (.int jx), .val (.long q), .second, .val (.int i5), .val (.long r_29), .second, .val (.long r_30), .second, .val (.int i10), .val (.long r_40), .second] [])) (fun t_ k_ => XS.ifYes X41.here hx rfl (pc0 := 144) (pc' := 164) rfl (hb hby d5_144) rfl (lcFlt hc144).2 (by decide) (by decide) k_) ?_
                            refine Go.st (T' := T41) (g' := (mkF m 167 #[.val (.ref a), .val (.int ix), .val (.int jx), .val (.long q), .second, .val (.int i5), .val (.long r_29), .second, .val (.long r_30), .second, .val (.int (i10 + (1 : Int32))), .val (.long r_40), .second] [])) (fun t_ k_ => XS.iinc X41.here hx rfl (hb hby d5_164) rfl (l' := #[.val (.ref a), .val (.int ix), .val (.int jx), .val (.long q), .second, .val (.int i5), .val (.long r_29), .second, .val (.long r_30), .second, .val (.int (i10 + (1 : Int32))), .val (.long r_40), .second]) rfl k_) ?_
                            refine Go.st (T' := T41) (g' := (mkF m 110 #[.val (.ref a), .val (.int ix), .val (.int jx), .val (.long q), .second, .val (.int i5), .val (.long r_29), .second, .val (.long r_30), .second, .val (.int (i10 + (1 : Int32))), .val (.long r_40), .second] [])) (fun t_ k_ => XS.goto X41.here hx rfl (pc0 := 167) (pc' := 110) rfl (hb hby d5_167) (by decide) (by decide) k_) ?_
                            exact ih_J110 _ (by have z := own_nxt hD ⟨hn10, hc116⟩; omega) (i10 + (1 : Int32)) fb (.val (.long r_40)) (.second) T41 h_J110 rfl (X41.mono (by decide) (by decide)) sz_J110 K_J110 g0_J110 g1_J110 g2_J110 g3_J110 g4_J110 g5_J110 ((own_nxt hD ⟨hn10, hc116⟩).1) (by first | exact Or.inl ⟨rfl, rfl⟩ | exact Or.inr ⟨_, rfl, rfl⟩)
                        · skip
                          refine Go.st (T' := T38) (g' := (mkF m 170 #[.val (.ref a), .val (.int ix), .val (.int jx), .val (.long q), .second, .val (.int i5), .val (.long r_29), .second, .val (.long r_30), .second, .val (.int i10), .val (.long y11), .second] [])) (fun t_ k_ => XS.icmpYes X38.here hx rfl (pc0 := 116) (pc' := 170) rfl (hb hby d5_116) rfl (flt hc116).2.1 (by decide) (by decide) k_) ?_
                          refine Go.st (T' := T38) (g' := (mkF m 173 #[.val (.ref a), .val (.int ix), .val (.int jx), .val (.long q), .second, .val (.int (i5 + (1 : Int32))), .val (.long r_29), .second, .val (.long r_30), .second, .val (.int i10), .val (.long y11), .second] [])) (fun t_ k_ => XS.iinc X38.here hx rfl (hb hby d5_170) rfl (l' := #[.val (.ref a), .val (.int ix), .val (.int jx), .val (.long q), .second, .val (.int (i5 + (1 : Int32))), .val (.long r_29), .second, .val (.long r_30), .second, .val (.int i10), .val (.long y11), .second]) rfl k_) ?_
                          refine Go.st (T' := T38) (g' := (mkF m 69 #[.val (.ref a), .val (.int ix), .val (.int jx), .val (.long q), .second, .val (.int (i5 + (1 : Int32))), .val (.long r_29), .second, .val (.long r_30), .second, .val (.int i10), .val (.long y11), .second] [])) (fun t_ k_ => XS.goto X38.here hx rfl (pc0 := 173) (pc' := 69) rfl (hb hby d5_173) (by decide) (by decide) k_) ?_
                          exact ih_J69 _ (by have z := own_nxt hD ⟨hn5, hc75⟩; omega) (i5 + (1 : Int32)) fb (.val (.long r_29)) (.second) (.val (.long r_30)) (.second) (.val (.int i10)) (.val (.long y11)) (.second) T38 h_J110 rfl (X38.mono (by decide) (by decide)) sz_J110 K_J110 g0_J110 g1_J110 g2_J110 g3_J110 g4_J110 g5_J110 ((own_nxt hD ⟨hn5, hc75⟩).1) (by first | exact Or.inl ⟨rfl, rfl, rfl, rfl, rfl, rfl, rfl⟩ | exact Or.inr (Or.inl ⟨_, rfl, rfl, rfl, rfl, rfl, rfl, rfl⟩) | exact Or.inr (Or.inr (Or.inl ⟨_, _, _, _, rfl, rfl, rfl, rfl, rfl, rfl, rfl⟩)) | exact Or.inr (Or.inr (Or.inr ⟨_, _, _, rfl, rfl, rfl, rfl, rfl, rfl, rfl⟩)))
                  exact J110 _ (0 : Int32) fa (.unset) (.unset) T30 h_J69 rfl (X30.mono (by decide) (by decide)) sz_J69 K_J69 g0_J69 g1_J69 g2_J69 g3_J69 g4_J69 g5_J69 (by decide) (by first | exact Or.inl ⟨rfl, rfl⟩ | exact Or.inr ⟨_, rfl, rfl⟩)
              · skip
                refine Go.st (T' := T28) (g' := (mkF m 176 #[.val (.ref a), .val (.int ix), .val (.int jx), .val (.long q), .second, .val (.int i5), .val (.long y6), .second, .unset, .unset, .unset, .unset, .unset] [])) (fun t_ k_ => XS.icmpYes X28.here hx rfl (pc0 := 75) (pc' := 176) rfl (hb hby d5_75) rfl (flt hc75).2.1 (by decide) (by decide) k_) ?_
                refine Go.st (T' := T28) (g' := (mkF m 177 #[.val (.ref a), .val (.int ix), .val (.int jx), .val (.long q), .second, .val (.int i5), .val (.long y6), .second, .unset, .unset, .unset, .unset, .unset] [(.int (1 : Int32))])) (fun t_ k_ => XS.iconst X28.here hx rfl (hb hby d5_176) k_) ?_
                refine goRetZ X28 hx hlk hret (hb hby d5_177) (by decide) (by decide) (Or.inr rfl) ?_
                refine ⟨(1 : Int32), fa, rfl, K_J69, g4_J69⟩
            · skip
              refine Go.st (T' := T_J69) (g' := (mkF m 71 #[.val (.ref a), .val (.int ix), .val (.int jx), .val (.long q), .second, .val (.int i5), .val (.long y6), .second, .val (.long y8), .second, .val (.int y10), .val (.long y11), .second] [(.int i5)])) (fun t_ k_ => XS.iload X_J69.here hx rfl (hb hby d5_69) rfl k_) ?_
              refine Go.st (T' := T_J69) (g' := (mkF m 72 #[.val (.ref a), .val (.int ix), .val (.int jx), .val (.long q), .second, .val (.int i5), .val (.long y6), .second, .val (.long y8), .second, .val (.int y10), .val (.long y11), .second] [(.ref a), (.int i5)])) (fun t_ k_ => XS.aloadN X_J69.here hx rfl (hb hby d5_71) rfl rfl k_) ?_
              refine goGet X_J69 hx hZ hown (host := "") (Or.inl (hw _ (List.mem_of_getElem? (i := 9) rfl))) Via.refl g2_J69 (hb hby d5_72) fun T45 X45 => ?_
              show Go p e below _ T45 (mkF m 75 #[.val (.ref a), .val (.int ix), .val (.int jx), .val (.long q), .second, .val (.int i5), .val (.long y6), .second, .val (.long y8), .second, .val (.int y10), .val (.long y11), .second] [(.int dm), (.int i5)])
              by_cases hc75 : i5 < dm
              · skip
                refine Go.st (T' := T45) (g' := (mkF m 78 #[.val (.ref a), .val (.int ix), .val (.int jx), .val (.long q), .second, .val (.int i5), .val (.long y6), .second, .val (.long y8), .second, .val (.int y10), .val (.long y11), .second] [])) (fun t_ k_ => XS.icmpNo X45.here hx rfl (hb hby d5_75) rfl (tlt hc75).2.1 k_) ?_
                refine Go.st (T' := T45) (g' := (mkF m 79 #[.val (.ref a), .val (.int ix), .val (.int jx), .val (.long q), .second, .val (.int i5), .val (.long y6), .second, .val (.long y8), .second, .val (.int y10), .val (.long y11), .second] [(.ref a)])) (fun t_ k_ => XS.aloadN X45.here hx rfl (hb hby d5_78) rfl rfl k_) ?_
                refine Go.st (T' := T45) (g' := (mkF m 81 #[.val (.ref a), .val (.int ix), .val (.int jx), .val (.long q), .second, .val (.int i5), .val (.long y6), .second, .val (.long y8), .second, .val (.int y10), .val (.long y11), .second] [(.int i5), (.ref a)])) (fun t_ k_ => XS.iload X45.here hx rfl (hb hby d5_79) rfl k_) ?_
                refine Go.st (T' := T45) (g' := (mkF m 82 #[.val (.ref a), .val (.int ix), .val (.int jx), .val (.long q), .second, .val (.int i5), .val (.long y6), .second, .val (.long y8), .second, .val (.int y10), .val (.long y11), .second] [(.int ix), (.int i5), (.ref a)])) (fun t_ k_ => XS.iloadN X45.here hx rfl (hb hby d5_81) rfl k_) ?_
                refine goVirtS X45 hx hZ (y := (⟨"com/example/utu/utu/check/Zone", "get", "(II)J"⟩ : MethodName)) hown (hw _ (List.mem_of_getElem? (i := 31) rfl)) (hw _ (List.mem_of_getElem? (i := 32) rfl)) (hw _ (List.mem_of_getElem? (i := 34) rfl)) (hw _ (List.mem_of_getElem? (i := 33) rfl)) (hw _ (List.mem_of_getElem? (i := 2) rfl)) (hw _ (List.mem_of_getElem? (i := 35) rfl)) (by decide) g0_J69 (rm7 l Z a0 hw [] n0 h_J69 a i5 ix dm bs n fa sz_J69 g2_J69 g3_J69 g4_J69 (hD) (⟨hn5, hc75⟩) (hi)) 0 (by decide) (by decide) (by rw [hml]; rfl) [(.int i5), (.int ix)] [] (lenOf pd_7c8b0545 rfl) rfl rfl rfl (hb hby d5_82) (by decide) (by decide) fun v46 T46 h46 X46 hq46 => ?_
                obtain ⟨r_46, rfl, eh46⟩ := hq46
                rw [eh46] at X46
                show Go p e below _ T46 (mkF m 85 #[.val (.ref a), .val (.int ix), .val (.int jx), .val (.long q), .second, .val (.int i5), .val (.long y6), .second, .val (.long y8), .second, .val (.int y10), .val (.long y11), .second] [(.long r_46)])
                refine Go.st (T' := T46) (g' := (mkF m 87 #[.val (.ref a), .val (.int ix), .val (.int jx), .val (.long q), .second, .val (.int i5), .val (.long r_46), .second, .val (.long y8), .second, .val (.int y10), .val (.long y11), .second] [])) (fun t_ k_ => XS.lstore X46.here hx rfl (hb hby d5_85) rfl (l' := #[.val (.ref a), .val (.int ix), .val (.int jx), .val (.long q), .second, .val (.int i5), .val (.long r_46), .second, .val (.long y8), .second, .val (.int y10), .val (.long y11), .second]) rfl k_) ?_
                refine Go.st (T' := T46) (g' := (mkF m 89 #[.val (.ref a), .val (.int ix), .val (.int jx), .val (.long q), .second, .val (.int i5), .val (.long r_46), .second, .val (.long y8), .second, .val (.int y10), .val (.long y11), .second] [(.long r_46)])) (fun t_ k_ => XS.lload X46.here hx rfl (hb hby d5_87) rfl k_) ?_
                refine Go.st (T' := T46) (g' := (mkF m 92 #[.val (.ref a), .val (.int ix), .val (.int jx), .val (.long q), .second, .val (.int i5), .val (.long r_46), .second, .val (.long y8), .second, .val (.int y10), .val (.long y11), .second] [(.long (9223372036854775807 : Int64)), (.long r_46)])) (fun t_ k_ => Stn.ldcJ X46 hx hZ hown (hw _ (List.mem_of_getElem? (i := 63) rfl)) (hb hby d5_89) k_) ?_
                refine Go.st (T' := T46) (g' := (mkF m 93 #[.val (.ref a), .val (.int ix), .val (.int jx), .val (.long q), .second, .val (.int i5), .val (.long r_46), .second, .val (.long y8), .second, .val (.int y10), .val (.long y11), .second] [(.int (lcmpW r_46 (9223372036854775807 : Int64)))])) (fun t_ k_ => XS.lcmp X46.here hx rfl (hb hby d5_92) rfl k_) ?_
                by_cases hc93 : r_46 = (9223372036854775807 : Int64)
                · skip
                  refine Go.st (T' := T46) (g' := (mkF m 96 #[.val (.ref a), .val (.int ix), .val (.int jx), .val (.long q), .second, .val (.int i5), .val (.long r_46), .second, .val (.long y8), .second, .val (.int y10), .val (.long y11), .second] [])) (fun t_ k_ => XS.ifNo X46.here hx rfl (hb hby d5_93) rfl (lcTeq hc93).2 k_) ?_
                  refine Go.st (T' := T46) (g' := (mkF m 170 #[.val (.ref a), .val (.int ix), .val (.int jx), .val (.long q), .second, .val (.int i5), .val (.long r_46), .second, .val (.long y8), .second, .val (.int y10), .val (.long y11), .second] [])) (fun t_ k_ => XS.goto X46.here hx rfl (pc0 := 96) (pc' := 170) rfl (hb hby d5_96) (by decide) (by decide) k_) ?_
                  refine Go.st (T' := T46) (g' := (mkF m 173 #[.val (.ref a), .val (.int ix), .val (.int jx), .val (.long q), .second, .val (.int (i5 + (1 : Int32))), .val (.long r_46), .second, .val (.long y8), .second, .val (.int y10), .val (.long y11), .second] [])) (fun t_ k_ => XS.iinc X46.here hx rfl (hb hby d5_170) rfl (l' := #[.val (.ref a), .val (.int ix), .val (.int jx), .val (.long q), .second, .val (.int (i5 + (1 : Int32))), .val (.long r_46), .second, .val (.long y8), .second, .val (.int y10), .val (.long y11), .second]) rfl k_) ?_
                  refine Go.st (T' := T46) (g' := (mkF m 69 #[.val (.ref a), .val (.int ix), .val (.int jx), .val (.long q), .second, .val (.int (i5 + (1 : Int32))), .val (.long r_46), .second, .val (.long y8), .second, .val (.int y10), .val (.long y11), .second] [])) (fun t_ k_ => XS.goto X46.here hx rfl (pc0 := 173) (pc' := 69) rfl (hb hby d5_173) (by decide) (by decide) k_) ?_
                  exact ih_J69 _ (by have z := own_nxt hD ⟨hn5, hc75⟩; omega) (i5 + (1 : Int32)) fa (.val (.long r_46)) (.second) (.val (.long y8)) (.second) (.val (.int y10)) (.val (.long y11)) (.second) T46 h_J69 rfl (X46.mono (by decide) (by decide)) sz_J69 K_J69 g0_J69 g1_J69 g2_J69 g3_J69 g4_J69 g5_J69 ((own_nxt hD ⟨hn5, hc75⟩).1) (by first | exact Or.inl ⟨rfl, rfl, rfl, rfl, rfl, rfl, rfl⟩ | exact Or.inr (Or.inl ⟨_, rfl, rfl, rfl, rfl, rfl, rfl, rfl⟩) | exact Or.inr (Or.inr (Or.inl ⟨_, _, _, _, rfl, rfl, rfl, rfl, rfl, rfl, rfl⟩)) | exact Or.inr (Or.inr (Or.inr ⟨_, _, _, rfl, rfl, rfl, rfl, rfl, rfl, rfl⟩)))
                · skip
                  refine Go.st (T' := T46) (g' := (mkF m 99 #[.val (.ref a), .val (.int ix), .val (.int jx), .val (.long q), .second, .val (.int i5), .val (.long r_46), .second, .val (.long y8), .second, .val (.int y10), .val (.long y11), .second] [])) (fun t_ k_ => XS.ifYes X46.here hx rfl (pc0 := 93) (pc' := 99) rfl (hb hby d5_93) rfl (lcFeq hc93).2 (by decide) (by decide) k_) ?_
                  refine Go.st (T' := T46) (g' := (mkF m 101 #[.val (.ref a), .val (.int ix), .val (.int jx), .val (.long q), .second, .val (.int i5), .val (.long r_46), .second, .val (.long y8), .second, .val (.int y10), .val (.long y11), .second] [(.long r_46)])) (fun t_ k_ => XS.lload X46.here hx rfl (hb hby d5_99) rfl k_) ?_
                  refine Go.st (T' := T46) (g' := (mkF m 102 #[.val (.ref a), .val (.int ix), .val (.int jx), .val (.long q), .second, .val (.int i5), .val (.long r_46), .second, .val (.long y8), .second, .val (.int y10), .val (.long y11), .second] [(.long q), (.long r_46)])) (fun t_ k_ => XS.lloadN X46.here hx rfl (hb hby d5_101) rfl k_) ?_
                  refine goStatic X46 hx hZ (y := (⟨"com/example/utu/utu/check/Zone", "add", "(JJ)J"⟩ : MethodName)) hown (hw _ (List.mem_of_getElem? (i := 60) rfl)) (hw _ (List.mem_of_getElem? (i := 61) rfl)) (hw _ (List.mem_of_getElem? (i := 2) rfl)) (hw _ (List.mem_of_getElem? (i := 62) rfl)) (by decide) (rm12 l Z a0 hw [] n0 h_J69 r_46 q sz_J69) 0 (by decide) (by decide) (by rw [hml]; rfl) [(.long r_46), (.long q)] [] (lenOf pd_6c7814f2 rfl) rfl rfl rfl (hb hby d5_102) (by decide) (by decide) fun v47 T47 h47 X47 hq47 => ?_
                  obtain ⟨r_47, rfl, eh47⟩ := hq47
                  rw [eh47] at X47
                  show Go p e below _ T47 (mkF m 105 #[.val (.ref a), .val (.int ix), .val (.int jx), .val (.long q), .second, .val (.int i5), .val (.long r_46), .second, .val (.long y8), .second, .val (.int y10), .val (.long y11), .second] [(.long r_47)])
                  refine Go.st (T' := T47) (g' := (mkF m 107 #[.val (.ref a), .val (.int ix), .val (.int jx), .val (.long q), .second, .val (.int i5), .val (.long r_46), .second, .val (.long r_47), .second, .val (.int y10), .val (.long y11), .second] [])) (fun t_ k_ => XS.lstore X47.here hx rfl (hb hby d5_105) rfl (l' := #[.val (.ref a), .val (.int ix), .val (.int jx), .val (.long q), .second, .val (.int i5), .val (.long r_46), .second, .val (.long r_47), .second, .val (.int y10), .val (.long y11), .second]) rfl k_) ?_
                  refine Go.st (T' := T47) (g' := (mkF m 108 #[.val (.ref a), .val (.int ix), .val (.int jx), .val (.long q), .second, .val (.int i5), .val (.long r_46), .second, .val (.long r_47), .second, .val (.int y10), .val (.long y11), .second] [(.int (0 : Int32))])) (fun t_ k_ => XS.iconst X47.here hx rfl (hb hby d5_107) k_) ?_
                  refine Go.st (T' := T47) (g' := (mkF m 110 #[.val (.ref a), .val (.int ix), .val (.int jx), .val (.long q), .second, .val (.int i5), .val (.long r_46), .second, .val (.long r_47), .second, .val (.int (0 : Int32)), .val (.long y11), .second] [])) (fun t_ k_ => XS.istore X47.here hx rfl (hb hby d5_108) rfl (l' := #[.val (.ref a), .val (.int ix), .val (.int jx), .val (.long q), .second, .val (.int i5), .val (.long r_46), .second, .val (.long r_47), .second, .val (.int (0 : Int32)), .val (.long y11), .second]) rfl k_) ?_
                  have J110 : ∀ (k_J110 : Nat) (i10 : Int32) (fb : Nat → Int64) (s11 : Slot) (s12 : Slot) (T_J110 : State) (h_J110 : Heap), (dm.toNatClampNeg - i10.toNatClampNeg) = k_J110 → Stn p l e ({ frames := 2, cells := 0, slots := 0, locals := 60 } : Room) s m #[(.ref a), (.int ix), (.int jx), (.long q)] below meth c n0 T_J110 h_J110 0 0 → n0 ≤ h_J110.size → Keep h0 h_J110 [bs] → Exa Z h_J110 a "com/example/utu/utu/check/Zone" → Exa Z h_J110 bs "[J" → Fld Z h_J110 a "com/example/utu/utu/check/Zone" "dimension" "I" (.int dm) → Fld Z h_J110 a "com/example/utu/utu/check/Zone" "bounds" "[J" (.ref bs) → Ary Z h_J110 bs .long n (fun i => .long (fb i)) → n0 ≤ bs → (¬ i10 < 0) → (own_t2 s11 s12) → Go p e below (PostW s n0 (0 : Nat) (0 : Nat) (Q5 Z n0 h0 a ix jx q dm bs n f)) T_J110 (mkF m 110 #[.val (.ref a), .val (.int ix), .val (.int jx), .val (.long q), .second, .val (.int i5), .val (.long r_46), .second, .val (.long r_47), .second, .val (.int i10), s11, s12] []) := by
                    intro k_J110
                    induction k_J110 using Nat.strongRecOn with
                    | _ k_J110 ih_J110 =>
                      intro i10 fb s11 s12 T_J110 h_J110 hk_J110 X_J110 sz_J110 K_J110 g0_J110 g1_J110 g2_J110 g3_J110 g4_J110 g5_J110 hn10 ht2
                      rcases ht2 with ⟨rfl, rfl⟩ | ⟨y11, rfl, rfl⟩
                      · skip
                        refine Go.st (T' := T_J110) (g' := (mkF m 112 #[.val (.ref a), .val (.int ix), .val (.int jx), .val (.long q), .second, .val (.int i5), .val (.long r_46), .second, .val (.long r_47), .second, .val (.int i10), .unset, .unset] [(.int i10)])) (fun t_ k_ => XS.iload X_J110.here hx rfl (hb hby d5_110) rfl k_) ?_
                        refine Go.st (T' := T_J110) (g' := (mkF m 113 #[.val (.ref a), .val (.int ix), .val (.int jx), .val (.long q), .second, .val (.int i5), .val (.long r_46), .second, .val (.long r_47), .second, .val (.int i10), .unset, .unset] [(.ref a), (.int i10)])) (fun t_ k_ => XS.aloadN X_J110.here hx rfl (hb hby d5_112) rfl rfl k_) ?_
                        refine goGet X_J110 hx hZ hown (host := "") (Or.inl (hw _ (List.mem_of_getElem? (i := 9) rfl))) Via.refl g2_J110 (hb hby d5_113) fun T48 X48 => ?_
                        show Go p e below _ T48 (mkF m 116 #[.val (.ref a), .val (.int ix), .val (.int jx), .val (.long q), .second, .val (.int i5), .val (.long r_46), .second, .val (.long r_47), .second, .val (.int i10), .unset, .unset] [(.int dm), (.int i10)])
                        by_cases hc116 : i10 < dm
                        · skip
                          refine Go.st (T' := T48) (g' := (mkF m 119 #[.val (.ref a), .val (.int ix), .val (.int jx), .val (.long q), .second, .val (.int i5), .val (.long r_46), .second, .val (.long r_47), .second, .val (.int i10), .unset, .unset] [])) (fun t_ k_ => XS.icmpNo X48.here hx rfl (hb hby d5_116) rfl (tlt hc116).2.1 k_) ?_
                          refine Go.st (T' := T48) (g' := (mkF m 121 #[.val (.ref a), .val (.int ix), .val (.int jx), .val (.long q), .second, .val (.int i5), .val (.long r_46), .second, .val (.long r_47), .second, .val (.int i10), .unset, .unset] [(.long r_47)])) (fun t_ k_ => XS.lload X48.here hx rfl (hb hby d5_119) rfl k_) ?_
                          refine Go.st (T' := T48) (g' := (mkF m 122 #[.val (.ref a), .val (.int ix), .val (.int jx), .val (.long q), .second, .val (.int i5), .val (.long r_46), .second, .val (.long r_47), .second, .val (.int i10), .unset, .unset] [(.ref a), (.long r_47)])) (fun t_ k_ => XS.aloadN X48.here hx rfl (hb hby d5_121) rfl rfl k_) ?_
                          refine Go.st (T' := T48) (g' := (mkF m 123 #[.val (.ref a), .val (.int ix), .val (.int jx), .val (.long q), .second, .val (.int i5), .val (.long r_46), .second, .val (.long r_47), .second, .val (.int i10), .unset, .unset] [(.int jx), (.ref a), (.long r_47)])) (fun t_ k_ => XS.iloadN X48.here hx rfl (hb hby d5_122) rfl k_) ?_
                          refine Go.st (T' := T48) (g' := (mkF m 125 #[.val (.ref a), .val (.int ix), .val (.int jx), .val (.long q), .second, .val (.int i5), .val (.long r_46), .second, .val (.long r_47), .second, .val (.int i10), .unset, .unset] [(.int i10), (.int jx), (.ref a), (.long r_47)])) (fun t_ k_ => XS.iload X48.here hx rfl (hb hby d5_123) rfl k_) ?_
                          refine goVirtS X48 hx hZ (y := (⟨"com/example/utu/utu/check/Zone", "get", "(II)J"⟩ : MethodName)) hown (hw _ (List.mem_of_getElem? (i := 31) rfl)) (hw _ (List.mem_of_getElem? (i := 32) rfl)) (hw _ (List.mem_of_getElem? (i := 34) rfl)) (hw _ (List.mem_of_getElem? (i := 33) rfl)) (hw _ (List.mem_of_getElem? (i := 2) rfl)) (hw _ (List.mem_of_getElem? (i := 35) rfl)) (by decide) g0_J110 (rm7 l Z a0 hw [] n0 h_J110 a jx i10 dm bs n fb sz_J110 g2_J110 g3_J110 g4_J110 (hD) (hj) (⟨hn10, hc116⟩)) 2 (by decide) (by decide) (by rw [hml]; rfl) [(.int jx), (.int i10)] [(.long r_47)] (lenOf pd_7c8b0545 rfl) rfl rfl rfl (hb hby d5_125) (by decide) (by decide) fun v49 T49 h49 X49 hq49 => ?_
                          obtain ⟨r_49, rfl, eh49⟩ := hq49
                          rw [eh49] at X49
                          show Go p e below _ T49 (mkF m 128 #[.val (.ref a), .val (.int ix), .val (.int jx), .val (.long q), .second, .val (.int i5), .val (.long r_46), .second, .val (.long r_47), .second, .val (.int i10), .unset, .unset] [(.long r_49), (.long r_47)])
                          refine goStatic X49 hx hZ (y := (⟨"com/example/utu/utu/check/Zone", "add", "(JJ)J"⟩ : MethodName)) hown (hw _ (List.mem_of_getElem? (i := 60) rfl)) (hw _ (List.mem_of_getElem? (i := 61) rfl)) (hw _ (List.mem_of_getElem? (i := 2) rfl)) (hw _ (List.mem_of_getElem? (i := 62) rfl)) (by decide) (rm12 l Z a0 hw [] n0 h_J110 r_47 r_49 sz_J110) 0 (by decide) (by decide) (by rw [hml]; rfl) [(.long r_47), (.long r_49)] [] (lenOf pd_6c7814f2 rfl) rfl rfl rfl (hb hby d5_128) (by decide) (by decide) fun v50 T50 h50 X50 hq50 => ?_
                          obtain ⟨r_50, rfl, eh50⟩ := hq50
                          rw [eh50] at X50
                          show Go p e below _ T50 (mkF m 131 #[.val (.ref a), .val (.int ix), .val (.int jx), .val (.long q), .second, .val (.int i5), .val (.long r_46), .second, .val (.long r_47), .second, .val (.int i10), .unset, .unset] [(.long r_50)])
                          refine Go.st (T' := T50) (g' := (mkF m 133 #[.val (.ref a), .val (.int ix), .val (.int jx), .val (.long q), .second, .val (.int i5), .val (.long r_46), .second, .val (.long r_47), .second, .val (.int i10), .val (.long r_50), .second] [])) (fun t_ k_ => XS.lstore X50.here hx rfl (hb hby d5_131) rfl (l' := #[.val (.ref a), .val (.int ix), .val (.int jx), .val (.long q), .second, .val (.int i5), .val (.long r_46), .second, .val (.long r_47), .second, .val (.int i10), .val (.long r_50), .second]) rfl k_) ?_
                          refine Go.st (T' := T50) (g' := (mkF m 135 #[.val (.ref a), .val (.int ix), .val (.int jx), .val (.long q), .second, .val (.int i5), .val (.long r_46), .second, .val (.long r_47), .second, .val (.int i10), .val (.long r_50), .second] [(.long r_50)])) (fun t_ k_ => XS.lload X50.here hx rfl (hb hby d5_133) rfl k_) ?_
                          refine Go.st (T' := T50) (g' := (mkF m 136 #[.val (.ref a), .val (.int ix), .val (.int jx), .val (.long q), .second, .val (.int i5), .val (.long r_46), .second, .val (.long r_47), .second, .val (.int i10), .val (.long r_50), .second] [(.ref a), (.long r_50)])) (fun t_ k_ => XS.aloadN X50.here hx rfl (hb hby d5_135) rfl rfl k_) ?_
                          refine Go.st (T' := T50) (g' := (mkF m 138 #[.val (.ref a), .val (.int ix), .val (.int jx), .val (.long q), .second, .val (.int i5), .val (.long r_46), .second, .val (.long r_47), .second, .val (.int i10), .val (.long r_50), .second] [(.int i5), (.ref a), (.long r_50)])) (fun t_ k_ => XS.iload X50.here hx rfl (hb hby d5_136) rfl k_) ?_
                          refine Go.st (T' := T50) (g' := (mkF m 140 #[.val (.ref a), .val (.int ix), .val (.int jx), .val (.long q), .second, .val (.int i5), .val (.long r_46), .second, .val (.long r_47), .second, .val (.int i10), .val (.long r_50), .second] [(.int i10), (.int i5), (.ref a), (.long r_50)])) (fun t_ k_ => XS.iload X50.here hx rfl (hb hby d5_138) rfl k_) ?_
                          refine goVirtS X50 hx hZ (y := (⟨"com/example/utu/utu/check/Zone", "get", "(II)J"⟩ : MethodName)) hown (hw _ (List.mem_of_getElem? (i := 31) rfl)) (hw _ (List.mem_of_getElem? (i := 32) rfl)) (hw _ (List.mem_of_getElem? (i := 34) rfl)) (hw _ (List.mem_of_getElem? (i := 33) rfl)) (hw _ (List.mem_of_getElem? (i := 2) rfl)) (hw _ (List.mem_of_getElem? (i := 35) rfl)) (by decide) g0_J110 (rm7 l Z a0 hw [] n0 h_J110 a i5 i10 dm bs n fb sz_J110 g2_J110 g3_J110 g4_J110 (hD) (⟨hn5, hc75⟩) (⟨hn10, hc116⟩)) 2 (by decide) (by decide) (by rw [hml]; rfl) [(.int i5), (.int i10)] [(.long r_50)] (lenOf pd_7c8b0545 rfl) rfl rfl rfl (hb hby d5_140) (by decide) (by decide) fun v51 T51 h51 X51 hq51 => ?_
                          obtain ⟨r_51, rfl, eh51⟩ := hq51
                          rw [eh51] at X51
                          show Go p e below _ T51 (mkF m 143 #[.val (.ref a), .val (.int ix), .val (.int jx), .val (.long q), .second, .val (.int i5), .val (.long r_46), .second, .val (.long r_47), .second, .val (.int i10), .val (.long r_50), .second] [(.long r_51), (.long r_50)])
                          refine Go.st (T' := T51) (g' := (mkF m 144 #[.val (.ref a), .val (.int ix), .val (.int jx), .val (.long q), .second, .val (.int i5), .val (.long r_46), .second, .val (.long r_47), .second, .val (.int i10), .val (.long r_50), .second] [(.int (lcmpW r_50 r_51))])) (fun t_ k_ => XS.lcmp X51.here hx rfl (hb hby d5_143) rfl k_) ?_
                          by_cases hc144 : r_50 < r_51
                          · skip
                            refine Go.st (T' := T51) (g' := (mkF m 147 #[.val (.ref a), .val (.int ix), .val (.int jx), .val (.long q), .second, .val (.int i5), .val (.long r_46), .second, .val (.long r_47), .second, .val (.int i10), .val (.long r_50), .second] [])) (fun t_ k_ => XS.ifNo X51.here hx rfl (hb hby d5_144) rfl (lcTlt hc144).2 k_) ?_
                            refine Go.st (T' := T51) (g' := (mkF m 148 #[.val (.ref a), .val (.int ix), .val (.int jx), .val (.long q), .second, .val (.int i5), .val (.long r_46), .second, .val (.long r_47), .second, .val (.int i10), .val (.long r_50), .second] [(.ref a)])) (fun t_ k_ => XS.aloadN X51.here hx rfl (hb hby d5_147) rfl rfl k_) ?_
                            refine goGet X51 hx hZ hown (host := "") (Or.inl (hw _ (List.mem_of_getElem? (i := 12) rfl))) Via.refl g3_J110 (hb hby d5_148) fun T52 X52 => ?_
                            show Go p e below _ T52 (mkF m 151 #[.val (.ref a), .val (.int ix), .val (.int jx), .val (.long q), .second, .val (.int i5), .val (.long r_46), .second, .val (.long r_47), .second, .val (.int i10), .val (.long r_50), .second] [(.ref bs)])
                            refine Go.st (T' := T52) (g' := (mkF m 153 #[.val (.ref a), .val (.int ix), .val (.int jx), .val (.long q), .second, .val (.int i5), .val (.long r_46), .second, .val (.long r_47), .second, .val (.int i10), .val (.long r_50), .second] [(.int i5), (.ref bs)])) (fun t_ k_ => XS.iload X52.here hx rfl (hb hby d5_151) rfl k_) ?_
                            refine Go.st (T' := T52) (g' := (mkF m 154 #[.val (.ref a), .val (.int ix), .val (.int jx), .val (.long q), .second, .val (.int i5), .val (.long r_46), .second, .val (.long r_47), .second, .val (.int i10), .val (.long r_50), .second] [(.ref a), (.int i5), (.ref bs)])) (fun t_ k_ => XS.aloadN X52.here hx rfl (hb hby d5_153) rfl rfl k_) ?_
                            refine goGet X52 hx hZ hown (host := "") (Or.inl (hw _ (List.mem_of_getElem? (i := 9) rfl))) Via.refl g2_J110 (hb hby d5_154) fun T53 X53 => ?_
                            show Go p e below _ T53 (mkF m 157 #[.val (.ref a), .val (.int ix), .val (.int jx), .val (.long q), .second, .val (.int i5), .val (.long r_46), .second, .val (.long r_47), .second, .val (.int i10), .val (.long r_50), .second] [(.int dm), (.int i5), (.ref bs)])
                            refine Go.st (T' := T53) (g' := (mkF m 158 #[.val (.ref a), .val (.int ix), .val (.int jx), .val (.long q), .second, .val (.int i5), .val (.long r_46), .second, .val (.long r_47), .second, .val (.int i10), .val (.long r_50), .second] [(.int (i5 * dm)), (.ref bs)])) (fun t_ k_ => XS.imul X53.here hx rfl (hb hby d5_157) rfl k_) ?_
                            refine Go.st (T' := T53) (g' := (mkF m 160 #[.val (.ref a), .val (.int ix), .val (.int jx), .val (.long q), .second, .val (.int i5), .val (.long r_46), .second, .val (.long r_47), .second, .val (.int i10), .val (.long r_50), .second] [(.int i10), (.int (i5 * dm)), (.ref bs)])) (fun t_ k_ => XS.iload X53.here hx rfl (hb hby d5_158) rfl k_) ?_
                            refine Go.st (T' := T53) (g' := (mkF m 161 #[.val (.ref a), .val (.int ix), .val (.int jx), .val (.long q), .second, .val (.int i5), .val (.long r_46), .second, .val (.long r_47), .second, .val (.int i10), .val (.long r_50), .second] [(.int ((i5 * dm) + i10)), (.ref bs)])) (fun t_ k_ => XS.iadd X53.here hx rfl (hb hby d5_160) rfl k_) ?_
                            refine Go.st (T' := T53) (g' := (mkF m 163 #[.val (.ref a), .val (.int ix), .val (.int jx), .val (.long q), .second, .val (.int i5), .val (.long r_46), .second, .val (.long r_47), .second, .val (.int i10), .val (.long r_50), .second] [(.long r_50), (.int ((i5 * dm) + i10)), (.ref bs)])) (fun t_ k_ => XS.lload X53.here hx rfl (hb hby d5_161) rfl k_) ?_
                            refine goStJ X53 hx hZ (f := (fun i => (fb i))) g4_J110 (j := ((i5 * dm) + i10)) (own_ix hD ⟨hn5, hc75⟩ ⟨hn10, hc116⟩) g5_J110 (hb hby d5_163) fun T54 h54 X54 W54 A54 => ?_
                            have f54_1 : Exa Z h54 a "com/example/utu/utu/check/Zone" := g0_J110.wr W54
                            have f54_2 : Exa Z h54 bs "[J" := g1_J110.wr W54
                            have f54_3 : Fld Z h54 a "com/example/utu/utu/check/Zone" "dimension" "I" (.int dm) := g2_J110.other W54 (Or.inl (ne_exa g0_J110 g1_J110 (by decide)))
                            have f54_4 : Fld Z h54 a "com/example/utu/utu/check/Zone" "bounds" "[J" (.ref bs) := g3_J110.other W54 (Or.inl (ne_exa g0_J110 g1_J110 (by decide)))
                            have sz54 : n0 ≤ h54.size := Nat.le_trans sz_J110 (Keep.of_wr W54).1
                            have K54 : Keep h0 h54 [bs] := K_J110.wr W54 (Or.inl (List.mem_of_getElem? (i := 0) rfl))
                            show Go p e below _ T54 (mkF m 164 #[.val (.ref a), .val (.int ix), .val (.int jx), .val (.long q), .second, .val (.int i5), .val (.long r_46), .second, .val (.long r_47), .second, .val (.int i10), .val (.long r_50), .second] [])
                            refine Go.st (T' := T54) (g' := (mkF m 167 #[.val (.ref a), .val (.int ix), .val (.int jx), .val (.long q), .second, .val (.int i5), .val (.long r_46), .second, .val (.long r_47), .second, .val (.int (i10 + (1 : Int32))), .val (.long r_50), .second] [])) (fun t_ k_ => XS.iinc X54.here hx rfl (hb hby d5_164) rfl (l' := #[.val (.ref a), .val (.int ix), .val (.int jx), .val (.long q), .second, .val (.int i5), .val (.long r_46), .second, .val (.long r_47), .second, .val (.int (i10 + (1 : Int32))), .val (.long r_50), .second]) rfl k_) ?_
                            refine Go.st (T' := T54) (g' := (mkF m 110 #[.val (.ref a), .val (.int ix), .val (.int jx), .val (.long q), .second, .val (.int i5), .val (.long r_46), .second, .val (.long r_47), .second, .val (.int (i10 + (1 : Int32))), .val (.long r_50), .second] [])) (fun t_ k_ => XS.goto X54.here hx rfl (pc0 := 167) (pc' := 110) rfl (hb hby d5_167) (by decide) (by decide) k_) ?_
                            exact ih_J110 _ (by have z := own_nxt hD ⟨hn10, hc116⟩; omega) (i10 + (1 : Int32)) (fun i => (if i = (((i5 * dm) + i10)).toNatClampNeg then r_50 else (fun i => (fb i)) i)) (.val (.long r_50)) (.second) T54 h54 rfl (X54.mono (by decide) (by decide)) sz54 K54 f54_1 f54_2 f54_3 f54_4 A54 g5_J110 ((own_nxt hD ⟨hn10, hc116⟩).1) (by first | exact Or.inl ⟨rfl, rfl⟩ | exact Or.inr ⟨_, rfl, rfl⟩)
                          · skip
                            refine Go.st (T' := T51) (g' := (mkF m 164 #[.val (.ref a), .val (.int ix), .val (.int jx), .val (.long q), .second, .val (.int i5), .val (.long r_46), .second, .val (.long r_47), .second, .val (.int i10), .val (.long r_50), .second] [])) (fun t_ k_ => XS.ifYes X51.here hx rfl (pc0 := 144) (pc' := 164) rfl (hb hby d5_144) rfl (lcFlt hc144).2 (by decide) (by decide) k_) ?_
                            refine Go.st (T' := T51) (g' := (mkF m 167 #[.val (.ref a), .val (.int ix), .val (.int jx), .val (.long q), .second, .val (.int i5), .val (.long r_46), .second, .val (.long r_47), .second, .val (.int (i10 + (1 : Int32))), .val (.long r_50), .second] [])) (fun t_ k_ => XS.iinc X51.here hx rfl (hb hby d5_164) rfl (l' := #[.val (.ref a), .val (.int ix), .val (.int jx), .val (.long q), .second, .val (.int i5), .val (.long r_46), .second, .val (.long r_47), .second, .val (.int (i10 + (1 : Int32))), .val (.long r_50), .second]) rfl k_) ?_
                            refine Go.st (T' := T51) (g' := (mkF m 110 #[.val (.ref a), .val (.int ix), .val (.int jx), .val (.long q), .second, .val (.int i5), .val (.long r_46), .second, .val (.long r_47), .second, .val (.int (i10 + (1 : Int32))), .val (.long r_50), .second] [])) (fun t_ k_ => XS.goto X51.here hx rfl (pc0 := 167) (pc' := 110) rfl (hb hby d5_167) (by decide) (by decide) k_) ?_
                            exact ih_J110 _ (by have z := own_nxt hD ⟨hn10, hc116⟩; omega) (i10 + (1 : Int32)) fb (.val (.long r_50)) (.second) T51 h_J110 rfl (X51.mono (by decide) (by decide)) sz_J110 K_J110 g0_J110 g1_J110 g2_J110 g3_J110 g4_J110 g5_J110 ((own_nxt hD ⟨hn10, hc116⟩).1) (by first | exact Or.inl ⟨rfl, rfl⟩ | exact Or.inr ⟨_, rfl, rfl⟩)
                        · skip
                          refine Go.st (T' := T48) (g' := (mkF m 170 #[.val (.ref a), .val (.int ix), .val (.int jx), .val (.long q), .second, .val (.int i5), .val (.long r_46), .second, .val (.long r_47), .second, .val (.int i10), .unset, .unset] [])) (fun t_ k_ => XS.icmpYes X48.here hx rfl (pc0 := 116) (pc' := 170) rfl (hb hby d5_116) rfl (flt hc116).2.1 (by decide) (by decide) k_) ?_
                          refine Go.st (T' := T48) (g' := (mkF m 173 #[.val (.ref a), .val (.int ix), .val (.int jx), .val (.long q), .second, .val (.int (i5 + (1 : Int32))), .val (.long r_46), .second, .val (.long r_47), .second, .val (.int i10), .unset, .unset] [])) (fun t_ k_ => XS.iinc X48.here hx rfl (hb hby d5_170) rfl (l' := #[.val (.ref a), .val (.int ix), .val (.int jx), .val (.long q), .second, .val (.int (i5 + (1 : Int32))), .val (.long r_46), .second, .val (.long r_47), .second, .val (.int i10), .unset, .unset]) rfl k_) ?_
                          refine Go.st (T' := T48) (g' := (mkF m 69 #[.val (.ref a), .val (.int ix), .val (.int jx), .val (.long q), .second, .val (.int (i5 + (1 : Int32))), .val (.long r_46), .second, .val (.long r_47), .second, .val (.int i10), .unset, .unset] [])) (fun t_ k_ => XS.goto X48.here hx rfl (pc0 := 173) (pc' := 69) rfl (hb hby d5_173) (by decide) (by decide) k_) ?_
                          exact ih_J69 _ (by have z := own_nxt hD ⟨hn5, hc75⟩; omega) (i5 + (1 : Int32)) fb (.val (.long r_46)) (.second) (.val (.long r_47)) (.second) (.val (.int i10)) (.unset) (.unset) T48 h_J110 rfl (X48.mono (by decide) (by decide)) sz_J110 K_J110 g0_J110 g1_J110 g2_J110 g3_J110 g4_J110 g5_J110 ((own_nxt hD ⟨hn5, hc75⟩).1) (by first | exact Or.inl ⟨rfl, rfl, rfl, rfl, rfl, rfl, rfl⟩ | exact Or.inr (Or.inl ⟨_, rfl, rfl, rfl, rfl, rfl, rfl, rfl⟩) | exact Or.inr (Or.inr (Or.inl ⟨_, _, _, _, rfl, rfl, rfl, rfl, rfl, rfl, rfl⟩)) | exact Or.inr (Or.inr (Or.inr ⟨_, _, _, rfl, rfl, rfl, rfl, rfl, rfl, rfl⟩)))
                      · skip
                        refine Go.st (T' := T_J110) (g' := (mkF m 112 #[.val (.ref a), .val (.int ix), .val (.int jx), .val (.long q), .second, .val (.int i5), .val (.long r_46), .second, .val (.long r_47), .second, .val (.int i10), .val (.long y11), .second] [(.int i10)])) (fun t_ k_ => XS.iload X_J110.here hx rfl (hb hby d5_110) rfl k_) ?_
                        refine Go.st (T' := T_J110) (g' := (mkF m 113 #[.val (.ref a), .val (.int ix), .val (.int jx), .val (.long q), .second, .val (.int i5), .val (.long r_46), .second, .val (.long r_47), .second, .val (.int i10), .val (.long y11), .second] [(.ref a), (.int i10)])) (fun t_ k_ => XS.aloadN X_J110.here hx rfl (hb hby d5_112) rfl rfl k_) ?_
                        refine goGet X_J110 hx hZ hown (host := "") (Or.inl (hw _ (List.mem_of_getElem? (i := 9) rfl))) Via.refl g2_J110 (hb hby d5_113) fun T55 X55 => ?_
                        show Go p e below _ T55 (mkF m 116 #[.val (.ref a), .val (.int ix), .val (.int jx), .val (.long q), .second, .val (.int i5), .val (.long r_46), .second, .val (.long r_47), .second, .val (.int i10), .val (.long y11), .second] [(.int dm), (.int i10)])
                        by_cases hc116 : i10 < dm
                        · skip
                          refine Go.st (T' := T55) (g' := (mkF m 119 #[.val (.ref a), .val (.int ix), .val (.int jx), .val (.long q), .second, .val (.int i5), .val (.long r_46), .second, .val (.long r_47), .second, .val (.int i10), .val (.long y11), .second] [])) (fun t_ k_ => XS.icmpNo X55.here hx rfl (hb hby d5_116) rfl (tlt hc116).2.1 k_) ?_
                          refine Go.st (T' := T55) (g' := (mkF m 121 #[.val (.ref a), .val (.int ix), .val (.int jx), .val (.long q), .second, .val (.int i5), .val (.long r_46), .second, .val (.long r_47), .second, .val (.int i10), .val (.long y11), .second] [(.long r_47)])) (fun t_ k_ => XS.lload X55.here hx rfl (hb hby d5_119) rfl k_) ?_
                          refine Go.st (T' := T55) (g' := (mkF m 122 #[.val (.ref a), .val (.int ix), .val (.int jx), .val (.long q), .second, .val (.int i5), .val (.long r_46), .second, .val (.long r_47), .second, .val (.int i10), .val (.long y11), .second] [(.ref a), (.long r_47)])) (fun t_ k_ => XS.aloadN X55.here hx rfl (hb hby d5_121) rfl rfl k_) ?_
                          refine Go.st (T' := T55) (g' := (mkF m 123 #[.val (.ref a), .val (.int ix), .val (.int jx), .val (.long q), .second, .val (.int i5), .val (.long r_46), .second, .val (.long r_47), .second, .val (.int i10), .val (.long y11), .second] [(.int jx), (.ref a), (.long r_47)])) (fun t_ k_ => XS.iloadN X55.here hx rfl (hb hby d5_122) rfl k_) ?_
                          refine Go.st (T' := T55) (g' := (mkF m 125 #[.val (.ref a), .val (.int ix), .val (.int jx), .val (.long q), .second, .val (.int i5), .val (.long r_46), .second, .val (.long r_47), .second, .val (.int i10), .val (.long y11), .second] [(.int i10), (.int jx), (.ref a), (.long r_47)])) (fun t_ k_ => XS.iload X55.here hx rfl (hb hby d5_123) rfl k_) ?_
                          refine goVirtS X55 hx hZ (y := (⟨"com/example/utu/utu/check/Zone", "get", "(II)J"⟩ : MethodName)) hown (hw _ (List.mem_of_getElem? (i := 31) rfl)) (hw _ (List.mem_of_getElem? (i := 32) rfl)) (hw _ (List.mem_of_getElem? (i := 34) rfl)) (hw _ (List.mem_of_getElem? (i := 33) rfl)) (hw _ (List.mem_of_getElem? (i := 2) rfl)) (hw _ (List.mem_of_getElem? (i := 35) rfl)) (by decide) g0_J110 (rm7 l Z a0 hw [] n0 h_J110 a jx i10 dm bs n fb sz_J110 g2_J110 g3_J110 g4_J110 (hD) (hj) (⟨hn10, hc116⟩)) 2 (by decide) (by decide) (by rw [hml]; rfl) [(.int jx), (.int i10)] [(.long r_47)] (lenOf pd_7c8b0545 rfl) rfl rfl rfl (hb hby d5_125) (by decide) (by decide) fun v56 T56 h56 X56 hq56 => ?_
                          obtain ⟨r_56, rfl, eh56⟩ := hq56
                          rw [eh56] at X56
                          show Go p e below _ T56 (mkF m 128 #[.val (.ref a), .val (.int ix), .val (.int jx), .val (.long q), .second, .val (.int i5), .val (.long r_46), .second, .val (.long r_47), .second, .val (.int i10), .val (.long y11), .second] [(.long r_56), (.long r_47)])
                          refine goStatic X56 hx hZ (y := (⟨"com/example/utu/utu/check/Zone", "add", "(JJ)J"⟩ : MethodName)) hown (hw _ (List.mem_of_getElem? (i := 60) rfl)) (hw _ (List.mem_of_getElem? (i := 61) rfl)) (hw _ (List.mem_of_getElem? (i := 2) rfl)) (hw _ (List.mem_of_getElem? (i := 62) rfl)) (by decide) (rm12 l Z a0 hw [] n0 h_J110 r_47 r_56 sz_J110) 0 (by decide) (by decide) (by rw [hml]; rfl) [(.long r_47), (.long r_56)] [] (lenOf pd_6c7814f2 rfl) rfl rfl rfl (hb hby d5_128) (by decide) (by decide) fun v57 T57 h57 X57 hq57 => ?_
                          obtain ⟨r_57, rfl, eh57⟩ := hq57
                          rw [eh57] at X57
                          show Go p e below _ T57 (mkF m 131 #[.val (.ref a), .val (.int ix), .val (.int jx), .val (.long q), .second, .val (.int i5), .val (.long r_46), .second, .val (.long r_47), .second, .val (.int i10), .val (.long y11), .second] [(.long r_57)])
                          refine Go.st (T' := T57) (g' := (mkF m 133 #[.val (.ref a), .val (.int ix), .val (.int jx), .val (.long q), .second, .val (.int i5), .val (.long r_46), .second, .val (.long r_47), .second, .val (.int i10), .val (.long r_57), .second] [])) (fun t_ k_ => XS.lstore X57.here hx rfl (hb hby d5_131) rfl (l' := #[.val (.ref a), .val (.int ix), .val (.int jx), .val (.long q), .second, .val (.int i5), .val (.long r_46), .second, .val (.long r_47), .second, .val (.int i10), .val (.long r_57), .second]) rfl k_) ?_
                          refine Go.st (T' := T57) (g' := (mkF m 135 #[.val (.ref a), .val (.int ix), .val (.int jx), .val (.long q), .second, .val (.int i5), .val (.long r_46), .second, .val (.long r_47), .second, .val (.int i10), .val (.long r_57), .second] [(.long r_57)])) (fun t_ k_ => XS.lload X57.here hx rfl (hb hby d5_133) rfl k_) ?_
                          refine Go.st (T' := T57) (g' := (mkF m 136 #[.val (.ref a), .val (.int ix), .val (.int jx), .val (.long q), .second, .val (.int i5), .val (.long r_46), .second, .val (.long r_47), .second, .val (.int i10), .val (.long r_57), .second] [(.ref a), (.long r_57)])) (fun t_ k_ => XS.aloadN X57.here hx rfl (hb hby d5_135) rfl rfl k_) ?_
                          refine Go.st (T' := T57) (g' := (mkF m 138 #[.val (.ref a), .val (.int ix), .val (.int jx), .val (.long q), .second, .val (.int i5), .val (.long r_46), .second, .val (.long r_47), .second, .val (.int i10), .val (.long r_57), .second] [(.int i5), (.ref a), (.long r_57)])) (fun t_ k_ => XS.iload X57.here hx rfl (hb hby d5_136) rfl k_) ?_
                          refine Go.st (T' := T57) (g' := (mkF m 140 #[.val (.ref a), .val (.int ix), .val (.int jx), .val (.long q), .second, .val (.int i5), .val (.long r_46), .second, .val (.long r_47), .second, .val (.int i10), .val (.long r_57), .second] [(.int i10), (.int i5), (.ref a), (.long r_57)])) (fun t_ k_ => XS.iload X57.here hx rfl (hb hby d5_138) rfl k_) ?_
                          refine goVirtS X57 hx hZ (y := (⟨"com/example/utu/utu/check/Zone", "get", "(II)J"⟩ : MethodName)) hown (hw _ (List.mem_of_getElem? (i := 31) rfl)) (hw _ (List.mem_of_getElem? (i := 32) rfl)) (hw _ (List.mem_of_getElem? (i := 34) rfl)) (hw _ (List.mem_of_getElem? (i := 33) rfl)) (hw _ (List.mem_of_getElem? (i := 2) rfl)) (hw _ (List.mem_of_getElem? (i := 35) rfl)) (by decide) g0_J110 (rm7 l Z a0 hw [] n0 h_J110 a i5 i10 dm bs n fb sz_J110 g2_J110 g3_J110 g4_J110 (hD) (⟨hn5, hc75⟩) (⟨hn10, hc116⟩)) 2 (by decide) (by decide) (by rw [hml]; rfl) [(.int i5), (.int i10)] [(.long r_57)] (lenOf pd_7c8b0545 rfl) rfl rfl rfl (hb hby d5_140) (by decide) (by decide) fun v58 T58 h58 X58 hq58 => ?_
                          obtain ⟨r_58, rfl, eh58⟩ := hq58
                          rw [eh58] at X58
                          show Go p e below _ T58 (mkF m 143 #[.val (.ref a), .val (.int ix), .val (.int jx), .val (.long q), .second, .val (.int i5), .val (.long r_46), .second, .val (.long r_47), .second, .val (.int i10), .val (.long r_57), .second] [(.long r_58), (.long r_57)])
                          refine Go.st (T' := T58) (g' := (mkF m 144 #[.val (.ref a), .val (.int ix), .val (.int jx), .val (.long q), .second, .val (.int i5), .val (.long r_46), .second, .val (.long r_47), .second, .val (.int i10), .val (.long r_57), .second] [(.int (lcmpW r_57 r_58))])) (fun t_ k_ => XS.lcmp X58.here hx rfl (hb hby d5_143) rfl k_) ?_
                          by_cases hc144 : r_57 < r_58
                          · skip
                            refine Go.st (T' := T58) (g' := (mkF m 147 #[.val (.ref a), .val (.int ix), .val (.int jx), .val (.long q), .second, .val (.int i5), .val (.long r_46), .second, .val (.long r_47), .second, .val (.int i10), .val (.long r_57), .second] [])) (fun t_ k_ => XS.ifNo X58.here hx rfl (hb hby d5_144) rfl (lcTlt hc144).2 k_) ?_
                            refine Go.st (T' := T58) (g' := (mkF m 148 #[.val (.ref a), .val (.int ix), .val (.int jx), .val (.long q), .second, .val (.int i5), .val (.long r_46), .second, .val (.long r_47), .second, .val (.int i10), .val (.long r_57), .second] [(.ref a)])) (fun t_ k_ => XS.aloadN X58.here hx rfl (hb hby d5_147) rfl rfl k_) ?_
                            refine goGet X58 hx hZ hown (host := "") (Or.inl (hw _ (List.mem_of_getElem? (i := 12) rfl))) Via.refl g3_J110 (hb hby d5_148) fun T59 X59 => ?_
                            show Go p e below _ T59 (mkF m 151 #[.val (.ref a), .val (.int ix), .val (.int jx), .val (.long q), .second, .val (.int i5), .val (.long r_46), .second, .val (.long r_47), .second, .val (.int i10), .val (.long r_57), .second] [(.ref bs)])
                            refine Go.st (T' := T59) (g' := (mkF m 153 #[.val (.ref a), .val (.int ix), .val (.int jx), .val (.long q), .second, .val (.int i5), .val (.long r_46), .second, .val (.long r_47), .second, .val (.int i10), .val (.long r_57), .second] [(.int i5), (.ref bs)])) (fun t_ k_ => XS.iload X59.here hx rfl (hb hby d5_151) rfl k_) ?_
                            refine Go.st (T' := T59) (g' := (mkF m 154 #[.val (.ref a), .val (.int ix), .val (.int jx), .val (.long q), .second, .val (.int i5), .val (.long r_46), .second, .val (.long r_47), .second, .val (.int i10), .val (.long r_57), .second] [(.ref a), (.int i5), (.ref bs)])) (fun t_ k_ => XS.aloadN X59.here hx rfl (hb hby d5_153) rfl rfl k_) ?_
                            refine goGet X59 hx hZ hown (host := "") (Or.inl (hw _ (List.mem_of_getElem? (i := 9) rfl))) Via.refl g2_J110 (hb hby d5_154) fun T60 X60 => ?_
                            show Go p e below _ T60 (mkF m 157 #[.val (.ref a), .val (.int ix), .val (.int jx), .val (.long q), .second, .val (.int i5), .val (.long r_46), .second, .val (.long r_47), .second, .val (.int i10), .val (.long r_57), .second] [(.int dm), (.int i5), (.ref bs)])
                            refine Go.st (T' := T60) (g' := (mkF m 158 #[.val (.ref a), .val (.int ix), .val (.int jx), .val (.long q), .second, .val (.int i5), .val (.long r_46), .second, .val (.long r_47), .second, .val (.int i10), .val (.long r_57), .second] [(.int (i5 * dm)), (.ref bs)])) (fun t_ k_ => XS.imul X60.here hx rfl (hb hby d5_157) rfl k_) ?_
                            refine Go.st (T' := T60) (g' := (mkF m 160 #[.val (.ref a), .val (.int ix), .val (.int jx), .val (.long q), .second, .val (.int i5), .val (.long r_46), .second, .val (.long r_47), .second, .val (.int i10), .val (.long r_57), .second] [(.int i10), (.int (i5 * dm)), (.ref bs)])) (fun t_ k_ => XS.iload X60.here hx rfl (hb hby d5_158) rfl k_) ?_
                            refine Go.st (T' := T60) (g' := (mkF m 161 #[.val (.ref a), .val (.int ix), .val (.int jx), .val (.long q), .second, .val (.int i5), .val (.long r_46), .second, .val (.long r_47), .second, .val (.int i10), .val (.long r_57), .second] [(.int ((i5 * dm) + i10)), (.ref bs)])) (fun t_ k_ => XS.iadd X60.here hx rfl (hb hby d5_160) rfl k_) ?_
                            refine Go.st (T' := T60) (g' := (mkF m 163 #[.val (.ref a), .val (.int ix), .val (.int jx), .val (.long q), .second, .val (.int i5), .val (.long r_46), .second, .val (.long r_47), .second, .val (.int i10), .val (.long r_57), .second] [(.long r_57), (.int ((i5 * dm) + i10)), (.ref bs)])) (fun t_ k_ => XS.lload X60.here hx rfl (hb hby d5_161) rfl k_) ?_
                            refine goStJ X60 hx hZ (f := (fun i => (fb i))) g4_J110 (j := ((i5 * dm) + i10)) (own_ix hD ⟨hn5, hc75⟩ ⟨hn10, hc116⟩) g5_J110 (hb hby d5_163) fun T61 h61 X61 W61 A61 => ?_
                            have f61_1 : Exa Z h61 a "com/example/utu/utu/check/Zone" := g0_J110.wr W61
                            have f61_2 : Exa Z h61 bs "[J" := g1_J110.wr W61
                            have f61_3 : Fld Z h61 a "com/example/utu/utu/check/Zone" "dimension" "I" (.int dm) := g2_J110.other W61 (Or.inl (ne_exa g0_J110 g1_J110 (by decide)))
                            have f61_4 : Fld Z h61 a "com/example/utu/utu/check/Zone" "bounds" "[J" (.ref bs) := g3_J110.other W61 (Or.inl (ne_exa g0_J110 g1_J110 (by decide)))
                            have sz61 : n0 ≤ h61.size := Nat.le_trans sz_J110 (Keep.of_wr W61).1
                            have K61 : Keep h0 h61 [bs] := K_J110.wr W61 (Or.inl (List.mem_of_getElem? (i := 0) rfl))
                            show Go p e below _ T61 (mkF m 164 #[.val (.ref a), .val (.int ix), .val (.int jx), .val (.long q), .second, .val (.int i5), .val (.long r_46), .second, .val (.long r_47), .second, .val (.int i10), .val (.long r_57), .second] [])
                            refine Go.st (T' := T61) (g' := (mkF m 167 #[.val (.ref a), .val (.int ix), .val (.int jx), .val (.long q), .second, .val (.int i5), .val (.long r_46), .second, .val (.long r_47), .second, .val (.int (i10 + (1 : Int32))), .val (.long r_57), .second] [])) (fun t_ k_ => XS.iinc X61.here hx rfl (hb hby d5_164) rfl (l' := #[.val (.ref a), .val (.int ix), .val (.int jx), .val (.long q), .second, .val (.int i5), .val (.long r_46), .second, .val (.long r_47), .second, .val (.int (i10 + (1 : Int32))), .val (.long r_57), .second]) rfl k_) ?_
                            refine Go.st (T' := T61) (g' := (mkF m 110 #[.val (.ref a), .val (.int ix), .val (.int jx), .val (.long q), .second, .val (.int i5), .val (.long r_46), .second, .val (.long r_47), .second, .val (.int (i10 + (1 : Int32))), .val (.long r_57), .second] [])) (fun t_ k_ => XS.goto X61.here hx rfl (pc0 := 167) (pc' := 110) rfl (hb hby d5_167) (by decide) (by decide) k_) ?_
                            exact ih_J110 _ (by have z := own_nxt hD ⟨hn10, hc116⟩; omega) (i10 + (1 : Int32)) (fun i => (if i = (((i5 * dm) + i10)).toNatClampNeg then r_57 else (fun i => (fb i)) i)) (.val (.long r_57)) (.second) T61 h61 rfl (X61.mono (by decide) (by decide)) sz61 K61 f61_1 f61_2 f61_3 f61_4 A61 g5_J110 ((own_nxt hD ⟨hn10, hc116⟩).1) (by first | exact Or.inl ⟨rfl, rfl⟩ | exact Or.inr ⟨_, rfl, rfl⟩)
                          · skip
                            refine Go.st (T' := T58) (g' := (mkF m 164 #[.val (.ref a), .val (.int ix), .val (.int jx), .val (.long q), .second, .val (.int i5), .val (.long r_46), .second, .val (.long r_47), .second, .val (.int i10), .val (.long r_57), .second] [])) (fun t_ k_ => XS.ifYes X58.here hx rfl (pc0 := 144) (pc' := 164) rfl (hb hby d5_144) rfl (lcFlt hc144).2 (by decide) (by decide) k_) ?_
                            refine Go.st (T' := T58) (g' := (mkF m 167 #[.val (.ref a), .val (.int ix), .val (.int jx), .val (.long q), .second, .val (.int i5), .val (.long r_46), .second, .val (.long r_47), .second, .val (.int (i10 + (1 : Int32))), .val (.long r_57), .second] [])) (fun t_ k_ => XS.iinc X58.here hx rfl (hb hby d5_164) rfl (l' := #[.val (.ref a), .val (.int ix), .val (.int jx), .val (.long q), .second, .val (.int i5), .val (.long r_46), .second, .val (.long r_47), .second, .val (.int (i10 + (1 : Int32))), .val (.long r_57), .second]) rfl k_) ?_
                            refine Go.st (T' := T58) (g' := (mkF m 110 #[.val (.ref a), .val (.int ix), .val (.int jx), .val (.long q), .second, .val (.int i5), .val (.long r_46), .second, .val (.long r_47), .second, .val (.int (i10 + (1 : Int32))), .val (.long r_57), .second] [])) (fun t_ k_ => XS.goto X58.here hx rfl (pc0 := 167) (pc' := 110) rfl (hb hby d5_167) (by decide) (by decide) k_) ?_
                            exact ih_J110 _ (by have z := own_nxt hD ⟨hn10, hc116⟩; omega) (i10 + (1 : Int32)) fb (.val (.long r_57)) (.second) T58 h_J110 rfl (X58.mono (by decide) (by decide)) sz_J110 K_J110 g0_J110 g1_J110 g2_J110 g3_J110 g4_J110 g5_J110 ((own_nxt hD ⟨hn10, hc116⟩).1) (by first | exact Or.inl ⟨rfl, rfl⟩ | exact Or.inr ⟨_, rfl, rfl⟩)
                        · skip
                          refine Go.st (T' := T55) (g' := (mkF m 170 #[.val (.ref a), .val (.int ix), .val (.int jx), .val (.long q), .second, .val (.int i5), .val (.long r_46), .second, .val (.long r_47), .second, .val (.int i10), .val (.long y11), .second] [])) (fun t_ k_ => XS.icmpYes X55.here hx rfl (pc0 := 116) (pc' := 170) rfl (hb hby d5_116) rfl (flt hc116).2.1 (by decide) (by decide) k_) ?_
                          refine Go.st (T' := T55) (g' := (mkF m 173 #[.val (.ref a), .val (.int ix), .val (.int jx), .val (.long q), .second, .val (.int (i5 + (1 : Int32))), .val (.long r_46), .second, .val (.long r_47), .second, .val (.int i10), .val (.long y11), .second] [])) (fun t_ k_ => XS.iinc X55.here hx rfl (hb hby d5_170) rfl (l' := #[.val (.ref a), .val (.int ix), .val (.int jx), .val (.long q), .second, .val (.int (i5 + (1 : Int32))), .val (.long r_46), .second, .val (.long r_47), .second, .val (.int i10), .val (.long y11), .second]) rfl k_) ?_
                          refine Go.st (T' := T55) (g' := (mkF m 69 #[.val (.ref a), .val (.int ix), .val (.int jx), .val (.long q), .second, .val (.int (i5 + (1 : Int32))), .val (.long r_46), .second, .val (.long r_47), .second, .val (.int i10), .val (.long y11), .second] [])) (fun t_ k_ => XS.goto X55.here hx rfl (pc0 := 173) (pc' := 69) rfl (hb hby d5_173) (by decide) (by decide) k_) ?_
                          exact ih_J69 _ (by have z := own_nxt hD ⟨hn5, hc75⟩; omega) (i5 + (1 : Int32)) fb (.val (.long r_46)) (.second) (.val (.long r_47)) (.second) (.val (.int i10)) (.val (.long y11)) (.second) T55 h_J110 rfl (X55.mono (by decide) (by decide)) sz_J110 K_J110 g0_J110 g1_J110 g2_J110 g3_J110 g4_J110 g5_J110 ((own_nxt hD ⟨hn5, hc75⟩).1) (by first | exact Or.inl ⟨rfl, rfl, rfl, rfl, rfl, rfl, rfl⟩ | exact Or.inr (Or.inl ⟨_, rfl, rfl, rfl, rfl, rfl, rfl, rfl⟩) | exact Or.inr (Or.inr (Or.inl ⟨_, _, _, _, rfl, rfl, rfl, rfl, rfl, rfl, rfl⟩)) | exact Or.inr (Or.inr (Or.inr ⟨_, _, _, rfl, rfl, rfl, rfl, rfl, rfl, rfl⟩)))
                  exact J110 _ (0 : Int32) fa (.val (.long y11)) (.second) T47 h_J69 rfl (X47.mono (by decide) (by decide)) sz_J69 K_J69 g0_J69 g1_J69 g2_J69 g3_J69 g4_J69 g5_J69 (by decide) (by first | exact Or.inl ⟨rfl, rfl⟩ | exact Or.inr ⟨_, rfl, rfl⟩)
              · skip
                refine Go.st (T' := T45) (g' := (mkF m 176 #[.val (.ref a), .val (.int ix), .val (.int jx), .val (.long q), .second, .val (.int i5), .val (.long y6), .second, .val (.long y8), .second, .val (.int y10), .val (.long y11), .second] [])) (fun t_ k_ => XS.icmpYes X45.here hx rfl (pc0 := 75) (pc' := 176) rfl (hb hby d5_75) rfl (flt hc75).2.1 (by decide) (by decide) k_) ?_
                refine Go.st (T' := T45) (g' := (mkF m 177 #[.val (.ref a), .val (.int ix), .val (.int jx), .val (.long q), .second, .val (.int i5), .val (.long y6), .second, .val (.long y8), .second, .val (.int y10), .val (.long y11), .second] [(.int (1 : Int32))])) (fun t_ k_ => XS.iconst X45.here hx rfl (hb hby d5_176) k_) ?_
                refine goRetZ X45 hx hlk hret (hb hby d5_177) (by decide) (by decide) (Or.inr rfl) ?_
                refine ⟨(1 : Int32), fa, rfl, K_J69, g4_J69⟩
            · skip
              refine Go.st (T' := T_J69) (g' := (mkF m 71 #[.val (.ref a), .val (.int ix), .val (.int jx), .val (.long q), .second, .val (.int i5), .val (.long y6), .second, .val (.long y8), .second, .val (.int y10), .unset, .unset] [(.int i5)])) (fun t_ k_ => XS.iload X_J69.here hx rfl (hb hby d5_69) rfl k_) ?_
              refine Go.st (T' := T_J69) (g' := (mkF m 72 #[.val (.ref a), .val (.int ix), .val (.int jx), .val (.long q), .second, .val (.int i5), .val (.long y6), .second, .val (.long y8), .second, .val (.int y10), .unset, .unset] [(.ref a), (.int i5)])) (fun t_ k_ => XS.aloadN X_J69.here hx rfl (hb hby d5_71) rfl rfl k_) ?_
              refine goGet X_J69 hx hZ hown (host := "") (Or.inl (hw _ (List.mem_of_getElem? (i := 9) rfl))) Via.refl g2_J69 (hb hby d5_72) fun T62 X62 => ?_
              show Go p e below _ T62 (mkF m 75 #[.val (.ref a), .val (.int ix), .val (.int jx), .val (.long q), .second, .val (.int i5), .val (.long y6), .second, .val (.long y8), .second, .val (.int y10), .unset, .unset] [(.int dm), (.int i5)])
              by_cases hc75 : i5 < dm
              · skip
                refine Go.st (T' := T62) (g' := (mkF m 78 #[.val (.ref a), .val (.int ix), .val (.int jx), .val (.long q), .second, .val (.int i5), .val (.long y6), .second, .val (.long y8), .second, .val (.int y10), .unset, .unset] [])) (fun t_ k_ => XS.icmpNo X62.here hx rfl (hb hby d5_75) rfl (tlt hc75).2.1 k_) ?_
                refine Go.st (T' := T62) (g' := (mkF m 79 #[.val (.ref a), .val (.int ix), .val (.int jx), .val (.long q), .second, .val (.int i5), .val (.long y6), .second, .val (.long y8), .second, .val (.int y10), .unset, .unset] [(.ref a)])) (fun t_ k_ => XS.aloadN X62.here hx rfl (hb hby d5_78) rfl rfl k_) ?_
                refine Go.st (T' := T62) (g' := (mkF m 81 #[.val (.ref a), .val (.int ix), .val (.int jx), .val (.long q), .second, .val (.int i5), .val (.long y6), .second, .val (.long y8), .second, .val (.int y10), .unset, .unset] [(.int i5), (.ref a)])) (fun t_ k_ => XS.iload X62.here hx rfl (hb hby d5_79) rfl k_) ?_
                refine Go.st (T' := T62) (g' := (mkF m 82 #[.val (.ref a), .val (.int ix), .val (.int jx), .val (.long q), .second, .val (.int i5), .val (.long y6), .second, .val (.long y8), .second, .val (.int y10), .unset, .unset] [(.int ix), (.int i5), (.ref a)])) (fun t_ k_ => XS.iloadN X62.here hx rfl (hb hby d5_81) rfl k_) ?_
                refine goVirtS X62 hx hZ (y := (⟨"com/example/utu/utu/check/Zone", "get", "(II)J"⟩ : MethodName)) hown (hw _ (List.mem_of_getElem? (i := 31) rfl)) (hw _ (List.mem_of_getElem? (i := 32) rfl)) (hw _ (List.mem_of_getElem? (i := 34) rfl)) (hw _ (List.mem_of_getElem? (i := 33) rfl)) (hw _ (List.mem_of_getElem? (i := 2) rfl)) (hw _ (List.mem_of_getElem? (i := 35) rfl)) (by decide) g0_J69 (rm7 l Z a0 hw [] n0 h_J69 a i5 ix dm bs n fa sz_J69 g2_J69 g3_J69 g4_J69 (hD) (⟨hn5, hc75⟩) (hi)) 0 (by decide) (by decide) (by rw [hml]; rfl) [(.int i5), (.int ix)] [] (lenOf pd_7c8b0545 rfl) rfl rfl rfl (hb hby d5_82) (by decide) (by decide) fun v63 T63 h63 X63 hq63 => ?_
                obtain ⟨r_63, rfl, eh63⟩ := hq63
                rw [eh63] at X63
                show Go p e below _ T63 (mkF m 85 #[.val (.ref a), .val (.int ix), .val (.int jx), .val (.long q), .second, .val (.int i5), .val (.long y6), .second, .val (.long y8), .second, .val (.int y10), .unset, .unset] [(.long r_63)])
                refine Go.st (T' := T63) (g' := (mkF m 87 #[.val (.ref a), .val (.int ix), .val (.int jx), .val (.long q), .second, .val (.int i5), .val (.long r_63), .second, .val (.long y8), .second, .val (.int y10), .unset, .unset] [])) (fun t_ k_ => XS.lstore X63.here hx rfl (hb hby d5_85) rfl (l' := #[.val (.ref a), .val (.int ix), .val (.int jx), .val (.long q), .second, .val (.int i5), .val (.long r_63), .second, .val (.long y8), .second, .val (.int y10), .unset, .unset]) rfl k_) ?_
                refine Go.st (T' := T63) (g' := (mkF m 89 #[.val (.ref a), .val (.int ix), .val (.int jx), .val (.long q), .second, .val (.int i5), .val (.long r_63), .second, .val (.long y8), .second, .val (.int y10), .unset, .unset] [(.long r_63)])) (fun t_ k_ => XS.lload X63.here hx rfl (hb hby d5_87) rfl k_) ?_
                refine Go.st (T' := T63) (g' := (mkF m 92 #[.val (.ref a), .val (.int ix), .val (.int jx), .val (.long q), .second, .val (.int i5), .val (.long r_63), .second, .val (.long y8), .second, .val (.int y10), .unset, .unset] [(.long (9223372036854775807 : Int64)), (.long r_63)])) (fun t_ k_ => Stn.ldcJ X63 hx hZ hown (hw _ (List.mem_of_getElem? (i := 63) rfl)) (hb hby d5_89) k_) ?_
                refine Go.st (T' := T63) (g' := (mkF m 93 #[.val (.ref a), .val (.int ix), .val (.int jx), .val (.long q), .second, .val (.int i5), .val (.long r_63), .second, .val (.long y8), .second, .val (.int y10), .unset, .unset] [(.int (lcmpW r_63 (9223372036854775807 : Int64)))])) (fun t_ k_ => XS.lcmp X63.here hx rfl (hb hby d5_92) rfl k_) ?_
                by_cases hc93 : r_63 = (9223372036854775807 : Int64)
                · skip
                  refine Go.st (T' := T63) (g' := (mkF m 96 #[.val (.ref a), .val (.int ix), .val (.int jx), .val (.long q), .second, .val (.int i5), .val (.long r_63), .second, .val (.long y8), .second, .val (.int y10), .unset, .unset] [])) (fun t_ k_ => XS.ifNo X63.here hx rfl (hb hby d5_93) rfl (lcTeq hc93).2 k_) ?_
                  refine Go.st (T' := T63) (g' := (mkF m 170 #[.val (.ref a), .val (.int ix), .val (.int jx), .val (.long q), .second, .val (.int i5), .val (.long r_63), .second, .val (.long y8), .second, .val (.int y10), .unset, .unset] [])) (fun t_ k_ => XS.goto X63.here hx rfl (pc0 := 96) (pc' := 170) rfl (hb hby d5_96) (by decide) (by decide) k_) ?_
                  refine Go.st (T' := T63) (g' := (mkF m 173 #[.val (.ref a), .val (.int ix), .val (.int jx), .val (.long q), .second, .val (.int (i5 + (1 : Int32))), .val (.long r_63), .second, .val (.long y8), .second, .val (.int y10), .unset, .unset] [])) (fun t_ k_ => XS.iinc X63.here hx rfl (hb hby d5_170) rfl (l' := #[.val (.ref a), .val (.int ix), .val (.int jx), .val (.long q), .second, .val (.int (i5 + (1 : Int32))), .val (.long r_63), .second, .val (.long y8), .second, .val (.int y10), .unset, .unset]) rfl k_) ?_
                  refine Go.st (T' := T63) (g' := (mkF m 69 #[.val (.ref a), .val (.int ix), .val (.int jx), .val (.long q), .second, .val (.int (i5 + (1 : Int32))), .val (.long r_63), .second, .val (.long y8), .second, .val (.int y10), .unset, .unset] [])) (fun t_ k_ => XS.goto X63.here hx rfl (pc0 := 173) (pc' := 69) rfl (hb hby d5_173) (by decide) (by decide) k_) ?_
                  exact ih_J69 _ (by have z := own_nxt hD ⟨hn5, hc75⟩; omega) (i5 + (1 : Int32)) fa (.val (.long r_63)) (.second) (.val (.long y8)) (.second) (.val (.int y10)) (.unset) (.unset) T63 h_J69 rfl (X63.mono (by decide) (by decide)) sz_J69 K_J69 g0_J69 g1_J69 g2_J69 g3_J69 g4_J69 g5_J69 ((own_nxt hD ⟨hn5, hc75⟩).1) (by first | exact Or.inl ⟨rfl, rfl, rfl, rfl, rfl, rfl, rfl⟩ | exact Or.inr (Or.inl ⟨_, rfl, rfl, rfl, rfl, rfl, rfl, rfl⟩) | exact Or.inr (Or.inr (Or.inl ⟨_, _, _, _, rfl, rfl, rfl, rfl, rfl, rfl, rfl⟩)) | exact Or.inr (Or.inr (Or.inr ⟨_, _, _, rfl, rfl, rfl, rfl, rfl, rfl, rfl⟩)))
                · skip
                  refine Go.st (T' := T63) (g' := (mkF m 99 #[.val (.ref a), .val (.int ix), .val (.int jx), .val (.long q), .second, .val (.int i5), .val (.long r_63), .second, .val (.long y8), .second, .val (.int y10), .unset, .unset] [])) (fun t_ k_ => XS.ifYes X63.here hx rfl (pc0 := 93) (pc' := 99) rfl (hb hby d5_93) rfl (lcFeq hc93).2 (by decide) (by decide) k_) ?_
                  refine Go.st (T' := T63) (g' := (mkF m 101 #[.val (.ref a), .val (.int ix), .val (.int jx), .val (.long q), .second, .val (.int i5), .val (.long r_63), .second, .val (.long y8), .second, .val (.int y10), .unset, .unset] [(.long r_63)])) (fun t_ k_ => XS.lload X63.here hx rfl (hb hby d5_99) rfl k_) ?_
                  refine Go.st (T' := T63) (g' := (mkF m 102 #[.val (.ref a), .val (.int ix), .val (.int jx), .val (.long q), .second, .val (.int i5), .val (.long r_63), .second, .val (.long y8), .second, .val (.int y10), .unset, .unset] [(.long q), (.long r_63)])) (fun t_ k_ => XS.lloadN X63.here hx rfl (hb hby d5_101) rfl k_) ?_
                  refine goStatic X63 hx hZ (y := (⟨"com/example/utu/utu/check/Zone", "add", "(JJ)J"⟩ : MethodName)) hown (hw _ (List.mem_of_getElem? (i := 60) rfl)) (hw _ (List.mem_of_getElem? (i := 61) rfl)) (hw _ (List.mem_of_getElem? (i := 2) rfl)) (hw _ (List.mem_of_getElem? (i := 62) rfl)) (by decide) (rm12 l Z a0 hw [] n0 h_J69 r_63 q sz_J69) 0 (by decide) (by decide) (by rw [hml]; rfl) [(.long r_63), (.long q)] [] (lenOf pd_6c7814f2 rfl) rfl rfl rfl (hb hby d5_102) (by decide) (by decide) fun v64 T64 h64 X64 hq64 => ?_
                  obtain ⟨r_64, rfl, eh64⟩ := hq64
                  rw [eh64] at X64
                  show Go p e below _ T64 (mkF m 105 #[.val (.ref a), .val (.int ix), .val (.int jx), .val (.long q), .second, .val (.int i5), .val (.long r_63), .second, .val (.long y8), .second, .val (.int y10), .unset, .unset] [(.long r_64)])
                  refine Go.st (T' := T64) (g' := (mkF m 107 #[.val (.ref a), .val (.int ix), .val (.int jx), .val (.long q), .second, .val (.int i5), .val (.long r_63), .second, .val (.long r_64), .second, .val (.int y10), .unset, .unset] [])) (fun t_ k_ => XS.lstore X64.here hx rfl (hb hby d5_105) rfl (l' := #[.val (.ref a), .val (.int ix), .val (.int jx), .val (.long q), .second, .val (.int i5), .val (.long r_63), .second, .val (.long r_64), .second, .val (.int y10), .unset, .unset]) rfl k_) ?_
                  refine Go.st (T' := T64) (g' := (mkF m 108 #[.val (.ref a), .val (.int ix), .val (.int jx), .val (.long q), .second, .val (.int i5), .val (.long r_63), .second, .val (.long r_64), .second, .val (.int y10), .unset, .unset] [(.int (0 : Int32))])) (fun t_ k_ => XS.iconst X64.here hx rfl (hb hby d5_107) k_) ?_
                  refine Go.st (T' := T64) (g' := (mkF m 110 #[.val (.ref a), .val (.int ix), .val (.int jx), .val (.long q), .second, .val (.int i5), .val (.long r_63), .second, .val (.long r_64), .second, .val (.int (0 : Int32)), .unset, .unset] [])) (fun t_ k_ => XS.istore X64.here hx rfl (hb hby d5_108) rfl (l' := #[.val (.ref a), .val (.int ix), .val (.int jx), .val (.long q), .second, .val (.int i5), .val (.long r_63), .second, .val (.long r_64), .second, .val (.int (0 : Int32)), .unset, .unset]) rfl k_) ?_
                  have J110 : ∀ (k_J110 : Nat) (i10 : Int32) (fb : Nat → Int64) (s11 : Slot) (s12 : Slot) (T_J110 : State) (h_J110 : Heap), (dm.toNatClampNeg - i10.toNatClampNeg) = k_J110 → Stn p l e ({ frames := 2, cells := 0, slots := 0, locals := 60 } : Room) s m #[(.ref a), (.int ix), (.int jx), (.long q)] below meth c n0 T_J110 h_J110 0 0 → n0 ≤ h_J110.size → Keep h0 h_J110 [bs] → Exa Z h_J110 a "com/example/utu/utu/check/Zone" → Exa Z h_J110 bs "[J" → Fld Z h_J110 a "com/example/utu/utu/check/Zone" "dimension" "I" (.int dm) → Fld Z h_J110 a "com/example/utu/utu/check/Zone" "bounds" "[J" (.ref bs) → Ary Z h_J110 bs .long n (fun i => .long (fb i)) → n0 ≤ bs → (¬ i10 < 0) → (own_t2 s11 s12) → Go p e below (PostW s n0 (0 : Nat) (0 : Nat) (Q5 Z n0 h0 a ix jx q dm bs n f)) T_J110 (mkF m 110 #[.val (.ref a), .val (.int ix), .val (.int jx), .val (.long q), .second, .val (.int i5), .val (.long r_63), .second, .val (.long r_64), .second, .val (.int i10), s11, s12] []) := by
                    intro k_J110
                    induction k_J110 using Nat.strongRecOn with
                    | _ k_J110 ih_J110 =>
                      intro i10 fb s11 s12 T_J110 h_J110 hk_J110 X_J110 sz_J110 K_J110 g0_J110 g1_J110 g2_J110 g3_J110 g4_J110 g5_J110 hn10 ht2
                      rcases ht2 with ⟨rfl, rfl⟩ | ⟨y11, rfl, rfl⟩
                      · skip
                        refine Go.st (T' := T_J110) (g' := (mkF m 112 #[.val (.ref a), .val (.int ix), .val (.int jx), .val (.long q), .second, .val (.int i5), .val (.long r_63), .second, .val (.long r_64), .second, .val (.int i10), .unset, .unset] [(.int i10)])) (fun t_ k_ => XS.iload X_J110.here hx rfl (hb hby d5_110) rfl k_) ?_
                        refine Go.st (T' := T_J110) (g' := (mkF m 113 #[.val (.ref a), .val (.int ix), .val (.int jx), .val (.long q), .second, .val (.int i5), .val (.long r_63), .second, .val (.long r_64), .second, .val (.int i10), .unset, .unset] [(.ref a), (.int i10)])) (fun t_ k_ => XS.aloadN X_J110.here hx rfl (hb hby d5_112) rfl rfl k_) ?_
                        refine goGet X_J110 hx hZ hown (host := "") (Or.inl (hw _ (List.mem_of_getElem? (i := 9) rfl))) Via.refl g2_J110 (hb hby d5_113) fun T65 X65 => ?_
                        show Go p e below _ T65 (mkF m 116 #[.val (.ref a), .val (.int ix), .val (.int jx), .val (.long q), .second, .val (.int i5), .val (.long r_63), .second, .val (.long r_64), .second, .val (.int i10), .unset, .unset] [(.int dm), (.int i10)])
                        by_cases hc116 : i10 < dm
                        · skip
                          refine Go.st (T' := T65) (g' := (mkF m 119 #[.val (.ref a), .val (.int ix), .val (.int jx), .val (.long q), .second, .val (.int i5), .val (.long r_63), .second, .val (.long r_64), .second, .val (.int i10), .unset, .unset] [])) (fun t_ k_ => XS.icmpNo X65.here hx rfl (hb hby d5_116) rfl (tlt hc116).2.1 k_) ?_
                          refine Go.st (T' := T65) (g' := (mkF m 121 #[.val (.ref a), .val (.int ix), .val (.int jx), .val (.long q), .second, .val (.int i5), .val (.long r_63), .second, .val (.long r_64), .second, .val (.int i10), .unset, .unset] [(.long r_64)])) (fun t_ k_ => XS.lload X65.here hx rfl (hb hby d5_119) rfl k_) ?_
                          refine Go.st (T' := T65) (g' := (mkF m 122 #[.val (.ref a), .val (.int ix), .val (.int jx), .val (.long q), .second, .val (.int i5), .val (.long r_63), .second, .val (.long r_64), .second, .val (.int i10), .unset, .unset] [(.ref a), (.long r_64)])) (fun t_ k_ => XS.aloadN X65.here hx rfl (hb hby d5_121) rfl rfl k_) ?_
                          refine Go.st (T' := T65) (g' := (mkF m 123 #[.val (.ref a), .val (.int ix), .val (.int jx), .val (.long q), .second, .val (.int i5), .val (.long r_63), .second, .val (.long r_64), .second, .val (.int i10), .unset, .unset] [(.int jx), (.ref a), (.long r_64)])) (fun t_ k_ => XS.iloadN X65.here hx rfl (hb hby d5_122) rfl k_) ?_
                          refine Go.st (T' := T65) (g' := (mkF m 125 #[.val (.ref a), .val (.int ix), .val (.int jx), .val (.long q), .second, .val (.int i5), .val (.long r_63), .second, .val (.long r_64), .second, .val (.int i10), .unset, .unset] [(.int i10), (.int jx), (.ref a), (.long r_64)])) (fun t_ k_ => XS.iload X65.here hx rfl (hb hby d5_123) rfl k_) ?_
                          refine goVirtS X65 hx hZ (y := (⟨"com/example/utu/utu/check/Zone", "get", "(II)J"⟩ : MethodName)) hown (hw _ (List.mem_of_getElem? (i := 31) rfl)) (hw _ (List.mem_of_getElem? (i := 32) rfl)) (hw _ (List.mem_of_getElem? (i := 34) rfl)) (hw _ (List.mem_of_getElem? (i := 33) rfl)) (hw _ (List.mem_of_getElem? (i := 2) rfl)) (hw _ (List.mem_of_getElem? (i := 35) rfl)) (by decide) g0_J110 (rm7 l Z a0 hw [] n0 h_J110 a jx i10 dm bs n fb sz_J110 g2_J110 g3_J110 g4_J110 (hD) (hj) (⟨hn10, hc116⟩)) 2 (by decide) (by decide) (by rw [hml]; rfl) [(.int jx), (.int i10)] [(.long r_64)] (lenOf pd_7c8b0545 rfl) rfl rfl rfl (hb hby d5_125) (by decide) (by decide) fun v66 T66 h66 X66 hq66 => ?_
                          obtain ⟨r_66, rfl, eh66⟩ := hq66
                          rw [eh66] at X66
                          show Go p e below _ T66 (mkF m 128 #[.val (.ref a), .val (.int ix), .val (.int jx), .val (.long q), .second, .val (.int i5), .val (.long r_63), .second, .val (.long r_64), .second, .val (.int i10), .unset, .unset] [(.long r_66), (.long r_64)])
                          refine goStatic X66 hx hZ (y := (⟨"com/example/utu/utu/check/Zone", "add", "(JJ)J"⟩ : MethodName)) hown (hw _ (List.mem_of_getElem? (i := 60) rfl)) (hw _ (List.mem_of_getElem? (i := 61) rfl)) (hw _ (List.mem_of_getElem? (i := 2) rfl)) (hw _ (List.mem_of_getElem? (i := 62) rfl)) (by decide) (rm12 l Z a0 hw [] n0 h_J110 r_64 r_66 sz_J110) 0 (by decide) (by decide) (by rw [hml]; rfl) [(.long r_64), (.long r_66)] [] (lenOf pd_6c7814f2 rfl) rfl rfl rfl (hb hby d5_128) (by decide) (by decide) fun v67 T67 h67 X67 hq67 => ?_
                          obtain ⟨r_67, rfl, eh67⟩ := hq67
                          rw [eh67] at X67
                          show Go p e below _ T67 (mkF m 131 #[.val (.ref a), .val (.int ix), .val (.int jx), .val (.long q), .second, .val (.int i5), .val (.long r_63), .second, .val (.long r_64), .second, .val (.int i10), .unset, .unset] [(.long r_67)])
                          refine Go.st (T' := T67) (g' := (mkF m 133 #[.val (.ref a), .val (.int ix), .val (.int jx), .val (.long q), .second, .val (.int i5), .val (.long r_63), .second, .val (.long r_64), .second, .val (.int i10), .val (.long r_67), .second] [])) (fun t_ k_ => XS.lstore X67.here hx rfl (hb hby d5_131) rfl (l' := #[.val (.ref a), .val (.int ix), .val (.int jx), .val (.long q), .second, .val (.int i5), .val (.long r_63), .second, .val (.long r_64), .second, .val (.int i10), .val (.long r_67), .second]) rfl k_) ?_
                          refine Go.st (T' := T67) (g' := (mkF m 135 #[.val (.ref a), .val (.int ix), .val (.int jx), .val (.long q), .second, .val (.int i5), .val (.long r_63), .second, .val (.long r_64), .second, .val (.int i10), .val (.long r_67), .second] [(.long r_67)])) (fun t_ k_ => XS.lload X67.here hx rfl (hb hby d5_133) rfl k_) ?_
                          refine Go.st (T' := T67) (g' := (mkF m 136 #[.val (.ref a), .val (.int ix), .val (.int jx), .val (.long q), .second, .val (.int i5), .val (.long r_63), .second, .val (.long r_64), .second, .val (.int i10), .val (.long r_67), .second] [(.ref a), (.long r_67)])) (fun t_ k_ => XS.aloadN X67.here hx rfl (hb hby d5_135) rfl rfl k_) ?_
                          refine Go.st (T' := T67) (g' := (mkF m 138 #[.val (.ref a), .val (.int ix), .val (.int jx), .val (.long q), .second, .val (.int i5), .val (.long r_63), .second, .val (.long r_64), .second, .val (.int i10), .val (.long r_67), .second] [(.int i5), (.ref a), (.long r_67)])) (fun t_ k_ => XS.iload X67.here hx rfl (hb hby d5_136) rfl k_) ?_
                          refine Go.st (T' := T67) (g' := (mkF m 140 #[.val (.ref a), .val (.int ix), .val (.int jx), .val (.long q), .second, .val (.int i5), .val (.long r_63), .second, .val (.long r_64), .second, .val (.int i10), .val (.long r_67), .second] [(.int i10), (.int i5), (.ref a), (.long r_67)])) (fun t_ k_ => XS.iload X67.here hx rfl (hb hby d5_138) rfl k_) ?_
                          refine goVirtS X67 hx hZ (y := (⟨"com/example/utu/utu/check/Zone", "get", "(II)J"⟩ : MethodName)) hown (hw _ (List.mem_of_getElem? (i := 31) rfl)) (hw _ (List.mem_of_getElem? (i := 32) rfl)) (hw _ (List.mem_of_getElem? (i := 34) rfl)) (hw _ (List.mem_of_getElem? (i := 33) rfl)) (hw _ (List.mem_of_getElem? (i := 2) rfl)) (hw _ (List.mem_of_getElem? (i := 35) rfl)) (by decide) g0_J110 (rm7 l Z a0 hw [] n0 h_J110 a i5 i10 dm bs n fb sz_J110 g2_J110 g3_J110 g4_J110 (hD) (⟨hn5, hc75⟩) (⟨hn10, hc116⟩)) 2 (by decide) (by decide) (by rw [hml]; rfl) [(.int i5), (.int i10)] [(.long r_67)] (lenOf pd_7c8b0545 rfl) rfl rfl rfl (hb hby d5_140) (by decide) (by decide) fun v68 T68 h68 X68 hq68 => ?_
                          obtain ⟨r_68, rfl, eh68⟩ := hq68
                          rw [eh68] at X68
                          show Go p e below _ T68 (mkF m 143 #[.val (.ref a), .val (.int ix), .val (.int jx), .val (.long q), .second, .val (.int i5), .val (.long r_63), .second, .val (.long r_64), .second, .val (.int i10), .val (.long r_67), .second] [(.long r_68), (.long r_67)])
                          refine Go.st (T' := T68) (g' := (mkF m 144 #[.val (.ref a), .val (.int ix), .val (.int jx), .val (.long q), .second, .val (.int i5), .val (.long r_63), .second, .val (.long r_64), .second, .val (.int i10), .val (.long r_67), .second] [(.int (lcmpW r_67 r_68))])) (fun t_ k_ => XS.lcmp X68.here hx rfl (hb hby d5_143) rfl k_) ?_
                          by_cases hc144 : r_67 < r_68
                          · skip
                            refine Go.st (T' := T68) (g' := (mkF m 147 #[.val (.ref a), .val (.int ix), .val (.int jx), .val (.long q), .second, .val (.int i5), .val (.long r_63), .second, .val (.long r_64), .second, .val (.int i10), .val (.long r_67), .second] [])) (fun t_ k_ => XS.ifNo X68.here hx rfl (hb hby d5_144) rfl (lcTlt hc144).2 k_) ?_
                            refine Go.st (T' := T68) (g' := (mkF m 148 #[.val (.ref a), .val (.int ix), .val (.int jx), .val (.long q), .second, .val (.int i5), .val (.long r_63), .second, .val (.long r_64), .second, .val (.int i10), .val (.long r_67), .second] [(.ref a)])) (fun t_ k_ => XS.aloadN X68.here hx rfl (hb hby d5_147) rfl rfl k_) ?_
                            refine goGet X68 hx hZ hown (host := "") (Or.inl (hw _ (List.mem_of_getElem? (i := 12) rfl))) Via.refl g3_J110 (hb hby d5_148) fun T69 X69 => ?_
                            show Go p e below _ T69 (mkF m 151 #[.val (.ref a), .val (.int ix), .val (.int jx), .val (.long q), .second, .val (.int i5), .val (.long r_63), .second, .val (.long r_64), .second, .val (.int i10), .val (.long r_67), .second] [(.ref bs)])
                            refine Go.st (T' := T69) (g' := (mkF m 153 #[.val (.ref a), .val (.int ix), .val (.int jx), .val (.long q), .second, .val (.int i5), .val (.long r_63), .second, .val (.long r_64), .second, .val (.int i10), .val (.long r_67), .second] [(.int i5), (.ref bs)])) (fun t_ k_ => XS.iload X69.here hx rfl (hb hby d5_151) rfl k_) ?_
                            refine Go.st (T' := T69) (g' := (mkF m 154 #[.val (.ref a), .val (.int ix), .val (.int jx), .val (.long q), .second, .val (.int i5), .val (.long r_63), .second, .val (.long r_64), .second, .val (.int i10), .val (.long r_67), .second] [(.ref a), (.int i5), (.ref bs)])) (fun t_ k_ => XS.aloadN X69.here hx rfl (hb hby d5_153) rfl rfl k_) ?_
                            refine goGet X69 hx hZ hown (host := "") (Or.inl (hw _ (List.mem_of_getElem? (i := 9) rfl))) Via.refl g2_J110 (hb hby d5_154) fun T70 X70 => ?_
                            show Go p e below _ T70 (mkF m 157 #[.val (.ref a), .val (.int ix), .val (.int jx), .val (.long q), .second, .val (.int i5), .val (.long r_63), .second, .val (.long r_64), .second, .val (.int i10), .val (.long r_67), .second] [(.int dm), (.int i5), (.ref bs)])
                            refine Go.st (T' := T70) (g' := (mkF m 158 #[.val (.ref a), .val (.int ix), .val (.int jx), .val (.long q), .second, .val (.int i5), .val (.long r_63), .second, .val (.long r_64), .second, .val (.int i10), .val (.long r_67), .second] [(.int (i5 * dm)), (.ref bs)])) (fun t_ k_ => XS.imul X70.here hx rfl (hb hby d5_157) rfl k_) ?_
                            refine Go.st (T' := T70) (g' := (mkF m 160 #[.val (.ref a), .val (.int ix), .val (.int jx), .val (.long q), .second, .val (.int i5), .val (.long r_63), .second, .val (.long r_64), .second, .val (.int i10), .val (.long r_67), .second] [(.int i10), (.int (i5 * dm)), (.ref bs)])) (fun t_ k_ => XS.iload X70.here hx rfl (hb hby d5_158) rfl k_) ?_
                            refine Go.st (T' := T70) (g' := (mkF m 161 #[.val (.ref a), .val (.int ix), .val (.int jx), .val (.long q), .second, .val (.int i5), .val (.long r_63), .second, .val (.long r_64), .second, .val (.int i10), .val (.long r_67), .second] [(.int ((i5 * dm) + i10)), (.ref bs)])) (fun t_ k_ => XS.iadd X70.here hx rfl (hb hby d5_160) rfl k_) ?_
                            refine Go.st (T' := T70) (g' := (mkF m 163 #[.val (.ref a), .val (.int ix), .val (.int jx), .val (.long q), .second, .val (.int i5), .val (.long r_63), .second, .val (.long r_64), .second, .val (.int i10), .val (.long r_67), .second] [(.long r_67), (.int ((i5 * dm) + i10)), (.ref bs)])) (fun t_ k_ => XS.lload X70.here hx rfl (hb hby d5_161) rfl k_) ?_
                            refine goStJ X70 hx hZ (f := (fun i => (fb i))) g4_J110 (j := ((i5 * dm) + i10)) (own_ix hD ⟨hn5, hc75⟩ ⟨hn10, hc116⟩) g5_J110 (hb hby d5_163) fun T71 h71 X71 W71 A71 => ?_
                            have f71_1 : Exa Z h71 a "com/example/utu/utu/check/Zone" := g0_J110.wr W71
                            have f71_2 : Exa Z h71 bs "[J" := g1_J110.wr W71
                            have f71_3 : Fld Z h71 a "com/example/utu/utu/check/Zone" "dimension" "I" (.int dm) := g2_J110.other W71 (Or.inl (ne_exa g0_J110 g1_J110 (by decide)))
                            have f71_4 : Fld Z h71 a "com/example/utu/utu/check/Zone" "bounds" "[J" (.ref bs) := g3_J110.other W71 (Or.inl (ne_exa g0_J110 g1_J110 (by decide)))
                            have sz71 : n0 ≤ h71.size := Nat.le_trans sz_J110 (Keep.of_wr W71).1
                            have K71 : Keep h0 h71 [bs] := K_J110.wr W71 (Or.inl (List.mem_of_getElem? (i := 0) rfl))
                            show Go p e below _ T71 (mkF m 164 #[.val (.ref a), .val (.int ix), .val (.int jx), .val (.long q), .second, .val (.int i5), .val (.long r_63), .second, .val (.long r_64), .second, .val (.int i10), .val (.long r_67), .second] [])
                            refine Go.st (T' := T71) (g' := (mkF m 167 #[.val (.ref a), .val (.int ix), .val (.int jx), .val (.long q), .second, .val (.int i5), .val (.long r_63), .second, .val (.long r_64), .second, .val (.int (i10 + (1 : Int32))), .val (.long r_67), .second] [])) (fun t_ k_ => XS.iinc X71.here hx rfl (hb hby d5_164) rfl (l' := #[.val (.ref a), .val (.int ix), .val (.int jx), .val (.long q), .second, .val (.int i5), .val (.long r_63), .second, .val (.long r_64), .second, .val (.int (i10 + (1 : Int32))), .val (.long r_67), .second]) rfl k_) ?_
                            refine Go.st (T' := T71) (g' := (mkF m 110 #[.val (.ref a), .val (.int ix), .val (.int jx), .val (.long q), .second, .val (.int i5), .val (.long r_63), .second, .val (.long r_64), .second, .val (.int (i10 + (1 : Int32))), .val (.long r_67), .second] [])) (fun t_ k_ => XS.goto X71.here hx rfl (pc0 := 167) (pc' := 110) rfl (hb hby d5_167) (by decide) (by decide) k_) ?_
                            exact ih_J110 _ (by have z := own_nxt hD ⟨hn10, hc116⟩; omega) (i10 + (1 : Int32)) (fun i => (if i = (((i5 * dm) + i10)).toNatClampNeg then r_67 else (fun i => (fb i)) i)) (.val (.long r_67)) (.second) T71 h71 rfl (X71.mono (by decide) (by decide)) sz71 K71 f71_1 f71_2 f71_3 f71_4 A71 g5_J110 ((own_nxt hD ⟨hn10, hc116⟩).1) (by first | exact Or.inl ⟨rfl, rfl⟩ | exact Or.inr ⟨_, rfl, rfl⟩)
                          · skip
                            refine Go.st (T' := T68) (g' := (mkF m 164 #[.val (.ref a), .val (.int ix), .val (.int jx), .val (.long q), .second, .val (.int i5), .val (.long r_63), .second, .val (.long r_64), .second, .val (.int i10), .val (.long r_67), .second] [])) (fun t_ k_ => XS.ifYes X68.here hx rfl (pc0 := 144) (pc' := 164) rfl (hb hby d5_144) rfl (lcFlt hc144).2 (by decide) (by decide) k_) ?_
                            refine Go.st (T' := T68) (g' := (mkF m 167 #[.val (.ref a), .val (.int ix), .val (.int jx), .val (.long q), .second, .val (.int i5), .val (.long r_63), .second, .val (.long r_64), .second, .val (.int (i10 + (1 : Int32))), .val (.long r_67), .second] [])) (fun t_ k_ => XS.iinc X68.here hx rfl (hb hby d5_164) rfl (l' := #[.val (.ref a), .val (.int ix), .val (.int jx), .val (.long q), .second, .val (.int i5), .val (.long r_63), .second, .val (.long r_64), .second, .val (.int (i10 + (1 : Int32))), .val (.long r_67), .second]) rfl k_) ?_
                            refine Go.st (T' := T68) (g' := (mkF m 110 #[.val (.ref a), .val (.int ix), .val (.int jx), .val (.long q), .second, .val (.int i5), .val (.long r_63), .second, .val (.long r_64), .second, .val (.int (i10 + (1 : Int32))), .val (.long r_67), .second] [])) (fun t_ k_ => XS.goto X68.here hx rfl (pc0 := 167) (pc' := 110) rfl (hb hby d5_167) (by decide) (by decide) k_) ?_
                            exact ih_J110 _ (by have z := own_nxt hD ⟨hn10, hc116⟩; omega) (i10 + (1 : Int32)) fb (.val (.long r_67)) (.second) T68 h_J110 rfl (X68.mono (by decide) (by decide)) sz_J110 K_J110 g0_J110 g1_J110 g2_J110 g3_J110 g4_J110 g5_J110 ((own_nxt hD ⟨hn10, hc116⟩).1) (by first | exact Or.inl ⟨rfl, rfl⟩ | exact Or.inr ⟨_, rfl, rfl⟩)
                        · skip
                          refine Go.st (T' := T65) (g' := (mkF m 170 #[.val (.ref a), .val (.int ix), .val (.int jx), .val (.long q), .second, .val (.int i5), .val (.long r_63), .second, .val (.long r_64), .second, .val (.int i10), .unset, .unset] [])) (fun t_ k_ => XS.icmpYes X65.here hx rfl (pc0 := 116) (pc' := 170) rfl (hb hby d5_116) rfl (flt hc116).2.1 (by decide) (by decide) k_) ?_
                          refine Go.st (T' := T65) (g' := (mkF m 173 #[.val (.ref a), .val (.int ix), .val (.int jx), .val (.long q), .second, .val (.int (i5 + (1 : Int32))), .val (.long r_63), .second, .val (.long r_64), .second, .val (.int i10), .unset, .unset] [])) (fun t_ k_ => XS.iinc X65.here hx rfl (hb hby d5_170) rfl (l' := #[.val (.ref a), .val (.int ix), .val (.int jx), .val (.long q), .second, .val (.int (i5 + (1 : Int32))), .val (.long r_63), .second, .val (.long r_64), .second, .val (.int i10), .unset, .unset]) rfl k_) ?_
                          refine Go.st (T' := T65) (g' := (mkF m 69 #[.val (.ref a), .val (.int ix), .val (.int jx), .val (.long q), .second, .val (.int (i5 + (1 : Int32))), .val (.long r_63), .second, .val (.long r_64), .second, .val (.int i10), .unset, .unset] [])) (fun t_ k_ => XS.goto X65.here hx rfl (pc0 := 173) (pc' := 69) rfl (hb hby d5_173) (by decide) (by decide) k_) ?_
                          exact ih_J69 _ (by have z := own_nxt hD ⟨hn5, hc75⟩; omega) (i5 + (1 : Int32)) fb (.val (.long r_63)) (.second) (.val (.long r_64)) (.second) (.val (.int i10)) (.unset) (.unset) T65 h_J110 rfl (X65.mono (by decide) (by decide)) sz_J110 K_J110 g0_J110 g1_J110 g2_J110 g3_J110 g4_J110 g5_J110 ((own_nxt hD ⟨hn5, hc75⟩).1) (by first | exact Or.inl ⟨rfl, rfl, rfl, rfl, rfl, rfl, rfl⟩ | exact Or.inr (Or.inl ⟨_, rfl, rfl, rfl, rfl, rfl, rfl, rfl⟩) | exact Or.inr (Or.inr (Or.inl ⟨_, _, _, _, rfl, rfl, rfl, rfl, rfl, rfl, rfl⟩)) | exact Or.inr (Or.inr (Or.inr ⟨_, _, _, rfl, rfl, rfl, rfl, rfl, rfl, rfl⟩)))
                      · skip
                        refine Go.st (T' := T_J110) (g' := (mkF m 112 #[.val (.ref a), .val (.int ix), .val (.int jx), .val (.long q), .second, .val (.int i5), .val (.long r_63), .second, .val (.long r_64), .second, .val (.int i10), .val (.long y11), .second] [(.int i10)])) (fun t_ k_ => XS.iload X_J110.here hx rfl (hb hby d5_110) rfl k_) ?_
                        refine Go.st (T' := T_J110) (g' := (mkF m 113 #[.val (.ref a), .val (.int ix), .val (.int jx), .val (.long q), .second, .val (.int i5), .val (.long r_63), .second, .val (.long r_64), .second, .val (.int i10), .val (.long y11), .second] [(.ref a), (.int i10)])) (fun t_ k_ => XS.aloadN X_J110.here hx rfl (hb hby d5_112) rfl rfl k_) ?_
                        refine goGet X_J110 hx hZ hown (host := "") (Or.inl (hw _ (List.mem_of_getElem? (i := 9) rfl))) Via.refl g2_J110 (hb hby d5_113) fun T72 X72 => ?_
                        show Go p e below _ T72 (mkF m 116 #[.val (.ref a), .val (.int ix), .val (.int jx), .val (.long q), .second, .val (.int i5), .val (.long r_63), .second, .val (.long r_64), .second, .val (.int i10), .val (.long y11), .second] [(.int dm), (.int i10)])
                        by_cases hc116 : i10 < dm
                        · skip
                          refine Go.st (T' := T72) (g' := (mkF m 119 #[.val (.ref a), .val (.int ix), .val (.int jx), .val (.long q), .second, .val (.int i5), .val (.long r_63), .second, .val (.long r_64), .second, .val (.int i10), .val (.long y11), .second] [])) (fun t_ k_ => XS.icmpNo X72.here hx rfl (hb hby d5_116) rfl (tlt hc116).2.1 k_) ?_
                          refine Go.st (T' := T72) (g' := (mkF m 121 #[.val (.ref a), .val (.int ix), .val (.int jx), .val (.long q), .second, .val (.int i5), .val (.long r_63), .second, .val (.long r_64), .second, .val (.int i10), .val (.long y11), .second] [(.long r_64)])) (fun t_ k_ => XS.lload X72.here hx rfl (hb hby d5_119) rfl k_) ?_
                          refine Go.st (T' := T72) (g' := (mkF m 122 #[.val (.ref a), .val (.int ix), .val (.int jx), .val (.long q), .second, .val (.int i5), .val (.long r_63), .second, .val (.long r_64), .second, .val (.int i10), .val (.long y11), .second] [(.ref a), (.long r_64)])) (fun t_ k_ => XS.aloadN X72.here hx rfl (hb hby d5_121) rfl rfl k_) ?_
                          refine Go.st (T' := T72) (g' := (mkF m 123 #[.val (.ref a), .val (.int ix), .val (.int jx), .val (.long q), .second, .val (.int i5), .val (.long r_63), .second, .val (.long r_64), .second, .val (.int i10), .val (.long y11), .second] [(.int jx), (.ref a), (.long r_64)])) (fun t_ k_ => XS.iloadN X72.here hx rfl (hb hby d5_122) rfl k_) ?_
                          refine Go.st (T' := T72) (g' := (mkF m 125 #[.val (.ref a), .val (.int ix), .val (.int jx), .val (.long q), .second, .val (.int i5), .val (.long r_63), .second, .val (.long r_64), .second, .val (.int i10), .val (.long y11), .second] [(.int i10), (.int jx), (.ref a), (.long r_64)])) (fun t_ k_ => XS.iload X72.here hx rfl (hb hby d5_123) rfl k_) ?_
                          refine goVirtS X72 hx hZ (y := (⟨"com/example/utu/utu/check/Zone", "get", "(II)J"⟩ : MethodName)) hown (hw _ (List.mem_of_getElem? (i := 31) rfl)) (hw _ (List.mem_of_getElem? (i := 32) rfl)) (hw _ (List.mem_of_getElem? (i := 34) rfl)) (hw _ (List.mem_of_getElem? (i := 33) rfl)) (hw _ (List.mem_of_getElem? (i := 2) rfl)) (hw _ (List.mem_of_getElem? (i := 35) rfl)) (by decide) g0_J110 (rm7 l Z a0 hw [] n0 h_J110 a jx i10 dm bs n fb sz_J110 g2_J110 g3_J110 g4_J110 (hD) (hj) (⟨hn10, hc116⟩)) 2 (by decide) (by decide) (by rw [hml]; rfl) [(.int jx), (.int i10)] [(.long r_64)] (lenOf pd_7c8b0545 rfl) rfl rfl rfl (hb hby d5_125) (by decide) (by decide) fun v73 T73 h73 X73 hq73 => ?_
                          obtain ⟨r_73, rfl, eh73⟩ := hq73
                          rw [eh73] at X73
                          show Go p e below _ T73 (mkF m 128 #[.val (.ref a), .val (.int ix), .val (.int jx), .val (.long q), .second, .val (.int i5), .val (.long r_63), .second, .val (.long r_64), .second, .val (.int i10), .val (.long y11), .second] [(.long r_73), (.long r_64)])
                          refine goStatic X73 hx hZ (y := (⟨"com/example/utu/utu/check/Zone", "add", "(JJ)J"⟩ : MethodName)) hown (hw _ (List.mem_of_getElem? (i := 60) rfl)) (hw _ (List.mem_of_getElem? (i := 61) rfl)) (hw _ (List.mem_of_getElem? (i := 2) rfl)) (hw _ (List.mem_of_getElem? (i := 62) rfl)) (by decide) (rm12 l Z a0 hw [] n0 h_J110 r_64 r_73 sz_J110) 0 (by decide) (by decide) (by rw [hml]; rfl) [(.long r_64), (.long r_73)] [] (lenOf pd_6c7814f2 rfl) rfl rfl rfl (hb hby d5_128) (by decide) (by decide) fun v74 T74 h74 X74 hq74 => ?_
                          obtain ⟨r_74, rfl, eh74⟩ := hq74
                          rw [eh74] at X74
                          show Go p e below _ T74 (mkF m 131 #[.val (.ref a), .val (.int ix), .val (.int jx), .val (.long q), .second, .val (.int i5), .val (.long r_63), .second, .val (.long r_64), .second, .val (.int i10), .val (.long y11), .second] [(.long r_74)])
                          refine Go.st (T' := T74) (g' := (mkF m 133 #[.val (.ref a), .val (.int ix), .val (.int jx), .val (.long q), .second, .val (.int i5), .val (.long r_63), .second, .val (.long r_64), .second, .val (.int i10), .val (.long r_74), .second] [])) (fun t_ k_ => XS.lstore X74.here hx rfl (hb hby d5_131) rfl (l' := #[.val (.ref a), .val (.int ix), .val (.int jx), .val (.long q), .second, .val (.int i5), .val (.long r_63), .second, .val (.long r_64), .second, .val (.int i10), .val (.long r_74), .second]) rfl k_) ?_
                          refine Go.st (T' := T74) (g' := (mkF m 135 #[.val (.ref a), .val (.int ix), .val (.int jx), .val (.long q), .second, .val (.int i5), .val (.long r_63), .second, .val (.long r_64), .second, .val (.int i10), .val (.long r_74), .second] [(.long r_74)])) (fun t_ k_ => XS.lload X74.here hx rfl (hb hby d5_133) rfl k_) ?_
                          refine Go.st (T' := T74) (g' := (mkF m 136 #[.val (.ref a), .val (.int ix), .val (.int jx), .val (.long q), .second, .val (.int i5), .val (.long r_63), .second, .val (.long r_64), .second, .val (.int i10), .val (.long r_74), .second] [(.ref a), (.long r_74)])) (fun t_ k_ => XS.aloadN X74.here hx rfl (hb hby d5_135) rfl rfl k_) ?_
                          refine Go.st (T' := T74) (g' := (mkF m 138 #[.val (.ref a), .val (.int ix), .val (.int jx), .val (.long q), .second, .val (.int i5), .val (.long r_63), .second, .val (.long r_64), .second, .val (.int i10), .val (.long r_74), .second] [(.int i5), (.ref a), (.long r_74)])) (fun t_ k_ => XS.iload X74.here hx rfl (hb hby d5_136) rfl k_) ?_
                          refine Go.st (T' := T74) (g' := (mkF m 140 #[.val (.ref a), .val (.int ix), .val (.int jx), .val (.long q), .second, .val (.int i5), .val (.long r_63), .second, .val (.long r_64), .second, .val (.int i10), .val (.long r_74), .second] [(.int i10), (.int i5), (.ref a), (.long r_74)])) (fun t_ k_ => XS.iload X74.here hx rfl (hb hby d5_138) rfl k_) ?_
                          refine goVirtS X74 hx hZ (y := (⟨"com/example/utu/utu/check/Zone", "get", "(II)J"⟩ : MethodName)) hown (hw _ (List.mem_of_getElem? (i := 31) rfl)) (hw _ (List.mem_of_getElem? (i := 32) rfl)) (hw _ (List.mem_of_getElem? (i := 34) rfl)) (hw _ (List.mem_of_getElem? (i := 33) rfl)) (hw _ (List.mem_of_getElem? (i := 2) rfl)) (hw _ (List.mem_of_getElem? (i := 35) rfl)) (by decide) g0_J110 (rm7 l Z a0 hw [] n0 h_J110 a i5 i10 dm bs n fb sz_J110 g2_J110 g3_J110 g4_J110 (hD) (⟨hn5, hc75⟩) (⟨hn10, hc116⟩)) 2 (by decide) (by decide) (by rw [hml]; rfl) [(.int i5), (.int i10)] [(.long r_74)] (lenOf pd_7c8b0545 rfl) rfl rfl rfl (hb hby d5_140) (by decide) (by decide) fun v75 T75 h75 X75 hq75 => ?_
                          obtain ⟨r_75, rfl, eh75⟩ := hq75
                          rw [eh75] at X75
                          show Go p e below _ T75 (mkF m 143 #[.val (.ref a), .val (.int ix), .val (.int jx), .val (.long q), .second, .val (.int i5), .val (.long r_63), .second, .val (.long r_64), .second, .val (.int i10), .val (.long r_74), .second] [(.long r_75), (.long r_74)])
                          refine Go.st (T' := T75) (g' := (mkF m 144 #[.val (.ref a), .val (.int ix), .val (.int jx), .val (.long q), .second, .val (.int i5), .val (.long r_63), .second, .val (.long r_64), .second, .val (.int i10), .val (.long r_74), .second] [(.int (lcmpW r_74 r_75))])) (fun t_ k_ => XS.lcmp X75.here hx rfl (hb hby d5_143) rfl k_) ?_
                          by_cases hc144 : r_74 < r_75
                          · skip
                            refine Go.st (T' := T75) (g' := (mkF m 147 #[.val (.ref a), .val (.int ix), .val (.int jx), .val (.long q), .second, .val (.int i5), .val (.long r_63), .second, .val (.long r_64), .second, .val (.int i10), .val (.long r_74), .second] [])) (fun t_ k_ => XS.ifNo X75.here hx rfl (hb hby d5_144) rfl (lcTlt hc144).2 k_) ?_
                            refine Go.st (T' := T75) (g' := (mkF m 148 #[.val (.ref a), .val (.int ix), .val (.int jx), .val (.long q), .second, .val (.int i5), .val (.long r_63), .second, .val (.long r_64), .second, .val (.int i10), .val (.long r_74), .second] [(.ref a)])) (fun t_ k_ => XS.aloadN X75.here hx rfl (hb hby d5_147) rfl rfl k_) ?_
                            refine goGet X75 hx hZ hown (host := "") (Or.inl (hw _ (List.mem_of_getElem? (i := 12) rfl))) Via.refl g3_J110 (hb hby d5_148) fun T76 X76 => ?_
                            show Go p e below _ T76 (mkF m 151 #[.val (.ref a), .val (.int ix), .val (.int jx), .val (.long q), .second, .val (.int i5), .val (.long r_63), .second, .val (.long r_64), .second, .val (.int i10), .val (.long r_74), .second] [(.ref bs)])
                            refine Go.st (T' := T76) (g' := (mkF m 153 #[.val (.ref a), .val (.int ix), .val (.int jx), .val (.long q), .second, .val (.int i5), .val (.long r_63), .second, .val (.long r_64), .second, .val (.int i10), .val (.long r_74), .second] [(.int i5), (.ref bs)])) (fun t_ k_ => XS.iload X76.here hx rfl (hb hby d5_151) rfl k_) ?_
                            refine Go.st (T' := T76) (g' := (mkF m 154 #[.val (.ref a), .val (.int ix), .val (.int jx), .val (.long q), .second, .val (.int i5), .val (.long r_63), .second, .val (.long r_64), .second, .val (.int i10), .val (.long r_74), .second] [(.ref a), (.int i5), (.ref bs)])) (fun t_ k_ => XS.aloadN X76.here hx rfl (hb hby d5_153) rfl rfl k_) ?_
                            refine goGet X76 hx hZ hown (host := "") (Or.inl (hw _ (List.mem_of_getElem? (i := 9) rfl))) Via.refl g2_J110 (hb hby d5_154) fun T77 X77 => ?_
                            show Go p e below _ T77 (mkF m 157 #[.val (.ref a), .val (.int ix), .val (.int jx), .val (.long q), .second, .val (.int i5), .val (.long r_63), .second, .val (.long r_64), .second, .val (.int i10), .val (.long r_74), .second] [(.int dm), (.int i5), (.ref bs)])
                            refine Go.st (T' := T77) (g' := (mkF m 158 #[.val (.ref a), .val (.int ix), .val (.int jx), .val (.long q), .second, .val (.int i5), .val (.long r_63), .second, .val (.long r_64), .second, .val (.int i10), .val (.long r_74), .second] [(.int (i5 * dm)), (.ref bs)])) (fun t_ k_ => XS.imul X77.here hx rfl (hb hby d5_157) rfl k_) ?_
                            refine Go.st (T' := T77) (g' := (mkF m 160 #[.val (.ref a), .val (.int ix), .val (.int jx), .val (.long q), .second, .val (.int i5), .val (.long r_63), .second, .val (.long r_64), .second, .val (.int i10), .val (.long r_74), .second] [(.int i10), (.int (i5 * dm)), (.ref bs)])) (fun t_ k_ => XS.iload X77.here hx rfl (hb hby d5_158) rfl k_) ?_
                            refine Go.st (T' := T77) (g' := (mkF m 161 #[.val (.ref a), .val (.int ix), .val (.int jx), .val (.long q), .second, .val (.int i5), .val (.long r_63), .second, .val (.long r_64), .second, .val (.int i10), .val (.long r_74), .second] [(.int ((i5 * dm) + i10)), (.ref bs)])) (fun t_ k_ => XS.iadd X77.here hx rfl (hb hby d5_160) rfl k_) ?_
                            refine Go.st (T' := T77) (g' := (mkF m 163 #[.val (.ref a), .val (.int ix), .val (.int jx), .val (.long q), .second, .val (.int i5), .val (.long r_63), .second, .val (.long r_64), .second, .val (.int i10), .val (.long r_74), .second] [(.long r_74), (.int ((i5 * dm) + i10)), (.ref bs)])) (fun t_ k_ => XS.lload X77.here hx rfl (hb hby d5_161) rfl k_) ?_
                            refine goStJ X77 hx hZ (f := (fun i => (fb i))) g4_J110 (j := ((i5 * dm) + i10)) (own_ix hD ⟨hn5, hc75⟩ ⟨hn10, hc116⟩) g5_J110 (hb hby d5_163) fun T78 h78 X78 W78 A78 => ?_
                            have f78_1 : Exa Z h78 a "com/example/utu/utu/check/Zone" := g0_J110.wr W78
                            have f78_2 : Exa Z h78 bs "[J" := g1_J110.wr W78
                            have f78_3 : Fld Z h78 a "com/example/utu/utu/check/Zone" "dimension" "I" (.int dm) := g2_J110.other W78 (Or.inl (ne_exa g0_J110 g1_J110 (by decide)))
                            have f78_4 : Fld Z h78 a "com/example/utu/utu/check/Zone" "bounds" "[J" (.ref bs) := g3_J110.other W78 (Or.inl (ne_exa g0_J110 g1_J110 (by decide)))
                            have sz78 : n0 ≤ h78.size := Nat.le_trans sz_J110 (Keep.of_wr W78).1
                            have K78 : Keep h0 h78 [bs] := K_J110.wr W78 (Or.inl (List.mem_of_getElem? (i := 0) rfl))
                            show Go p e below _ T78 (mkF m 164 #[.val (.ref a), .val (.int ix), .val (.int jx), .val (.long q), .second, .val (.int i5), .val (.long r_63), .second, .val (.long r_64), .second, .val (.int i10), .val (.long r_74), .second] [])
                            refine Go.st (T' := T78) (g' := (mkF m 167 #[.val (.ref a), .val (.int ix), .val (.int jx), .val (.long q), .second, .val (.int i5), .val (.long r_63), .second, .val (.long r_64), .second, .val (.int (i10 + (1 : Int32))), .val (.long r_74), .second] [])) (fun t_ k_ => XS.iinc X78.here hx rfl (hb hby d5_164) rfl (l' := #[.val (.ref a), .val (.int ix), .val (.int jx), .val (.long q), .second, .val (.int i5), .val (.long r_63), .second, .val (.long r_64), .second, .val (.int (i10 + (1 : Int32))), .val (.long r_74), .second]) rfl k_) ?_
                            refine Go.st (T' := T78) (g' := (mkF m 110 #[.val (.ref a), .val (.int ix), .val (.int jx), .val (.long q), .second, .val (.int i5), .val (.long r_63), .second, .val (.long r_64), .second, .val (.int (i10 + (1 : Int32))), .val (.long r_74), .second] [])) (fun t_ k_ => XS.goto X78.here hx rfl (pc0 := 167) (pc' := 110) rfl (hb hby d5_167) (by decide) (by decide) k_) ?_
                            exact ih_J110 _ (by have z := own_nxt hD ⟨hn10, hc116⟩; omega) (i10 + (1 : Int32)) (fun i => (if i = (((i5 * dm) + i10)).toNatClampNeg then r_74 else (fun i => (fb i)) i)) (.val (.long r_74)) (.second) T78 h78 rfl (X78.mono (by decide) (by decide)) sz78 K78 f78_1 f78_2 f78_3 f78_4 A78 g5_J110 ((own_nxt hD ⟨hn10, hc116⟩).1) (by first | exact Or.inl ⟨rfl, rfl⟩ | exact Or.inr ⟨_, rfl, rfl⟩)
                          · skip
                            refine Go.st (T' := T75) (g' := (mkF m 164 #[.val (.ref a), .val (.int ix), .val (.int jx), .val (.long q), .second, .val (.int i5), .val (.long r_63), .second, .val (.long r_64), .second, .val (.int i10), .val (.long r_74), .second] [])) (fun t_ k_ => XS.ifYes X75.here hx rfl (pc0 := 144) (pc' := 164) rfl (hb hby d5_144) rfl (lcFlt hc144).2 (by decide) (by decide) k_) ?_
                            refine Go.st (T' := T75) (g' := (mkF m 167 #[.val (.ref a), .val (.int ix), .val (.int jx), .val (.long q), .second, .val (.int i5), .val (.long r_63), .second, .val (.long r_64), .second, .val (.int (i10 + (1 : Int32))), .val (.long r_74), .second] [])) (fun t_ k_ => XS.iinc X75.here hx rfl (hb hby d5_164) rfl (l' := #[.val (.ref a), .val (.int ix), .val (.int jx), .val (.long q), .second, .val (.int i5), .val (.long r_63), .second, .val (.long r_64), .second, .val (.int (i10 + (1 : Int32))), .val (.long r_74), .second]) rfl k_) ?_
                            refine Go.st (T' := T75) (g' := (mkF m 110 #[.val (.ref a), .val (.int ix), .val (.int jx), .val (.long q), .second, .val (.int i5), .val (.long r_63), .second, .val (.long r_64), .second, .val (.int (i10 + (1 : Int32))), .val (.long r_74), .second] [])) (fun t_ k_ => XS.goto X75.here hx rfl (pc0 := 167) (pc' := 110) rfl (hb hby d5_167) (by decide) (by decide) k_) ?_
                            exact ih_J110 _ (by have z := own_nxt hD ⟨hn10, hc116⟩; omega) (i10 + (1 : Int32)) fb (.val (.long r_74)) (.second) T75 h_J110 rfl (X75.mono (by decide) (by decide)) sz_J110 K_J110 g0_J110 g1_J110 g2_J110 g3_J110 g4_J110 g5_J110 ((own_nxt hD ⟨hn10, hc116⟩).1) (by first | exact Or.inl ⟨rfl, rfl⟩ | exact Or.inr ⟨_, rfl, rfl⟩)
                        · skip
                          refine Go.st (T' := T72) (g' := (mkF m 170 #[.val (.ref a), .val (.int ix), .val (.int jx), .val (.long q), .second, .val (.int i5), .val (.long r_63), .second, .val (.long r_64), .second, .val (.int i10), .val (.long y11), .second] [])) (fun t_ k_ => XS.icmpYes X72.here hx rfl (pc0 := 116) (pc' := 170) rfl (hb hby d5_116) rfl (flt hc116).2.1 (by decide) (by decide) k_) ?_
                          refine Go.st (T' := T72) (g' := (mkF m 173 #[.val (.ref a), .val (.int ix), .val (.int jx), .val (.long q), .second, .val (.int (i5 + (1 : Int32))), .val (.long r_63), .second, .val (.long r_64), .second, .val (.int i10), .val (.long y11), .second] [])) (fun t_ k_ => XS.iinc X72.here hx rfl (hb hby d5_170) rfl (l' := #[.val (.ref a), .val (.int ix), .val (.int jx), .val (.long q), .second, .val (.int (i5 + (1 : Int32))), .val (.long r_63), .second, .val (.long r_64), .second, .val (.int i10), .val (.long y11), .second]) rfl k_) ?_
                          refine Go.st (T' := T72) (g' := (mkF m 69 #[.val (.ref a), .val (.int ix), .val (.int jx), .val (.long q), .second, .val (.int (i5 + (1 : Int32))), .val (.long r_63), .second, .val (.long r_64), .second, .val (.int i10), .val (.long y11), .second] [])) (fun t_ k_ => XS.goto X72.here hx rfl (pc0 := 173) (pc' := 69) rfl (hb hby d5_173) (by decide) (by decide) k_) ?_
                          exact ih_J69 _ (by have z := own_nxt hD ⟨hn5, hc75⟩; omega) (i5 + (1 : Int32)) fb (.val (.long r_63)) (.second) (.val (.long r_64)) (.second) (.val (.int i10)) (.val (.long y11)) (.second) T72 h_J110 rfl (X72.mono (by decide) (by decide)) sz_J110 K_J110 g0_J110 g1_J110 g2_J110 g3_J110 g4_J110 g5_J110 ((own_nxt hD ⟨hn5, hc75⟩).1) (by first | exact Or.inl ⟨rfl, rfl, rfl, rfl, rfl, rfl, rfl⟩ | exact Or.inr (Or.inl ⟨_, rfl, rfl, rfl, rfl, rfl, rfl, rfl⟩) | exact Or.inr (Or.inr (Or.inl ⟨_, _, _, _, rfl, rfl, rfl, rfl, rfl, rfl, rfl⟩)) | exact Or.inr (Or.inr (Or.inr ⟨_, _, _, rfl, rfl, rfl, rfl, rfl, rfl, rfl⟩)))
                  exact J110 _ (0 : Int32) fa (.unset) (.unset) T64 h_J69 rfl (X64.mono (by decide) (by decide)) sz_J69 K_J69 g0_J69 g1_J69 g2_J69 g3_J69 g4_J69 g5_J69 (by decide) (by first | exact Or.inl ⟨rfl, rfl⟩ | exact Or.inr ⟨_, rfl, rfl⟩)
              · skip
                refine Go.st (T' := T62) (g' := (mkF m 176 #[.val (.ref a), .val (.int ix), .val (.int jx), .val (.long q), .second, .val (.int i5), .val (.long y6), .second, .val (.long y8), .second, .val (.int y10), .unset, .unset] [])) (fun t_ k_ => XS.icmpYes X62.here hx rfl (pc0 := 75) (pc' := 176) rfl (hb hby d5_75) rfl (flt hc75).2.1 (by decide) (by decide) k_) ?_
                refine Go.st (T' := T62) (g' := (mkF m 177 #[.val (.ref a), .val (.int ix), .val (.int jx), .val (.long q), .second, .val (.int i5), .val (.long y6), .second, .val (.long y8), .second, .val (.int y10), .unset, .unset] [(.int (1 : Int32))])) (fun t_ k_ => XS.iconst X62.here hx rfl (hb hby d5_176) k_) ?_
                refine goRetZ X62 hx hlk hret (hb hby d5_177) (by decide) (by decide) (Or.inr rfl) ?_
                refine ⟨(1 : Int32), fa, rfl, K_J69, g4_J69⟩
        exact J69 _ (0 : Int32) (fun i => (if i = (((ix * dm) + jx)).toNatClampNeg then q else (fun i => (f i)) i)) (.unset) (.unset) (.unset) (.unset) (.unset) (.unset) (.unset) T10 h10 rfl (X10.mono (by decide) (by decide)) sz10 K10 f10_0 f10_1 f10_2 f10_3 A10 g5 (by decide) (by first | exact Or.inl ⟨rfl, rfl, rfl, rfl, rfl, rfl, rfl⟩ | exact Or.inr (Or.inl ⟨_, rfl, rfl, rfl, rfl, rfl, rfl, rfl⟩) | exact Or.inr (Or.inr (Or.inl ⟨_, _, _, _, rfl, rfl, rfl, rfl, rfl, rfl, rfl⟩)) | exact Or.inr (Or.inr (Or.inr ⟨_, _, _, rfl, rfl, rfl, rfl, rfl, rfl, rfl⟩)))
    · skip
      refine Go.st (T' := T2) (g' := (mkF m 20 #[.val (.ref a), .val (.int ix), .val (.int jx), .val (.long q), .second, .unset, .unset, .unset, .unset, .unset, .unset, .unset, .unset] [])) (fun t_ k_ => XS.ifNo X2.here hx rfl (hb hby d5_17) rfl (lcFlt hc17).1 k_) ?_
      refine Go.st (T' := T2) (g' := (mkF m 21 #[.val (.ref a), .val (.int ix), .val (.int jx), .val (.long q), .second, .unset, .unset, .unset, .unset, .unset, .unset, .unset, .unset] [(.int (1 : Int32))])) (fun t_ k_ => XS.iconst X2.here hx rfl (hb hby d5_20) k_) ?_
      refine goRetZ X2 hx hlk hret (hb hby d5_21) (by decide) (by decide) (Or.inr rfl) ?_
      refine ⟨(1 : Int32), f, rfl, K0, g4⟩
  · skip
    refine Go.st (T' := T1) (g' := (mkF m 7 #[.val (.ref a), .val (.int ix), .val (.int jx), .val (.long q), .second, .unset, .unset, .unset, .unset, .unset, .unset, .unset, .unset] [])) (fun t_ k_ => XS.ifNo X1.here hx rfl (hb hby d5_4) rfl ((if0 _ _).trans (feq hc4).1) k_) ?_
    refine Go.st (T' := T1) (g' := (mkF m 8 #[.val (.ref a), .val (.int ix), .val (.int jx), .val (.long q), .second, .unset, .unset, .unset, .unset, .unset, .unset, .unset, .unset] [(.int (0 : Int32))])) (fun t_ k_ => XS.iconst X1.here hx rfl (hb hby d5_7) k_) ?_
    refine goRetZ X1 hx hlk hret (hb hby d5_8) (by decide) (by decide) (Or.inl rfl) ?_
    refine ⟨(0 : Int32), f, rfl, K0, g4⟩
theorem d8_0 : decode prog_27_method_10_code 0 = .ok (.aload_n 0, 1) := by decide +kernel
theorem d8_1 : decode prog_27_method_10_code 1 = .ok (.getfield 15, 3) := by decide +kernel
theorem d8_4 : decode prog_27_method_10_code 4 = .ok (.iconst 0, 1) := by decide +kernel
theorem d8_5 : decode prog_27_method_10_code 5 = .ok (.aload_n 1, 1) := by decide +kernel
theorem d8_6 : decode prog_27_method_10_code 6 = .ok (.iload_n 2, 1) := by decide +kernel
theorem d8_7 : decode prog_27_method_10_code 7 = .ok (.aload_n 0, 1) := by decide +kernel
theorem d8_8 : decode prog_27_method_10_code 8 = .ok (.getfield 15, 3) := by decide +kernel
theorem d8_11 : decode prog_27_method_10_code 11 = .ok (.arraylength, 1) := by decide +kernel
theorem d8_12 : decode prog_27_method_10_code 12 = .ok (.invokestatic 39, 3) := by decide +kernel
theorem d8_15 : decode prog_27_method_10_code 15 = .ok (.return_, 1) := by decide +kernel
theorem pn_8 : plainFor (⟨"com/example/utu/utu/check/Zone", "write", "([JI)V"⟩ : MethodName) = true := plainFor_of_name (by first | (simp [plainName, overriddenIn]; done) | decide +kernel)
theorem ef_rm8 (m : MethodId) (x0 : Addr) (x1 : Addr) (x2 : Int32) : entryFrame m #[(.ref x0), (.ref x1), (.int x2)] 3 = mkF m 0 #[.val (.ref x0), .val (.ref x1), .val (.int x2)] [] := by first | (simp [entryFrame, mkF, argsToLocals, Value.category]; done) | rfl
def Q8 (Z : State) (n0 : Nat) (h0 : Heap) (a : Addr) (ds : Addr) (bs : Addr) (n : Nat) (f : Nat → Int64) (g : Nat → Int64) (v : Option Value) (h : Heap) : Prop := v = none ∧ Keep h0 h [ds] ∧ Ary Z h ds .long 16 (fun i => .long (if i < n then f i else g i))
set_option maxRecDepth 65536 in
set_option maxHeartbeats 40000000 in
theorem rm8 (l : Launch) (Z : State) (a0 : Array Value) (hw : ∀ d ∈ tables_1, d.before a0 Z = true) (ws : List Jvm.Cond) (n0 : Nat) (h0 : Heap) (a : Addr) (ds : Addr) (bs : Addr) (n : Nat) (f : Nat → Int64) (g : Nat → Int64) (sz0 : n0 ≤ h0.size) (g0 : Fld Z h0 a "com/example/utu/utu/check/Zone" "bounds" "[J" (.ref bs)) (g1 : Ary Z h0 bs .long n (fun i => .long (f i))) (g2 : Ary Z h0 ds .long 16 (fun i => .long (g i))) (g3 : n0 ≤ ds) (hn : n ≤ 16) :
    Con l (⟨"com/example/utu/utu/check/Zone", "write", "([JI)V"⟩ : MethodName) prog_27_method_10_code 3 none ({ frames := 1, cells := 0, slots := 0, locals := 40 } : Room) ws Z n0 #[(.ref a), (.ref ds), (.int (0 : Int32))] h0 (Q8 Z n0 h0 a ds bs n f g) := by
  refine Con.body pn_8 ?_
  intro p e s m below meth c s₁ hx hby hml hown hnm hret hlk hZ X0
  have hown : s.vm.findClass "com/example/utu/utu/check/Zone" = some m.cls := hown
  have hnm : meth.name = "write" := hnm
  have K0 : Keep h0 h0 [ds] := Keep.refl _ _
  rw [show entryFrame m #[(.ref a), (.ref ds), (.int (0 : Int32))] 3 = mkF m 0 #[.val (.ref a), .val (.ref ds), .val (.int (0 : Int32))] [] from ef_rm8 m a ds (0 : Int32)]
  show Go p e below (PostW s n0 (0 : Nat) (0 : Nat) (Q8 Z n0 h0 a ds bs n f g)) s₁ (mkF m 0 #[.val (.ref a), .val (.ref ds), .val (.int (0 : Int32))] [])
  refine Go.st (T' := s₁) (g' := (mkF m 1 #[.val (.ref a), .val (.ref ds), .val (.int (0 : Int32))] [(.ref a)])) (fun t_ k_ => XS.aloadN X0.here hx rfl (hb hby d8_0) rfl rfl k_) ?_
  refine goGet X0 hx hZ hown (host := "") (Or.inl (hw _ (List.mem_of_getElem? (i := 12) rfl))) Via.refl g0 (hb hby d8_1) fun T1 X1 => ?_
  show Go p e below _ T1 (mkF m 4 #[.val (.ref a), .val (.ref ds), .val (.int (0 : Int32))] [(.ref bs)])
  refine Go.st (T' := T1) (g' := (mkF m 5 #[.val (.ref a), .val (.ref ds), .val (.int (0 : Int32))] [(.int (0 : Int32)), (.ref bs)])) (fun t_ k_ => XS.iconst X1.here hx rfl (hb hby d8_4) k_) ?_
  refine Go.st (T' := T1) (g' := (mkF m 6 #[.val (.ref a), .val (.ref ds), .val (.int (0 : Int32))] [(.ref ds), (.int (0 : Int32)), (.ref bs)])) (fun t_ k_ => XS.aloadN X1.here hx rfl (hb hby d8_5) rfl rfl k_) ?_
  refine Go.st (T' := T1) (g' := (mkF m 7 #[.val (.ref a), .val (.ref ds), .val (.int (0 : Int32))] [(.int (0 : Int32)), (.ref ds), (.int (0 : Int32)), (.ref bs)])) (fun t_ k_ => XS.iloadN X1.here hx rfl (hb hby d8_6) rfl k_) ?_
  refine Go.st (T' := T1) (g' := (mkF m 8 #[.val (.ref a), .val (.ref ds), .val (.int (0 : Int32))] [(.ref a), (.int (0 : Int32)), (.ref ds), (.int (0 : Int32)), (.ref bs)])) (fun t_ k_ => XS.aloadN X1.here hx rfl (hb hby d8_7) rfl rfl k_) ?_
  refine goGet X1 hx hZ hown (host := "") (Or.inl (hw _ (List.mem_of_getElem? (i := 12) rfl))) Via.refl g0 (hb hby d8_8) fun T2 X2 => ?_
  show Go p e below _ T2 (mkF m 11 #[.val (.ref a), .val (.ref ds), .val (.int (0 : Int32))] [(.ref bs), (.int (0 : Int32)), (.ref ds), (.int (0 : Int32)), (.ref bs)])
  refine goLen X2 hx hZ g1 (hb hby d8_11) ?_
  show Go p e below _ T2 (mkF m 12 #[.val (.ref a), .val (.ref ds), .val (.int (0 : Int32))] [(.int (n).toInt32), (.int (0 : Int32)), (.ref ds), (.int (0 : Int32)), (.ref bs)])
  refine goCopy X2 hx hZ hown (hw _ (List.mem_of_getElem? (i := 41) rfl)) (hw _ (List.mem_of_getElem? (i := 44) rfl)) (hw _ (List.mem_of_getElem? (i := 42) rfl)) (hw _ (List.mem_of_getElem? (i := 43) rfl)) g1 g2 rfl (by omega) (by decide) (fun i _ => rfl) (fun i _ => rfl) (sp := (0 : Int32)) (dp := (0 : Int32)) (nn := (n).toInt32) (by decide) (by decide) (z_of (by omega)).2 (by rw [(z_of (by omega)).1]; show 0 + n ≤ n; omega) (by rw [(z_of (by omega)).1]; show 0 + n ≤ 16; omega) g3 (by rw [hml]; rfl) (hb hby d8_12) (by decide) 0 rfl (by decide) fun T3 h3 X3 K3c B3 => ?_
  have sz3 : n0 ≤ h3.size := Nat.le_trans sz0 K3c.1
  have K3 : Keep h0 h3 [ds] := K0.trans K3c (allS (Or.inl (List.mem_of_getElem? (i := 0) rfl)) all0)
  have BB3 : Ary Z h3 ds .long 16 (fun i => .long (if i < n then f i else g i)) := B3.congr (fun i _ => by rw [(z_of (by omega)).1]; show (if 0 ≤ i ∧ i < 0 + n then Value.long (f (0 + (i - 0))) else _) = _; by_cases z : i < n <;> simp [z])
  show Go p e below _ T3 (mkF m 15 #[.val (.ref a), .val (.ref ds), .val (.int (0 : Int32))] [])
  refine goRetV X3 hx hlk hret (hb hby d8_15) (by decide) (by decide) ?_
  refine ⟨rfl, K3, BB3⟩

theorem own_up0 {dm : Int32} {n : Nat} {f : Nat → Int64} (h : own_dim dm n) : own_upi dm.toNatClampNeg n ((1 : Int32)).toNatClampNeg f f := by
  intro k hk
  rw [if_neg]
  rcases h with ⟨rfl, rfl⟩ | ⟨rfl, rfl⟩ | ⟨rfl, rfl⟩ | ⟨rfl, rfl⟩ <;> simp only [Int32.reduceToNatClampNeg] <;> omega
theorem own_ixz {dm : Int32} {n : Nat} {i : Int32} (h : own_dim dm n) (hi : own_rg i dm) : ¬ (i * dm) < 0 ∧ (i * dm).toNatClampNeg = i.toNatClampNeg * dm.toNatClampNeg ∧ (i * dm).toNatClampNeg < n := by
  obtain ⟨q1, q2, q3⟩ := own_ixv h hi (own_0 h)
  have e : i * dm + 0 = i * dm := by simp
  rw [e] at q1 q2 q3
  exact ⟨q1, by rw [q2]; rfl, q3⟩
theorem own_ups {dm : Int32} {n : Nat} {i : Int32} {f fa : Nat → Int64} (h : own_dim dm n) (hi : own_rg i dm) (hp : 1 ≤ i.toNatClampNeg) (hu : own_upi dm.toNatClampNeg n i.toNatClampNeg f fa) : own_upi dm.toNatClampNeg n (i + (1 : Int32)).toNatClampNeg f (fun k => (if k = ((i * dm)).toNatClampNeg then (9223372036854775807 : Int64) else fa k)) := by
  obtain ⟨-, e2, -⟩ := own_ixz h hi
  obtain ⟨-, e3, -⟩ := own_nxt h hi
  intro k hk
  have u := hu k hk
  rw [e3]
  simp only [e2]
  by_cases c1 : k = i.toNatClampNeg * dm.toNatClampNeg
  · rw [if_pos c1, if_pos]
    rcases h with ⟨rfl, rfl⟩ | ⟨rfl, rfl⟩ | ⟨rfl, rfl⟩ | ⟨rfl, rfl⟩ <;> simp only [Int32.reduceToNatClampNeg] at * <;> omega
  · rw [if_neg c1, u]
    have q : (k % dm.toNatClampNeg = 0 ∧ dm.toNatClampNeg ≤ k ∧ k < i.toNatClampNeg * dm.toNatClampNeg) ↔ (k % dm.toNatClampNeg = 0 ∧ dm.toNatClampNeg ≤ k ∧ k < (i.toNatClampNeg + 1) * dm.toNatClampNeg) := by
      rcases h with ⟨rfl, rfl⟩ | ⟨rfl, rfl⟩ | ⟨rfl, rfl⟩ | ⟨rfl, rfl⟩ <;> simp only [Int32.reduceToNatClampNeg] at * <;> omega
    by_cases c2 : (k % dm.toNatClampNeg = 0 ∧ dm.toNatClampNeg ≤ k ∧ k < i.toNatClampNeg * dm.toNatClampNeg)
    · rw [if_pos c2, if_pos (q.mp c2)]
    · rw [if_neg c2, if_neg fun z => c2 (q.mpr z)]
theorem own_upe {dm : Int32} {n : Nat} {i : Int32} {f fa : Nat → Int64} (h : own_dim dm n) (h0 : ¬ i < 0) (hi : ¬ i < dm) (hu : own_upi dm.toNatClampNeg n i.toNatClampNeg f fa) : own_upf dm.toNatClampNeg n f fa := by
  have a1 := nat_of h0
  rw [Int32.lt_iff_toInt_lt] at hi
  intro k hk
  rw [hu k hk]
  have q : (k % dm.toNatClampNeg = 0 ∧ dm.toNatClampNeg ≤ k ∧ k < i.toNatClampNeg * dm.toNatClampNeg) ↔ (k % dm.toNatClampNeg = 0 ∧ dm.toNatClampNeg ≤ k) := by
    rcases h with ⟨rfl, rfl⟩ | ⟨rfl, rfl⟩ | ⟨rfl, rfl⟩ | ⟨rfl, rfl⟩ <;> simp only [Int32.reduceToNatClampNeg, Int32.reduceToInt] at * <;> omega
  by_cases c2 : (k % dm.toNatClampNeg = 0 ∧ dm.toNatClampNeg ≤ k)
  · rw [if_pos c2, if_pos (q.mpr c2)]
  · rw [if_neg c2, if_neg fun z => c2 (q.mp z)]

theorem d9_0 : decode prog_27_method_18_code 0 = .ok (.iconst 1, 1) := by decide +kernel
theorem d9_1 : decode prog_27_method_18_code 1 = .ok (.istore_n 1, 1) := by decide +kernel
theorem d9_2 : decode prog_27_method_18_code 2 = .ok (.iload_n 1, 1) := by decide +kernel
theorem d9_3 : decode prog_27_method_18_code 3 = .ok (.aload_n 0, 1) := by decide +kernel
theorem d9_4 : decode prog_27_method_18_code 4 = .ok (.getfield 9, 3) := by decide +kernel
theorem d9_7 : decode prog_27_method_18_code 7 = .ok (.if_icmp .ge 23, 3) := by decide +kernel
theorem d9_10 : decode prog_27_method_18_code 10 = .ok (.aload_n 0, 1) := by decide +kernel
theorem d9_11 : decode prog_27_method_18_code 11 = .ok (.getfield 15, 3) := by decide +kernel
theorem d9_14 : decode prog_27_method_18_code 14 = .ok (.iload_n 1, 1) := by decide +kernel
theorem d9_15 : decode prog_27_method_18_code 15 = .ok (.aload_n 0, 1) := by decide +kernel
theorem d9_16 : decode prog_27_method_18_code 16 = .ok (.getfield 9, 3) := by decide +kernel
theorem d9_19 : decode prog_27_method_18_code 19 = .ok (.imul, 1) := by decide +kernel
theorem d9_20 : decode prog_27_method_18_code 20 = .ok (.ldc2_w 30, 3) := by decide +kernel
theorem d9_23 : decode prog_27_method_18_code 23 = .ok (.lastore, 1) := by decide +kernel
theorem d9_24 : decode prog_27_method_18_code 24 = .ok (.iinc 1 1, 3) := by decide +kernel
theorem d9_27 : decode prog_27_method_18_code 27 = .ok (.goto (-25), 3) := by decide +kernel
theorem d9_30 : decode prog_27_method_18_code 30 = .ok (.return_, 1) := by decide +kernel
theorem pn_9 : plainFor (⟨"com/example/utu/utu/check/Zone", "up", "()V"⟩ : MethodName) = true := plainFor_of_name (by first | (simp [plainName, overriddenIn]; done) | decide +kernel)
theorem ef_rm9 (m : MethodId) (x0 : Addr) : entryFrame m #[(.ref x0)] 2 = mkF m 0 #[.val (.ref x0), .unset] [] := by first | (simp [entryFrame, mkF, argsToLocals, Value.category]; done) | rfl
def Q9 (Z : State) (n0 : Nat) (h0 : Heap) (a : Addr) (dm : Int32) (bs : Addr) (n : Nat) (f : Nat → Int64) (v : Option Value) (h : Heap) : Prop := ∃ (f' : Nat → Int64), v = none ∧ Keep h0 h [bs] ∧ Ary Z h bs .long n (fun i => .long (f' i)) ∧ (own_upf dm.toNatClampNeg n f f')
set_option maxRecDepth 65536 in
set_option maxHeartbeats 40000000 in
theorem rm9 (l : Launch) (Z : State) (a0 : Array Value) (hw : ∀ d ∈ tables_1, d.before a0 Z = true) (ws : List Jvm.Cond) (n0 : Nat) (h0 : Heap) (a : Addr) (dm : Int32) (bs : Addr) (n : Nat) (f : Nat → Int64) (sz0 : n0 ≤ h0.size) (g0 : Exa Z h0 a "com/example/utu/utu/check/Zone") (g1 : Exa Z h0 bs "[J") (g2 : Fld Z h0 a "com/example/utu/utu/check/Zone" "dimension" "I" (.int dm)) (g3 : Fld Z h0 a "com/example/utu/utu/check/Zone" "bounds" "[J" (.ref bs)) (g4 : Ary Z h0 bs .long n (fun i => .long (f i))) (g5 : n0 ≤ bs) (hD : own_dim dm n) :
    Con l (⟨"com/example/utu/utu/check/Zone", "up", "()V"⟩ : MethodName) prog_27_method_18_code 2 none ({ frames := 0, cells := 0, slots := 0, locals := 0 } : Room) ws Z n0 #[(.ref a)] h0 (Q9 Z n0 h0 a dm bs n f) := by
  refine Con.body pn_9 ?_
  intro p e s m below meth c s₁ hx hby hml hown hnm hret hlk hZ X0
  have hown : s.vm.findClass "com/example/utu/utu/check/Zone" = some m.cls := hown
  have hnm : meth.name = "up" := hnm
  have K0 : Keep h0 h0 [bs] := Keep.refl _ _
  rw [show entryFrame m #[(.ref a)] 2 = mkF m 0 #[.val (.ref a), .unset] [] from ef_rm9 m a]
  show Go p e below (PostW s n0 (0 : Nat) (0 : Nat) (Q9 Z n0 h0 a dm bs n f)) s₁ (mkF m 0 #[.val (.ref a), .unset] [])
  refine Go.st (T' := s₁) (g' := (mkF m 1 #[.val (.ref a), .unset] [(.int (1 : Int32))])) (fun t_ k_ => XS.iconst X0.here hx rfl (hb hby d9_0) k_) ?_
  refine Go.st (T' := s₁) (g' := (mkF m 2 #[.val (.ref a), .val (.int (1 : Int32))] [])) (fun t_ k_ => XS.istoreN X0.here hx rfl (hb hby d9_1) rfl (l' := #[.val (.ref a), .val (.int (1 : Int32))]) rfl k_) ?_
  have J2 : ∀ (k_J2 : Nat) (i1 : Int32) (fa : Nat → Int64) (T_J2 : State) (h_J2 : Heap), (dm.toNatClampNeg - i1.toNatClampNeg) = k_J2 → Stn p l e ({ frames := 0, cells := 0, slots := 0, locals := 0 } : Room) s m #[(.ref a)] below meth c n0 T_J2 h_J2 0 0 → n0 ≤ h_J2.size → Keep h0 h_J2 [bs] → Exa Z h_J2 a "com/example/utu/utu/check/Zone" → Exa Z h_J2 bs "[J" → Fld Z h_J2 a "com/example/utu/utu/check/Zone" "dimension" "I" (.int dm) → Fld Z h_J2 a "com/example/utu/utu/check/Zone" "bounds" "[J" (.ref bs) → Ary Z h_J2 bs .long n (fun i => .long (fa i)) → n0 ≤ bs → (¬ i1 < 0) → (1 ≤ i1.toNatClampNeg) → (own_upi dm.toNatClampNeg n i1.toNatClampNeg f fa) → Go p e below (PostW s n0 (0 : Nat) (0 : Nat) (Q9 Z n0 h0 a dm bs n f)) T_J2 (mkF m 2 #[.val (.ref a), .val (.int i1)] []) := by
    intro k_J2
    induction k_J2 using Nat.strongRecOn with
    | _ k_J2 ih_J2 =>
      intro i1 fa T_J2 h_J2 hk_J2 X_J2 sz_J2 K_J2 g0_J2 g1_J2 g2_J2 g3_J2 g4_J2 g5_J2 hn1 h1p hu
      refine Go.st (T' := T_J2) (g' := (mkF m 3 #[.val (.ref a), .val (.int i1)] [(.int i1)])) (fun t_ k_ => XS.iloadN X_J2.here hx rfl (hb hby d9_2) rfl k_) ?_
      refine Go.st (T' := T_J2) (g' := (mkF m 4 #[.val (.ref a), .val (.int i1)] [(.ref a), (.int i1)])) (fun t_ k_ => XS.aloadN X_J2.here hx rfl (hb hby d9_3) rfl rfl k_) ?_
      refine goGet X_J2 hx hZ hown (host := "") (Or.inl (hw _ (List.mem_of_getElem? (i := 9) rfl))) Via.refl g2_J2 (hb hby d9_4) fun T1 X1 => ?_
      show Go p e below _ T1 (mkF m 7 #[.val (.ref a), .val (.int i1)] [(.int dm), (.int i1)])
      by_cases hc7 : i1 < dm
      · skip
        refine Go.st (T' := T1) (g' := (mkF m 10 #[.val (.ref a), .val (.int i1)] [])) (fun t_ k_ => XS.icmpNo X1.here hx rfl (hb hby d9_7) rfl (tlt hc7).2.1 k_) ?_
        refine Go.st (T' := T1) (g' := (mkF m 11 #[.val (.ref a), .val (.int i1)] [(.ref a)])) (fun t_ k_ => XS.aloadN X1.here hx rfl (hb hby d9_10) rfl rfl k_) ?_
        refine goGet X1 hx hZ hown (host := "") (Or.inl (hw _ (List.mem_of_getElem? (i := 12) rfl))) Via.refl g3_J2 (hb hby d9_11) fun T2 X2 => ?_
        show Go p e below _ T2 (mkF m 14 #[.val (.ref a), .val (.int i1)] [(.ref bs)])
        refine Go.st (T' := T2) (g' := (mkF m 15 #[.val (.ref a), .val (.int i1)] [(.int i1), (.ref bs)])) (fun t_ k_ => XS.iloadN X2.here hx rfl (hb hby d9_14) rfl k_) ?_
        refine Go.st (T' := T2) (g' := (mkF m 16 #[.val (.ref a), .val (.int i1)] [(.ref a), (.int i1), (.ref bs)])) (fun t_ k_ => XS.aloadN X2.here hx rfl (hb hby d9_15) rfl rfl k_) ?_
        refine goGet X2 hx hZ hown (host := "") (Or.inl (hw _ (List.mem_of_getElem? (i := 9) rfl))) Via.refl g2_J2 (hb hby d9_16) fun T3 X3 => ?_
        show Go p e below _ T3 (mkF m 19 #[.val (.ref a), .val (.int i1)] [(.int dm), (.int i1), (.ref bs)])
        refine Go.st (T' := T3) (g' := (mkF m 20 #[.val (.ref a), .val (.int i1)] [(.int (i1 * dm)), (.ref bs)])) (fun t_ k_ => XS.imul X3.here hx rfl (hb hby d9_19) rfl k_) ?_
        refine Go.st (T' := T3) (g' := (mkF m 23 #[.val (.ref a), .val (.int i1)] [(.long (9223372036854775807 : Int64)), (.int (i1 * dm)), (.ref bs)])) (fun t_ k_ => Stn.ldcJ X3 hx hZ hown (hw _ (List.mem_of_getElem? (i := 63) rfl)) (hb hby d9_20) k_) ?_
        refine goStJ X3 hx hZ (f := (fun i => (fa i))) g4_J2 (j := (i1 * dm)) (own_inb (own_ixz hD ⟨hn1, hc7⟩).1 (own_ixz hD ⟨hn1, hc7⟩).2.2) g5_J2 (hb hby d9_23) fun T4 h4 X4 W4 A4 => ?_
        have f4_1 : Exa Z h4 a "com/example/utu/utu/check/Zone" := g0_J2.wr W4
        have f4_2 : Exa Z h4 bs "[J" := g1_J2.wr W4
        have f4_3 : Fld Z h4 a "com/example/utu/utu/check/Zone" "dimension" "I" (.int dm) := g2_J2.other W4 (Or.inl (ne_exa g0_J2 g1_J2 (by decide)))
        have f4_4 : Fld Z h4 a "com/example/utu/utu/check/Zone" "bounds" "[J" (.ref bs) := g3_J2.other W4 (Or.inl (ne_exa g0_J2 g1_J2 (by decide)))
        have sz4 : n0 ≤ h4.size := Nat.le_trans sz_J2 (Keep.of_wr W4).1
        have K4 : Keep h0 h4 [bs] := K_J2.wr W4 (Or.inl (List.mem_of_getElem? (i := 0) rfl))
        show Go p e below _ T4 (mkF m 24 #[.val (.ref a), .val (.int i1)] [])
        refine Go.st (T' := T4) (g' := (mkF m 27 #[.val (.ref a), .val (.int (i1 + (1 : Int32)))] [])) (fun t_ k_ => XS.iinc X4.here hx rfl (hb hby d9_24) rfl (l' := #[.val (.ref a), .val (.int (i1 + (1 : Int32)))]) rfl k_) ?_
        refine Go.st (T' := T4) (g' := (mkF m 2 #[.val (.ref a), .val (.int (i1 + (1 : Int32)))] [])) (fun t_ k_ => XS.goto X4.here hx rfl (pc0 := 27) (pc' := 2) rfl (hb hby d9_27) (by decide) (by decide) k_) ?_
        exact ih_J2 _ (by have z := own_nxt hD ⟨hn1, hc7⟩; omega) (i1 + (1 : Int32)) (fun i => (if i = ((i1 * dm)).toNatClampNeg then (9223372036854775807 : Int64) else (fun i => (fa i)) i)) T4 h4 rfl (X4.mono (by decide) (by decide)) sz4 K4 f4_1 f4_2 f4_3 f4_4 A4 g5_J2 ((own_nxt hD ⟨hn1, hc7⟩).1) (by have z := own_nxt hD ⟨hn1, hc7⟩; omega) (own_ups hD ⟨hn1, hc7⟩ h1p hu)
      · skip
        refine Go.st (T' := T1) (g' := (mkF m 30 #[.val (.ref a), .val (.int i1)] [])) (fun t_ k_ => XS.icmpYes X1.here hx rfl (pc0 := 7) (pc' := 30) rfl (hb hby d9_7) rfl (flt hc7).2.1 (by decide) (by decide) k_) ?_
        refine goRetV X1 hx hlk hret (hb hby d9_30) (by decide) (by decide) ?_
        refine ⟨fa, rfl, K_J2, g4_J2, ?_⟩
        · exact own_upe hD hn1 hc7 hu
  exact J2 _ (1 : Int32) f s₁ h0 rfl (X0.mono (by decide) (by decide)) sz0 K0 g0 g1 g2 g3 g4 g5 (by decide) (by decide) (own_up0 hD)

theorem own_klt {dm k : Int32} {n : Nat} (h : own_dim dm n) (hk : ¬ k < 0) : k < dm * dm ↔ k.toNatClampNeg < n := by
  have a1 := nat_of hk
  rw [Int32.lt_iff_toInt_lt]
  rcases h with ⟨rfl, rfl⟩ | ⟨rfl, rfl⟩ | ⟨rfl, rfl⟩ | ⟨rfl, rfl⟩ <;> simp only [Int32.reduceMul, Int32.reduceToInt] <;> omega
theorem own_kmod {dm k : Int32} {n : Nat} (h : own_dim dm n) (hk : ¬ k < 0) : k % dm = 0 ↔ k.toNatClampNeg % dm.toNatClampNeg = 0 := by
  have a1 := nat_of hk
  rw [← Int32.toInt_inj, Jvm.Kit.i32_rem_nonneg (by omega)]
  rcases h with ⟨rfl, rfl⟩ | ⟨rfl, rfl⟩ | ⟨rfl, rfl⟩ | ⟨rfl, rfl⟩ <;> simp only [Int32.reduceToInt, Int32.reduceToNatClampNeg] <;> omega
theorem own_kge {dm k : Int32} {n : Nat} (h : own_dim dm n) (hk : ¬ k < 0) : ¬ k < dm ↔ dm.toNatClampNeg ≤ k.toNatClampNeg := by
  have a1 := nat_of hk
  rw [Int32.lt_iff_toInt_lt]
  rcases h with ⟨rfl, rfl⟩ | ⟨rfl, rfl⟩ | ⟨rfl, rfl⟩ | ⟨rfl, rfl⟩ <;> simp only [Int32.reduceToInt, Int32.reduceToNatClampNeg] <;> omega
theorem own_dnz {dm : Int32} {n : Nat} (h : own_dim dm n) : dm ≠ 0 := by
  rcases h with ⟨rfl, rfl⟩ | ⟨rfl, rfl⟩ | ⟨rfl, rfl⟩ | ⟨rfl, rfl⟩ <;> decide
theorem own_cu {dm k v : Int32} {n : Nat} (h : own_dim dm n) (hk : ¬ k < 0) (hv : v = (if (k % dm) = (0 : Int32) then (if k < dm then (0 : Int32) else (1 : Int32)) else (0 : Int32))) : v = 0 ↔ ¬ (k.toNatClampNeg % dm.toNatClampNeg = 0 ∧ dm.toNatClampNeg ≤ k.toNatClampNeg) := by
  rw [← own_kmod h hk, ← own_kge h hk]
  by_cases c1 : (k % dm) = (0 : Int32) <;> by_cases c2 : k < dm <;> simp [hv, c1, c2]

theorem d10_0 : decode method_3_code 0 = .ok (.iload_n 2, 1) := by decide +kernel
theorem d10_1 : decode method_3_code 1 = .ok (.iload_n 3, 1) := by decide +kernel
theorem d10_2 : decode method_3_code 2 = .ok (.iload_n 3, 1) := by decide +kernel
theorem d10_3 : decode method_3_code 3 = .ok (.imul, 1) := by decide +kernel
theorem d10_4 : decode method_3_code 4 = .ok (.if_icmp .lt 25, 3) := by decide +kernel
theorem d10_7 : decode method_3_code 7 = .ok (.aload_n 0, 1) := by decide +kernel
theorem d10_8 : decode method_3_code 8 = .ok (.iload_n 2, 1) := by decide +kernel
theorem d10_9 : decode method_3_code 9 = .ok (.laload, 1) := by decide +kernel
theorem d10_10 : decode method_3_code 10 = .ok (.lconst 0, 1) := by decide +kernel
theorem d10_11 : decode method_3_code 11 = .ok (.lcmp, 1) := by decide +kernel
theorem d10_12 : decode method_3_code 12 = .ok (.ifCond .ne 15, 3) := by decide +kernel
theorem d10_15 : decode method_3_code 15 = .ok (.aload_n 1, 1) := by decide +kernel
theorem d10_16 : decode method_3_code 16 = .ok (.iload_n 2, 1) := by decide +kernel
theorem d10_17 : decode method_3_code 17 = .ok (.laload, 1) := by decide +kernel
theorem d10_18 : decode method_3_code 18 = .ok (.lconst 0, 1) := by decide +kernel
theorem d10_19 : decode method_3_code 19 = .ok (.lcmp, 1) := by decide +kernel
theorem d10_20 : decode method_3_code 20 = .ok (.ifCond .ne 7, 3) := by decide +kernel
theorem d10_23 : decode method_3_code 23 = .ok (.iconst 1, 1) := by decide +kernel
theorem d10_24 : decode method_3_code 24 = .ok (.goto 4, 3) := by decide +kernel
theorem d10_28 : decode method_3_code 28 = .ok (.ireturn, 1) := by decide +kernel
theorem d10_29 : decode method_3_code 29 = .ok (.iload_n 2, 1) := by decide +kernel
theorem d10_30 : decode method_3_code 30 = .ok (.iload_n 3, 1) := by decide +kernel
theorem d10_31 : decode method_3_code 31 = .ok (.irem, 1) := by decide +kernel
theorem d10_32 : decode method_3_code 32 = .ok (.ifCond .ne 12, 3) := by decide +kernel
theorem d10_35 : decode method_3_code 35 = .ok (.iload_n 2, 1) := by decide +kernel
theorem d10_36 : decode method_3_code 36 = .ok (.iload_n 3, 1) := by decide +kernel
theorem d10_37 : decode method_3_code 37 = .ok (.if_icmp .lt 7, 3) := by decide +kernel
theorem d10_40 : decode method_3_code 40 = .ok (.iconst 1, 1) := by decide +kernel
theorem d10_41 : decode method_3_code 41 = .ok (.goto 4, 3) := by decide +kernel
theorem d10_44 : decode method_3_code 44 = .ok (.iconst 0, 1) := by decide +kernel
theorem d10_45 : decode method_3_code 45 = .ok (.istore 4, 2) := by decide +kernel
theorem d10_47 : decode method_3_code 47 = .ok (.iload 4, 2) := by decide +kernel
theorem d10_49 : decode method_3_code 49 = .ok (.ifCond .eq 19, 3) := by decide +kernel
theorem d10_52 : decode method_3_code 52 = .ok (.aload_n 1, 1) := by decide +kernel
theorem d10_53 : decode method_3_code 53 = .ok (.iload_n 2, 1) := by decide +kernel
theorem d10_54 : decode method_3_code 54 = .ok (.laload, 1) := by decide +kernel
theorem d10_55 : decode method_3_code 55 = .ok (.ldc2_w 37, 3) := by decide +kernel
theorem d10_58 : decode method_3_code 58 = .ok (.lcmp, 1) := by decide +kernel
theorem d10_59 : decode method_3_code 59 = .ok (.ifCond .ne 7, 3) := by decide +kernel
theorem d10_62 : decode method_3_code 62 = .ok (.iconst 1, 1) := by decide +kernel
theorem d10_63 : decode method_3_code 63 = .ok (.goto 4, 3) := by decide +kernel
theorem d10_67 : decode method_3_code 67 = .ok (.ireturn, 1) := by decide +kernel
theorem d10_68 : decode method_3_code 68 = .ok (.aload_n 1, 1) := by decide +kernel
theorem d10_69 : decode method_3_code 69 = .ok (.iload_n 2, 1) := by decide +kernel
theorem d10_70 : decode method_3_code 70 = .ok (.laload, 1) := by decide +kernel
theorem d10_71 : decode method_3_code 71 = .ok (.aload_n 0, 1) := by decide +kernel
theorem d10_72 : decode method_3_code 72 = .ok (.iload_n 2, 1) := by decide +kernel
theorem d10_73 : decode method_3_code 73 = .ok (.laload, 1) := by decide +kernel
theorem d10_74 : decode method_3_code 74 = .ok (.lcmp, 1) := by decide +kernel
theorem d10_75 : decode method_3_code 75 = .ok (.ifCond .ne 7, 3) := by decide +kernel
theorem d10_78 : decode method_3_code 78 = .ok (.iconst 1, 1) := by decide +kernel
theorem d10_79 : decode method_3_code 79 = .ok (.goto 4, 3) := by decide +kernel
theorem d10_83 : decode method_3_code 83 = .ok (.ireturn, 1) := by decide +kernel
theorem pn_10 : plainFor (⟨"com/example/utu/utu/check/ZoneUpPinLaw", "ok", "([J[JII)Z"⟩ : MethodName) = true := plainFor_of_name (by first | (simp [plainName, overriddenIn]; done) | decide +kernel)
theorem ef_rm10 (m : MethodId) (x0 : Addr) (x1 : Addr) (x2 : Int32) (x3 : Int32) : entryFrame m #[(.ref x0), (.ref x1), (.int x2), (.int x3)] 5 = mkF m 0 #[.val (.ref x0), .val (.ref x1), .val (.int x2), .val (.int x3), .unset] [] := by first | (simp [entryFrame, mkF, argsToLocals, Value.category]; done) | rfl
def Q10 (Z : State) (n0 : Nat) (h0 : Heap) (x1 : Addr) (x2 : Addr) (k : Int32) (dm : Int32) (n : Nat) (fb : Nat → Int64) (fa : Nat → Int64) (v : Option Value) (h : Heap) : Prop := v = some (.int (1 : Int32)) ∧ h = h0
set_option maxRecDepth 65536 in
set_option maxHeartbeats 40000000 in
theorem rm10 (l : Launch) (Z : State) (a0 : Array Value) (hw : ∀ d ∈ tables_1, d.before a0 Z = true) (ws : List Jvm.Cond) (n0 : Nat) (h0 : Heap) (x1 : Addr) (x2 : Addr) (k : Int32) (dm : Int32) (n : Nat) (fb : Nat → Int64) (fa : Nat → Int64) (sz0 : n0 ≤ h0.size) (g0 : Ary Z h0 x1 .long 16 (fun i => .long (fb i))) (g1 : Ary Z h0 x2 .long 16 (fun i => .long (fa i))) (hD : own_dim dm n) (hk : ¬ k < 0 ∧ k.toNatClampNeg < 16) (hr : own_rel n dm.toNatClampNeg fb fa k.toNatClampNeg) :
    Con l (⟨"com/example/utu/utu/check/ZoneUpPinLaw", "ok", "([J[JII)Z"⟩ : MethodName) method_3_code 5 (some .boolean) ({ frames := 0, cells := 0, slots := 0, locals := 0 } : Room) ws Z n0 #[(.ref x1), (.ref x2), (.int k), (.int dm)] h0 (Q10 Z n0 h0 x1 x2 k dm n fb fa) := by
  refine Con.body pn_10 ?_
  intro p e s m below meth c s₁ hx hby hml hown hnm hret hlk hZ X0
  have hown : s.vm.findClass "com/example/utu/utu/check/ZoneUpPinLaw" = some m.cls := hown
  have hnm : meth.name = "ok" := hnm
  rw [show entryFrame m #[(.ref x1), (.ref x2), (.int k), (.int dm)] 5 = mkF m 0 #[.val (.ref x1), .val (.ref x2), .val (.int k), .val (.int dm), .unset] [] from ef_rm10 m x1 x2 k dm]
  show Go p e below (PostW s n0 (0 : Nat) (0 : Nat) (Q10 Z n0 h0 x1 x2 k dm n fb fa)) s₁ (mkF m 0 #[.val (.ref x1), .val (.ref x2), .val (.int k), .val (.int dm), .unset] [])
  refine Go.st (T' := s₁) (g' := (mkF m 1 #[.val (.ref x1), .val (.ref x2), .val (.int k), .val (.int dm), .unset] [(.int k)])) (fun t_ k_ => XS.iloadN X0.here hx rfl (hb hby d10_0) rfl k_) ?_
  refine Go.st (T' := s₁) (g' := (mkF m 2 #[.val (.ref x1), .val (.ref x2), .val (.int k), .val (.int dm), .unset] [(.int dm), (.int k)])) (fun t_ k_ => XS.iloadN X0.here hx rfl (hb hby d10_1) rfl k_) ?_
  refine Go.st (T' := s₁) (g' := (mkF m 3 #[.val (.ref x1), .val (.ref x2), .val (.int k), .val (.int dm), .unset] [(.int dm), (.int dm), (.int k)])) (fun t_ k_ => XS.iloadN X0.here hx rfl (hb hby d10_2) rfl k_) ?_
  refine Go.st (T' := s₁) (g' := (mkF m 4 #[.val (.ref x1), .val (.ref x2), .val (.int k), .val (.int dm), .unset] [(.int (dm * dm)), (.int k)])) (fun t_ k_ => XS.imul X0.here hx rfl (hb hby d10_3) rfl k_) ?_
  by_cases hc4 : k < (dm * dm)
  · skip
    refine Go.st (T' := s₁) (g' := (mkF m 29 #[.val (.ref x1), .val (.ref x2), .val (.int k), .val (.int dm), .unset] [])) (fun t_ k_ => XS.icmpYes X0.here hx rfl (pc0 := 4) (pc' := 29) rfl (hb hby d10_4) rfl (tlt hc4).1 (by decide) (by decide) k_) ?_
    refine Go.st (T' := s₁) (g' := (mkF m 30 #[.val (.ref x1), .val (.ref x2), .val (.int k), .val (.int dm), .unset] [(.int k)])) (fun t_ k_ => XS.iloadN X0.here hx rfl (hb hby d10_29) rfl k_) ?_
    refine Go.st (T' := s₁) (g' := (mkF m 31 #[.val (.ref x1), .val (.ref x2), .val (.int k), .val (.int dm), .unset] [(.int dm), (.int k)])) (fun t_ k_ => XS.iloadN X0.here hx rfl (hb hby d10_30) rfl k_) ?_
    refine Go.st (T' := s₁) (g' := (mkF m 32 #[.val (.ref x1), .val (.ref x2), .val (.int k), .val (.int dm), .unset] [(.int (k % dm))])) (fun t_ k_ => own_irem X0.here hx (hb hby d10_31) (own_dnz hD) k_) ?_
    have J45_1 : ∀ (cu : Int32), cu = (if (k % dm) = (0 : Int32) then (if k < dm then (0 : Int32) else (1 : Int32)) else (0 : Int32)) → Go p e below (PostW s n0 (0 : Nat) (0 : Nat) (Q10 Z n0 h0 x1 x2 k dm n fb fa)) s₁ (mkF m 45 #[.val (.ref x1), .val (.ref x2), .val (.int k), .val (.int dm), .unset] [(.int cu)]) := by
      intro cu h_cu
      refine Go.st (T' := s₁) (g' := (mkF m 47 #[.val (.ref x1), .val (.ref x2), .val (.int k), .val (.int dm), .val (.int cu)] [])) (fun t_ k_ => XS.istore X0.here hx rfl (hb hby d10_45) rfl (l' := #[.val (.ref x1), .val (.ref x2), .val (.int k), .val (.int dm), .val (.int cu)]) rfl k_) ?_
      refine Go.st (T' := s₁) (g' := (mkF m 49 #[.val (.ref x1), .val (.ref x2), .val (.int k), .val (.int dm), .val (.int cu)] [(.int cu)])) (fun t_ k_ => XS.iload X0.here hx rfl (hb hby d10_47) rfl k_) ?_
      by_cases hc49 : cu = (0 : Int32)
      · skip
        refine Go.st (T' := s₁) (g' := (mkF m 68 #[.val (.ref x1), .val (.ref x2), .val (.int k), .val (.int dm), .val (.int cu)] [])) (fun t_ k_ => XS.ifYes X0.here hx rfl (pc0 := 49) (pc' := 68) rfl (hb hby d10_49) rfl ((if0 _ _).trans (teq hc49).1) (by decide) (by decide) k_) ?_
        refine Go.st (T' := s₁) (g' := (mkF m 69 #[.val (.ref x1), .val (.ref x2), .val (.int k), .val (.int dm), .val (.int cu)] [(.ref x2)])) (fun t_ k_ => XS.aloadN X0.here hx rfl (hb hby d10_68) rfl rfl k_) ?_
        refine Go.st (T' := s₁) (g' := (mkF m 70 #[.val (.ref x1), .val (.ref x2), .val (.int k), .val (.int dm), .val (.int cu)] [(.int k), (.ref x2)])) (fun t_ k_ => XS.iloadN X0.here hx rfl (hb hby d10_69) rfl k_) ?_
        refine goLdJ X0 hx hZ (f := (fun i => (fa i))) g1 (j := k) (own_inb hk.1 hk.2) (hb hby d10_70) ?_
        show Go p e below _ s₁ (mkF m 71 #[.val (.ref x1), .val (.ref x2), .val (.int k), .val (.int dm), .val (.int cu)] [(.long (fa (k).toNatClampNeg))])
        refine Go.st (T' := s₁) (g' := (mkF m 72 #[.val (.ref x1), .val (.ref x2), .val (.int k), .val (.int dm), .val (.int cu)] [(.ref x1), (.long (fa (k).toNatClampNeg))])) (fun t_ k_ => XS.aloadN X0.here hx rfl (hb hby d10_71) rfl rfl k_) ?_
        refine Go.st (T' := s₁) (g' := (mkF m 73 #[.val (.ref x1), .val (.ref x2), .val (.int k), .val (.int dm), .val (.int cu)] [(.int k), (.ref x1), (.long (fa (k).toNatClampNeg))])) (fun t_ k_ => XS.iloadN X0.here hx rfl (hb hby d10_72) rfl k_) ?_
        refine goLdJ X0 hx hZ (f := (fun i => (fb i))) g0 (j := k) (own_inb hk.1 hk.2) (hb hby d10_73) ?_
        show Go p e below _ s₁ (mkF m 74 #[.val (.ref x1), .val (.ref x2), .val (.int k), .val (.int dm), .val (.int cu)] [(.long (fb (k).toNatClampNeg)), (.long (fa (k).toNatClampNeg))])
        refine Go.st (T' := s₁) (g' := (mkF m 75 #[.val (.ref x1), .val (.ref x2), .val (.int k), .val (.int dm), .val (.int cu)] [(.int (lcmpW (fa (k).toNatClampNeg) (fb (k).toNatClampNeg)))])) (fun t_ k_ => XS.lcmp X0.here hx rfl (hb hby d10_74) rfl k_) ?_
        have hc75 : (fa (k).toNatClampNeg) = (fb (k).toNatClampNeg) := by rw [hr.2 ((own_klt hD hk.1).mp hc4)]; exact if_neg ((own_cu hD hk.1 h_cu).mp hc49)
        refine Go.st (T' := s₁) (g' := (mkF m 78 #[.val (.ref x1), .val (.ref x2), .val (.int k), .val (.int dm), .val (.int cu)] [])) (fun t_ k_ => XS.ifNo X0.here hx rfl (hb hby d10_75) rfl (lcTeq hc75).2 k_) ?_
        refine Go.st (T' := s₁) (g' := (mkF m 79 #[.val (.ref x1), .val (.ref x2), .val (.int k), .val (.int dm), .val (.int cu)] [(.int (1 : Int32))])) (fun t_ k_ => XS.iconst X0.here hx rfl (hb hby d10_78) k_) ?_
        refine Go.st (T' := s₁) (g' := (mkF m 83 #[.val (.ref x1), .val (.ref x2), .val (.int k), .val (.int dm), .val (.int cu)] [(.int (1 : Int32))])) (fun t_ k_ => XS.goto X0.here hx rfl (pc0 := 79) (pc' := 83) rfl (hb hby d10_79) (by decide) (by decide) k_) ?_
        refine goRetZ X0 hx hlk hret (hb hby d10_83) (by decide) (by decide) (Or.inr rfl) ?_
        refine ⟨rfl, rfl⟩
      · skip
        refine Go.st (T' := s₁) (g' := (mkF m 52 #[.val (.ref x1), .val (.ref x2), .val (.int k), .val (.int dm), .val (.int cu)] [])) (fun t_ k_ => XS.ifNo X0.here hx rfl (hb hby d10_49) rfl ((if0 _ _).trans (feq hc49).1) k_) ?_
        refine Go.st (T' := s₁) (g' := (mkF m 53 #[.val (.ref x1), .val (.ref x2), .val (.int k), .val (.int dm), .val (.int cu)] [(.ref x2)])) (fun t_ k_ => XS.aloadN X0.here hx rfl (hb hby d10_52) rfl rfl k_) ?_
        refine Go.st (T' := s₁) (g' := (mkF m 54 #[.val (.ref x1), .val (.ref x2), .val (.int k), .val (.int dm), .val (.int cu)] [(.int k), (.ref x2)])) (fun t_ k_ => XS.iloadN X0.here hx rfl (hb hby d10_53) rfl k_) ?_
        refine goLdJ X0 hx hZ (f := (fun i => (fa i))) g1 (j := k) (own_inb hk.1 hk.2) (hb hby d10_54) ?_
        show Go p e below _ s₁ (mkF m 55 #[.val (.ref x1), .val (.ref x2), .val (.int k), .val (.int dm), .val (.int cu)] [(.long (fa (k).toNatClampNeg))])
        refine Go.st (T' := s₁) (g' := (mkF m 58 #[.val (.ref x1), .val (.ref x2), .val (.int k), .val (.int dm), .val (.int cu)] [(.long (9223372036854775807 : Int64)), (.long (fa (k).toNatClampNeg))])) (fun t_ k_ => Stn.ldcJ X0 hx hZ hown (hw _ (List.mem_of_getElem? (i := 67) rfl)) (hb hby d10_55) k_) ?_
        refine Go.st (T' := s₁) (g' := (mkF m 59 #[.val (.ref x1), .val (.ref x2), .val (.int k), .val (.int dm), .val (.int cu)] [(.int (lcmpW (fa (k).toNatClampNeg) (9223372036854775807 : Int64)))])) (fun t_ k_ => XS.lcmp X0.here hx rfl (hb hby d10_58) rfl k_) ?_
        have hc59 : (fa (k).toNatClampNeg) = (9223372036854775807 : Int64) := by rw [hr.2 ((own_klt hD hk.1).mp hc4)]; exact if_pos (Classical.not_not.mp fun z => hc49 ((own_cu hD hk.1 h_cu).mpr z))
        refine Go.st (T' := s₁) (g' := (mkF m 62 #[.val (.ref x1), .val (.ref x2), .val (.int k), .val (.int dm), .val (.int cu)] [])) (fun t_ k_ => XS.ifNo X0.here hx rfl (hb hby d10_59) rfl (lcTeq hc59).2 k_) ?_
        refine Go.st (T' := s₁) (g' := (mkF m 63 #[.val (.ref x1), .val (.ref x2), .val (.int k), .val (.int dm), .val (.int cu)] [(.int (1 : Int32))])) (fun t_ k_ => XS.iconst X0.here hx rfl (hb hby d10_62) k_) ?_
        refine Go.st (T' := s₁) (g' := (mkF m 67 #[.val (.ref x1), .val (.ref x2), .val (.int k), .val (.int dm), .val (.int cu)] [(.int (1 : Int32))])) (fun t_ k_ => XS.goto X0.here hx rfl (pc0 := 63) (pc' := 67) rfl (hb hby d10_63) (by decide) (by decide) k_) ?_
        refine goRetZ X0 hx hlk hret (hb hby d10_67) (by decide) (by decide) (Or.inr rfl) ?_
        refine ⟨rfl, rfl⟩
    by_cases hc32 : (k % dm) = (0 : Int32)
    · skip
      refine Go.st (T' := s₁) (g' := (mkF m 35 #[.val (.ref x1), .val (.ref x2), .val (.int k), .val (.int dm), .unset] [])) (fun t_ k_ => XS.ifNo X0.here hx rfl (hb hby d10_32) rfl ((if0 _ _).trans (teq hc32).2) k_) ?_
      refine Go.st (T' := s₁) (g' := (mkF m 36 #[.val (.ref x1), .val (.ref x2), .val (.int k), .val (.int dm), .unset] [(.int k)])) (fun t_ k_ => XS.iloadN X0.here hx rfl (hb hby d10_35) rfl k_) ?_
      refine Go.st (T' := s₁) (g' := (mkF m 37 #[.val (.ref x1), .val (.ref x2), .val (.int k), .val (.int dm), .unset] [(.int dm), (.int k)])) (fun t_ k_ => XS.iloadN X0.here hx rfl (hb hby d10_36) rfl k_) ?_
      by_cases hc37 : k < dm
      · skip
        refine Go.st (T' := s₁) (g' := (mkF m 44 #[.val (.ref x1), .val (.ref x2), .val (.int k), .val (.int dm), .unset] [])) (fun t_ k_ => XS.icmpYes X0.here hx rfl (pc0 := 37) (pc' := 44) rfl (hb hby d10_37) rfl (tlt hc37).1 (by decide) (by decide) k_) ?_
        refine Go.st (T' := s₁) (g' := (mkF m 45 #[.val (.ref x1), .val (.ref x2), .val (.int k), .val (.int dm), .unset] [(.int (0 : Int32))])) (fun t_ k_ => XS.iconst X0.here hx rfl (hb hby d10_44) k_) ?_
        exact J45_1 (0 : Int32) (by rw [if_pos hc32, if_pos hc37])
      · skip
        refine Go.st (T' := s₁) (g' := (mkF m 40 #[.val (.ref x1), .val (.ref x2), .val (.int k), .val (.int dm), .unset] [])) (fun t_ k_ => XS.icmpNo X0.here hx rfl (hb hby d10_37) rfl (flt hc37).1 k_) ?_
        refine Go.st (T' := s₁) (g' := (mkF m 41 #[.val (.ref x1), .val (.ref x2), .val (.int k), .val (.int dm), .unset] [(.int (1 : Int32))])) (fun t_ k_ => XS.iconst X0.here hx rfl (hb hby d10_40) k_) ?_
        refine Go.st (T' := s₁) (g' := (mkF m 45 #[.val (.ref x1), .val (.ref x2), .val (.int k), .val (.int dm), .unset] [(.int (1 : Int32))])) (fun t_ k_ => XS.goto X0.here hx rfl (pc0 := 41) (pc' := 45) rfl (hb hby d10_41) (by decide) (by decide) k_) ?_
        exact J45_1 (1 : Int32) (by rw [if_pos hc32, if_neg hc37])
    · skip
      refine Go.st (T' := s₁) (g' := (mkF m 44 #[.val (.ref x1), .val (.ref x2), .val (.int k), .val (.int dm), .unset] [])) (fun t_ k_ => XS.ifYes X0.here hx rfl (pc0 := 32) (pc' := 44) rfl (hb hby d10_32) rfl ((if0 _ _).trans (feq hc32).2) (by decide) (by decide) k_) ?_
      refine Go.st (T' := s₁) (g' := (mkF m 45 #[.val (.ref x1), .val (.ref x2), .val (.int k), .val (.int dm), .unset] [(.int (0 : Int32))])) (fun t_ k_ => XS.iconst X0.here hx rfl (hb hby d10_44) k_) ?_
      exact J45_1 (0 : Int32) (by rw [if_neg hc32])
  · skip
    refine Go.st (T' := s₁) (g' := (mkF m 7 #[.val (.ref x1), .val (.ref x2), .val (.int k), .val (.int dm), .unset] [])) (fun t_ k_ => XS.icmpNo X0.here hx rfl (hb hby d10_4) rfl (flt hc4).1 k_) ?_
    refine Go.st (T' := s₁) (g' := (mkF m 8 #[.val (.ref x1), .val (.ref x2), .val (.int k), .val (.int dm), .unset] [(.ref x1)])) (fun t_ k_ => XS.aloadN X0.here hx rfl (hb hby d10_7) rfl rfl k_) ?_
    refine Go.st (T' := s₁) (g' := (mkF m 9 #[.val (.ref x1), .val (.ref x2), .val (.int k), .val (.int dm), .unset] [(.int k), (.ref x1)])) (fun t_ k_ => XS.iloadN X0.here hx rfl (hb hby d10_8) rfl k_) ?_
    refine goLdJ X0 hx hZ (f := (fun i => (fb i))) g0 (j := k) (own_inb hk.1 hk.2) (hb hby d10_9) ?_
    show Go p e below _ s₁ (mkF m 10 #[.val (.ref x1), .val (.ref x2), .val (.int k), .val (.int dm), .unset] [(.long (fb (k).toNatClampNeg))])
    refine Go.st (T' := s₁) (g' := (mkF m 11 #[.val (.ref x1), .val (.ref x2), .val (.int k), .val (.int dm), .unset] [(.long (0 : Int64)), (.long (fb (k).toNatClampNeg))])) (fun t_ k_ => XS.lconst X0.here hx rfl (hb hby d10_10) k_) ?_
    refine Go.st (T' := s₁) (g' := (mkF m 12 #[.val (.ref x1), .val (.ref x2), .val (.int k), .val (.int dm), .unset] [(.int (lcmpW (fb (k).toNatClampNeg) (0 : Int64)))])) (fun t_ k_ => XS.lcmp X0.here hx rfl (hb hby d10_11) rfl k_) ?_
    have hc12 : (fb (k).toNatClampNeg) = (0 : Int64) := (hr.1 (Nat.le_of_not_lt fun z => hc4 ((own_klt hD hk.1).mpr z))).1
    refine Go.st (T' := s₁) (g' := (mkF m 15 #[.val (.ref x1), .val (.ref x2), .val (.int k), .val (.int dm), .unset] [])) (fun t_ k_ => XS.ifNo X0.here hx rfl (hb hby d10_12) rfl (lcTeq hc12).2 k_) ?_
    refine Go.st (T' := s₁) (g' := (mkF m 16 #[.val (.ref x1), .val (.ref x2), .val (.int k), .val (.int dm), .unset] [(.ref x2)])) (fun t_ k_ => XS.aloadN X0.here hx rfl (hb hby d10_15) rfl rfl k_) ?_
    refine Go.st (T' := s₁) (g' := (mkF m 17 #[.val (.ref x1), .val (.ref x2), .val (.int k), .val (.int dm), .unset] [(.int k), (.ref x2)])) (fun t_ k_ => XS.iloadN X0.here hx rfl (hb hby d10_16) rfl k_) ?_
    refine goLdJ X0 hx hZ (f := (fun i => (fa i))) g1 (j := k) (own_inb hk.1 hk.2) (hb hby d10_17) ?_
    show Go p e below _ s₁ (mkF m 18 #[.val (.ref x1), .val (.ref x2), .val (.int k), .val (.int dm), .unset] [(.long (fa (k).toNatClampNeg))])
    refine Go.st (T' := s₁) (g' := (mkF m 19 #[.val (.ref x1), .val (.ref x2), .val (.int k), .val (.int dm), .unset] [(.long (0 : Int64)), (.long (fa (k).toNatClampNeg))])) (fun t_ k_ => XS.lconst X0.here hx rfl (hb hby d10_18) k_) ?_
    refine Go.st (T' := s₁) (g' := (mkF m 20 #[.val (.ref x1), .val (.ref x2), .val (.int k), .val (.int dm), .unset] [(.int (lcmpW (fa (k).toNatClampNeg) (0 : Int64)))])) (fun t_ k_ => XS.lcmp X0.here hx rfl (hb hby d10_19) rfl k_) ?_
    have hc20 : (fa (k).toNatClampNeg) = (0 : Int64) := (hr.1 (Nat.le_of_not_lt fun z => hc4 ((own_klt hD hk.1).mpr z))).2
    refine Go.st (T' := s₁) (g' := (mkF m 23 #[.val (.ref x1), .val (.ref x2), .val (.int k), .val (.int dm), .unset] [])) (fun t_ k_ => XS.ifNo X0.here hx rfl (hb hby d10_20) rfl (lcTeq hc20).2 k_) ?_
    refine Go.st (T' := s₁) (g' := (mkF m 24 #[.val (.ref x1), .val (.ref x2), .val (.int k), .val (.int dm), .unset] [(.int (1 : Int32))])) (fun t_ k_ => XS.iconst X0.here hx rfl (hb hby d10_23) k_) ?_
    refine Go.st (T' := s₁) (g' := (mkF m 28 #[.val (.ref x1), .val (.ref x2), .val (.int k), .val (.int dm), .unset] [(.int (1 : Int32))])) (fun t_ k_ => XS.goto X0.here hx rfl (pc0 := 24) (pc' := 28) rfl (hb hby d10_24) (by decide) (by decide) k_) ?_
    refine goRetZ X0 hx hlk hret (hb hby d10_28) (by decide) (by decide) (Or.inr rfl) ?_
    refine ⟨rfl, rfl⟩

theorem own_dx (u : Int32) : ∃ N, own_dim ((u &&& (3 : Int32)) + (1 : Int32)) N ∧ ((u &&& (3 : Int32)) = 0 ∨ (u &&& (3 : Int32)) = 1 ∨ (u &&& (3 : Int32)) = 2 ∨ (u &&& (3 : Int32)) = 3) := by
  have h := Jvm.Kit.i32_mask u 3 (k := 2) (by decide) (by decide)
  have q : (u &&& (3 : Int32)).toInt = 0 ∨ (u &&& (3 : Int32)).toInt = 1 ∨ (u &&& (3 : Int32)).toInt = 2 ∨ (u &&& (3 : Int32)).toInt = 3 := by omega
  rcases q with q | q | q | q
  · have e : (u &&& (3 : Int32)) = 0 := Int32.toInt_inj.mp q
    exact ⟨1, Or.inl ⟨by rw [e]; rfl, rfl⟩, Or.inl e⟩
  · have e : (u &&& (3 : Int32)) = 1 := Int32.toInt_inj.mp q
    exact ⟨4, Or.inr (Or.inl ⟨by rw [e]; rfl, rfl⟩), Or.inr (Or.inl e)⟩
  · have e : (u &&& (3 : Int32)) = 2 := Int32.toInt_inj.mp q
    exact ⟨9, Or.inr (Or.inr (Or.inl ⟨by rw [e]; rfl, rfl⟩)), Or.inr (Or.inr (Or.inl e))⟩
  · have e : (u &&& (3 : Int32)) = 3 := Int32.toInt_inj.mp q
    exact ⟨16, Or.inr (Or.inr (Or.inr ⟨by rw [e]; rfl, rfl⟩)), Or.inr (Or.inr (Or.inr e))⟩
theorem own_rx {dm u : Int32} {n : Nat} (h : own_dim dm n) : own_rg ((u &&& (3 : Int32)) % dm) dm := by
  have h3 := Jvm.Kit.i32_mask u 3 (k := 2) (by decide) (by decide)
  have e := Jvm.Kit.i32_rem_nonneg (x := (u &&& (3 : Int32))) (y := dm) (by omega)
  unfold own_rg
  rw [Int32.lt_iff_toInt_lt, Int32.lt_iff_toInt_lt, e]
  rcases h with ⟨rfl, rfl⟩ | ⟨rfl, rfl⟩ | ⟨rfl, rfl⟩ | ⟨rfl, rfl⟩ <;> simp only [Int32.reduceToInt] <;> omega
theorem own_r1 {nv k : Int32} (h : nv = 0 ∨ nv = 1 ∨ nv = 2 ∨ nv = 3) (hk : k = 1 ∨ k = 2 ∨ k = 3) (hc : ¬ nv < k) : own_rg k (nv + (1 : Int32)) := by
  rcases h with rfl | rfl | rfl | rfl <;> rcases hk with rfl | rfl | rfl <;> first | exact absurd (by decide) hc | exact ⟨by decide, by decide⟩

theorem pn_0 : plainFor x = true := plainFor_of_name (by first | (simp [plainName, overriddenIn]; done) | decide +kernel)
theorem pd_fdc785a8 : parseMethodDescriptor "(I)V" = some ⟨[.int], none⟩ := by decide +kernel
theorem pd_5b372460 : parseMethodDescriptor "(IIJ)Z" = some ⟨[.int, .int, .long], some .boolean⟩ := by decide +kernel
theorem pd_5852bd1e : parseMethodDescriptor "([JI)V" = some ⟨[(.array .long), .int], none⟩ := by decide +kernel
theorem pd_0f51a560 : parseMethodDescriptor "()V" = some ⟨[], none⟩ := by decide +kernel
theorem pd_15b2cf97 : parseMethodDescriptor "([J[JII)Z" = some ⟨[(.array .long), (.array .long), .int, .int], some .boolean⟩ := by decide +kernel
theorem pd_688a590a : parseMethodDescriptor "(II)V" = some ⟨[.int, .int], none⟩ := by decide +kernel
theorem ef_rm0 (m : MethodId) (x0 : Int32) (x1 : Int32) (x2 : Int32) (x3 : Int32) (x4 : Int32) : entryFrame m #[(.int x0), (.int x1), (.int x2), (.int x3), (.int x4)] maxLocals = mkF m 0 #[.val (.int x0), .val (.int x1), .val (.int x2), .val (.int x3), .val (.int x4), .unset, .unset, .unset, .unset, .unset, .unset, .unset, .unset] [] := by first | (simp [entryFrame, mkF, argsToLocals, Value.category, maxLocals]; done) | rfl
def Q0 (Z : State) (n0 : Nat) (h0 : Heap) (p1 : Int32) (p2 : Int32) (p3 : Int32) (p4 : Int32) (p5 : Int32) (v : Option Value) (h : Heap) : Prop := v = some (.int (1 : Int32))
set_option maxRecDepth 65536 in
set_option maxHeartbeats 40000000 in
theorem rm0 (l : Launch) (Z : State) (a0 : Array Value) (hw : ∀ d ∈ tables_1, d.before a0 Z = true) (ws : List Jvm.Cond) (n0 : Nat) (h0 : Heap) (p1 : Int32) (p2 : Int32) (p3 : Int32) (p4 : Int32) (p5 : Int32) (sz0 : n0 ≤ h0.size) :
    Con l x code maxLocals ret room_1 ws Z n0 #[(.int p1), (.int p2), (.int p3), (.int p4), (.int p5)] h0 (Q0 Z n0 h0 p1 p2 p3 p4 p5) := by
  refine Con.body pn_0 ?_
  intro p e s m below meth c s₁ hx hby hml hown hnm hret hlk hZ X0
  have hown : s.vm.findClass "com/example/utu/utu/check/ZoneUpPinLaw" = some m.cls := hown
  have hnm : meth.name = "law" := hnm
  have hml : c.maxLocals = 13 := hml
  have hret : meth.sig.returnType = some .boolean := hret
  rw [show entryFrame m #[(.int p1), (.int p2), (.int p3), (.int p4), (.int p5)] maxLocals = mkF m 0 #[.val (.int p1), .val (.int p2), .val (.int p3), .val (.int p4), .val (.int p5), .unset, .unset, .unset, .unset, .unset, .unset, .unset, .unset] [] from ef_rm0 m p1 p2 p3 p4 p5]
  show Go p e below (PostW s n0 room_1.cells room_1.slots (Q0 Z n0 h0 p1 p2 p3 p4 p5)) s₁ (mkF m 0 #[.val (.int p1), .val (.int p2), .val (.int p3), .val (.int p4), .val (.int p5), .unset, .unset, .unset, .unset, .unset, .unset, .unset, .unset] [])
  refine Go.st (T' := s₁) (g' := (mkF m 1 #[.val (.int p1), .val (.int p2), .val (.int p3), .val (.int p4), .val (.int p5), .unset, .unset, .unset, .unset, .unset, .unset, .unset, .unset] [(.int p1)])) (fun t_ k_ => XS.iloadN X0.here hx rfl (hb hby at_0) rfl k_) ?_
  refine Go.st (T' := s₁) (g' := (mkF m 2 #[.val (.int p1), .val (.int p2), .val (.int p3), .val (.int p4), .val (.int p5), .unset, .unset, .unset, .unset, .unset, .unset, .unset, .unset] [(.int (3 : Int32)), (.int p1)])) (fun t_ k_ => XS.iconst X0.here hx rfl (hb hby at_1) k_) ?_
  refine Go.st (T' := s₁) (g' := (mkF m 3 #[.val (.int p1), .val (.int p2), .val (.int p3), .val (.int p4), .val (.int p5), .unset, .unset, .unset, .unset, .unset, .unset, .unset, .unset] [(.int (p1 &&& (3 : Int32)))])) (fun t_ k_ => XS.iand X0.here hx rfl (hb hby at_2) rfl k_) ?_
  refine Go.st (T' := s₁) (g' := (mkF m 5 #[.val (.int p1), .val (.int p2), .val (.int p3), .val (.int p4), .val (.int p5), .val (.int (p1 &&& (3 : Int32))), .unset, .unset, .unset, .unset, .unset, .unset, .unset] [])) (fun t_ k_ => XS.istore X0.here hx rfl (hb hby at_3) rfl (l' := #[.val (.int p1), .val (.int p2), .val (.int p3), .val (.int p4), .val (.int p5), .val (.int (p1 &&& (3 : Int32))), .unset, .unset, .unset, .unset, .unset, .unset, .unset]) rfl k_) ?_
  obtain ⟨N, hD, hN⟩ := own_dx p1
  generalize e_nv : (p1 &&& (3 : Int32)) = nv
  rw [e_nv] at hD hN
  refine Go.st (T' := s₁) (g' := (mkF m 7 #[.val (.int p1), .val (.int p2), .val (.int p3), .val (.int p4), .val (.int p5), .val (.int nv), .unset, .unset, .unset, .unset, .unset, .unset, .unset] [(.int nv)])) (fun t_ k_ => XS.iload X0.here hx rfl (hb hby at_5) rfl k_) ?_
  refine Go.st (T' := s₁) (g' := (mkF m 8 #[.val (.int p1), .val (.int p2), .val (.int p3), .val (.int p4), .val (.int p5), .val (.int nv), .unset, .unset, .unset, .unset, .unset, .unset, .unset] [(.int (1 : Int32)), (.int nv)])) (fun t_ k_ => XS.iconst X0.here hx rfl (hb hby at_7) k_) ?_
  refine Go.st (T' := s₁) (g' := (mkF m 9 #[.val (.int p1), .val (.int p2), .val (.int p3), .val (.int p4), .val (.int p5), .val (.int nv), .unset, .unset, .unset, .unset, .unset, .unset, .unset] [(.int (nv + (1 : Int32)))])) (fun t_ k_ => XS.iadd X0.here hx rfl (hb hby at_8) rfl k_) ?_
  refine Go.st (T' := s₁) (g' := (mkF m 11 #[.val (.int p1), .val (.int p2), .val (.int p3), .val (.int p4), .val (.int p5), .val (.int nv), .val (.int (nv + (1 : Int32))), .unset, .unset, .unset, .unset, .unset, .unset] [])) (fun t_ k_ => XS.istore X0.here hx rfl (hb hby at_9) rfl (l' := #[.val (.int p1), .val (.int p2), .val (.int p3), .val (.int p4), .val (.int p5), .val (.int nv), .val (.int (nv + (1 : Int32))), .unset, .unset, .unset, .unset, .unset, .unset]) rfl k_) ?_
  refine goNew X0 hx hZ hown (hw _ (List.mem_of_getElem? (i := 0) rfl)) (hw _ (List.mem_of_getElem? (i := 1) rfl)) (hw _ (List.mem_of_getElem? (i := 2) rfl)) (hb hby at_11) (by decide) (by decide) fun T1 h1 oz gb1 X1 E1 A1 D1 => ?_
  have ge1 : n0 ≤ oz := gb1 ▸ sz0
  have sz1 : n0 ≤ h1.size := Nat.le_trans sz0 E1.1
  have F1_dimension : Fld Z h1 oz "com/example/utu/utu/check/Zone" "dimension" "I" (.int (0 : Int32)) := D1 (Or.inr (hw _ (List.mem_of_getElem? (i := 10) rfl))) (ty := .int) (by decide)
  have F1_bounds : Fld Z h1 oz "com/example/utu/utu/check/Zone" "bounds" "[J" .null := D1 (Or.inr (hw _ (List.mem_of_getElem? (i := 13) rfl))) (ty := (.array .long)) (by decide)
  show Go p e below _ T1 (mkF m 14 #[.val (.int p1), .val (.int p2), .val (.int p3), .val (.int p4), .val (.int p5), .val (.int nv), .val (.int (nv + (1 : Int32))), .unset, .unset, .unset, .unset, .unset, .unset] [(.ref oz)])
  refine Go.st (T' := T1) (g' := (mkF m 15 #[.val (.int p1), .val (.int p2), .val (.int p3), .val (.int p4), .val (.int p5), .val (.int nv), .val (.int (nv + (1 : Int32))), .unset, .unset, .unset, .unset, .unset, .unset] [(.ref oz), (.ref oz)])) (fun t_ k_ => XS.dup X1.here hx rfl (hb hby at_14) rfl rfl k_) ?_
  refine Go.st (T' := T1) (g' := (mkF m 17 #[.val (.int p1), .val (.int p2), .val (.int p3), .val (.int p4), .val (.int p5), .val (.int nv), .val (.int (nv + (1 : Int32))), .unset, .unset, .unset, .unset, .unset, .unset] [(.int nv), (.ref oz), (.ref oz)])) (fun t_ k_ => XS.iload X1.here hx rfl (hb hby at_15) rfl k_) ?_
  refine goCtor X1 hx hZ (y := (⟨"com/example/utu/utu/check/Zone", "<init>", "(I)V"⟩ : MethodName)) rfl hown (hw _ (List.mem_of_getElem? (i := 3) rfl)) (hw _ (List.mem_of_getElem? (i := 4) rfl)) (hw _ (List.mem_of_getElem? (i := 2) rfl)) (hw _ (List.mem_of_getElem? (i := 5) rfl)) (by decide) (rm1 l Z a0 hw [] n0 h1 oz nv N (.int (0 : Int32)) .null sz1 A1 F1_dimension F1_bounds ge1 (hD)) 1 (by decide) (by decide) (by rw [hml]; rfl) oz [(.int nv)] [(.ref oz)] (lenOf pd_fdc785a8 rfl) rfl rfl rfl (hb hby at_17) (by decide) (by decide) fun v2 T2 h2 X2 hq2 => ?_
  obtain ⟨bs, f0, rfl, K2c, p2_0, p2_1, p2_2, p2_3, p2_4, p2_5⟩ := hq2
  have f2_1 : Exa Z h2 oz "com/example/utu/utu/check/Zone" := A1.keep K2c
  have sz2 : n0 ≤ h2.size := Nat.le_trans sz1 K2c.1
  show Go p e below _ T2 (mkF m 20 #[.val (.int p1), .val (.int p2), .val (.int p3), .val (.int p4), .val (.int p5), .val (.int nv), .val (.int (nv + (1 : Int32))), .unset, .unset, .unset, .unset, .unset, .unset] [(.ref oz)])
  refine Go.st (T' := T2) (g' := (mkF m 22 #[.val (.int p1), .val (.int p2), .val (.int p3), .val (.int p4), .val (.int p5), .val (.int nv), .val (.int (nv + (1 : Int32))), .val (.ref oz), .unset, .unset, .unset, .unset, .unset] [])) (fun t_ k_ => XS.astore X2.here hx rfl (hb hby at_20) rfl rfl (l' := #[.val (.int p1), .val (.int p2), .val (.int p3), .val (.int p4), .val (.int p5), .val (.int nv), .val (.int (nv + (1 : Int32))), .val (.ref oz), .unset, .unset, .unset, .unset, .unset]) rfl k_) ?_
  refine Go.st (T' := T2) (g' := (mkF m 24 #[.val (.int p1), .val (.int p2), .val (.int p3), .val (.int p4), .val (.int p5), .val (.int nv), .val (.int (nv + (1 : Int32))), .val (.ref oz), .unset, .unset, .unset, .unset, .unset] [(.int nv)])) (fun t_ k_ => XS.iload X2.here hx rfl (hb hby at_22) rfl k_) ?_
  refine Go.st (T' := T2) (g' := (mkF m 25 #[.val (.int p1), .val (.int p2), .val (.int p3), .val (.int p4), .val (.int p5), .val (.int nv), .val (.int (nv + (1 : Int32))), .val (.ref oz), .unset, .unset, .unset, .unset, .unset] [(.int (1 : Int32)), (.int nv)])) (fun t_ k_ => XS.iconst X2.here hx rfl (hb hby at_24) k_) ?_
  have J35 : ∀ (fz : Nat → Int64) (T_J35 : State) (h_J35 : Heap), Stn p l e room_1 s m #[(.int p1), (.int p2), (.int p3), (.int p4), (.int p5)] below meth c n0 T_J35 h_J35 2 18 → n0 ≤ h_J35.size → Exa Z h_J35 oz "com/example/utu/utu/check/Zone" → Exa Z h_J35 bs "[J" → Fld Z h_J35 oz "com/example/utu/utu/check/Zone" "dimension" "I" (.int (nv + (1 : Int32))) → Fld Z h_J35 oz "com/example/utu/utu/check/Zone" "bounds" "[J" (.ref bs) → Ary Z h_J35 bs .long N (fun i => .long (fz i)) → n0 ≤ oz → n0 ≤ bs → Go p e below (PostW s n0 room_1.cells room_1.slots (Q0 Z n0 h0 p1 p2 p3 p4 p5)) T_J35 (mkF m 35 #[.val (.int p1), .val (.int p2), .val (.int p3), .val (.int p4), .val (.int p5), .val (.int nv), .val (.int (nv + (1 : Int32))), .val (.ref oz), .unset, .unset, .unset, .unset, .unset] []) := by
    intro fz T_J35 h_J35 X_J35 sz_J35 g0_J35 g1_J35 g2_J35 g3_J35 g4_J35 g5_J35 g6_J35
    refine Go.st (T' := T_J35) (g' := (mkF m 37 #[.val (.int p1), .val (.int p2), .val (.int p3), .val (.int p4), .val (.int p5), .val (.int nv), .val (.int (nv + (1 : Int32))), .val (.ref oz), .unset, .unset, .unset, .unset, .unset] [(.int nv)])) (fun t_ k_ => XS.iload X_J35.here hx rfl (hb hby at_35) rfl k_) ?_
    refine Go.st (T' := T_J35) (g' := (mkF m 38 #[.val (.int p1), .val (.int p2), .val (.int p3), .val (.int p4), .val (.int p5), .val (.int nv), .val (.int (nv + (1 : Int32))), .val (.ref oz), .unset, .unset, .unset, .unset, .unset] [(.int (2 : Int32)), (.int nv)])) (fun t_ k_ => XS.iconst X_J35.here hx rfl (hb hby at_37) k_) ?_
    have J48 : ∀ (fz : Nat → Int64) (T_J48 : State) (h_J48 : Heap), Stn p l e room_1 s m #[(.int p1), (.int p2), (.int p3), (.int p4), (.int p5)] below meth c n0 T_J48 h_J48 2 18 → n0 ≤ h_J48.size → Exa Z h_J48 oz "com/example/utu/utu/check/Zone" → Exa Z h_J48 bs "[J" → Fld Z h_J48 oz "com/example/utu/utu/check/Zone" "dimension" "I" (.int (nv + (1 : Int32))) → Fld Z h_J48 oz "com/example/utu/utu/check/Zone" "bounds" "[J" (.ref bs) → Ary Z h_J48 bs .long N (fun i => .long (fz i)) → n0 ≤ oz → n0 ≤ bs → Go p e below (PostW s n0 room_1.cells room_1.slots (Q0 Z n0 h0 p1 p2 p3 p4 p5)) T_J48 (mkF m 48 #[.val (.int p1), .val (.int p2), .val (.int p3), .val (.int p4), .val (.int p5), .val (.int nv), .val (.int (nv + (1 : Int32))), .val (.ref oz), .unset, .unset, .unset, .unset, .unset] []) := by
      intro fz T_J48 h_J48 X_J48 sz_J48 g0_J48 g1_J48 g2_J48 g3_J48 g4_J48 g5_J48 g6_J48
      refine Go.st (T' := T_J48) (g' := (mkF m 50 #[.val (.int p1), .val (.int p2), .val (.int p3), .val (.int p4), .val (.int p5), .val (.int nv), .val (.int (nv + (1 : Int32))), .val (.ref oz), .unset, .unset, .unset, .unset, .unset] [(.int nv)])) (fun t_ k_ => XS.iload X_J48.here hx rfl (hb hby at_48) rfl k_) ?_
      refine Go.st (T' := T_J48) (g' := (mkF m 51 #[.val (.int p1), .val (.int p2), .val (.int p3), .val (.int p4), .val (.int p5), .val (.int nv), .val (.int (nv + (1 : Int32))), .val (.ref oz), .unset, .unset, .unset, .unset, .unset] [(.int (3 : Int32)), (.int nv)])) (fun t_ k_ => XS.iconst X_J48.here hx rfl (hb hby at_50) k_) ?_
      have J61 : ∀ (fz : Nat → Int64) (T_J61 : State) (h_J61 : Heap), Stn p l e room_1 s m #[(.int p1), (.int p2), (.int p3), (.int p4), (.int p5)] below meth c n0 T_J61 h_J61 2 18 → n0 ≤ h_J61.size → Exa Z h_J61 oz "com/example/utu/utu/check/Zone" → Exa Z h_J61 bs "[J" → Fld Z h_J61 oz "com/example/utu/utu/check/Zone" "dimension" "I" (.int (nv + (1 : Int32))) → Fld Z h_J61 oz "com/example/utu/utu/check/Zone" "bounds" "[J" (.ref bs) → Ary Z h_J61 bs .long N (fun i => .long (fz i)) → n0 ≤ oz → n0 ≤ bs → Go p e below (PostW s n0 room_1.cells room_1.slots (Q0 Z n0 h0 p1 p2 p3 p4 p5)) T_J61 (mkF m 61 #[.val (.int p1), .val (.int p2), .val (.int p3), .val (.int p4), .val (.int p5), .val (.int nv), .val (.int (nv + (1 : Int32))), .val (.ref oz), .unset, .unset, .unset, .unset, .unset] []) := by
        intro fz T_J61 h_J61 X_J61 sz_J61 g0_J61 g1_J61 g2_J61 g3_J61 g4_J61 g5_J61 g6_J61
        refine Go.st (T' := T_J61) (g' := (mkF m 62 #[.val (.int p1), .val (.int p2), .val (.int p3), .val (.int p4), .val (.int p5), .val (.int nv), .val (.int (nv + (1 : Int32))), .val (.ref oz), .unset, .unset, .unset, .unset, .unset] [(.int p1)])) (fun t_ k_ => XS.iloadN X_J61.here hx rfl (hb hby at_61) rfl k_) ?_
        refine Go.st (T' := T_J61) (g' := (mkF m 63 #[.val (.int p1), .val (.int p2), .val (.int p3), .val (.int p4), .val (.int p5), .val (.int nv), .val (.int (nv + (1 : Int32))), .val (.ref oz), .unset, .unset, .unset, .unset, .unset] [(.int (2 : Int32)), (.int p1)])) (fun t_ k_ => XS.iconst X_J61.here hx rfl (hb hby at_62) k_) ?_
        refine Go.st (T' := T_J61) (g' := (mkF m 64 #[.val (.int p1), .val (.int p2), .val (.int p3), .val (.int p4), .val (.int p5), .val (.int nv), .val (.int (nv + (1 : Int32))), .val (.ref oz), .unset, .unset, .unset, .unset, .unset] [(.int ((p1.toUInt32 >>> ((2 : Int32) &&& 31).toUInt32).toInt32))])) (fun t_ k_ => XS.iushr X_J61.here hx rfl (hb hby at_63) rfl k_) ?_
        refine Go.st (T' := T_J61) (g' := (mkF m 65 #[.val (.int p1), .val (.int p2), .val (.int p3), .val (.int p4), .val (.int p5), .val (.int nv), .val (.int (nv + (1 : Int32))), .val (.ref oz), .unset, .unset, .unset, .unset, .unset] [(.int (3 : Int32)), (.int ((p1.toUInt32 >>> ((2 : Int32) &&& 31).toUInt32).toInt32))])) (fun t_ k_ => XS.iconst X_J61.here hx rfl (hb hby at_64) k_) ?_
        refine Go.st (T' := T_J61) (g' := (mkF m 66 #[.val (.int p1), .val (.int p2), .val (.int p3), .val (.int p4), .val (.int p5), .val (.int nv), .val (.int (nv + (1 : Int32))), .val (.ref oz), .unset, .unset, .unset, .unset, .unset] [(.int (((p1.toUInt32 >>> ((2 : Int32) &&& 31).toUInt32).toInt32) &&& (3 : Int32)))])) (fun t_ k_ => XS.iand X_J61.here hx rfl (hb hby at_65) rfl k_) ?_
        refine Go.st (T' := T_J61) (g' := (mkF m 68 #[.val (.int p1), .val (.int p2), .val (.int p3), .val (.int p4), .val (.int p5), .val (.int nv), .val (.int (nv + (1 : Int32))), .val (.ref oz), .unset, .unset, .unset, .unset, .unset] [(.int (nv + (1 : Int32))), (.int (((p1.toUInt32 >>> ((2 : Int32) &&& 31).toUInt32).toInt32) &&& (3 : Int32)))])) (fun t_ k_ => XS.iload X_J61.here hx rfl (hb hby at_66) rfl k_) ?_
        refine Go.st (T' := T_J61) (g' := (mkF m 69 #[.val (.int p1), .val (.int p2), .val (.int p3), .val (.int p4), .val (.int p5), .val (.int nv), .val (.int (nv + (1 : Int32))), .val (.ref oz), .unset, .unset, .unset, .unset, .unset] [(.int ((((p1.toUInt32 >>> ((2 : Int32) &&& 31).toUInt32).toInt32) &&& (3 : Int32)) % (nv + (1 : Int32))))])) (fun t_ k_ => own_irem X_J61.here hx (hb hby at_68) (own_dnz hD) k_) ?_
        refine Go.st (T' := T_J61) (g' := (mkF m 71 #[.val (.int p1), .val (.int p2), .val (.int p3), .val (.int p4), .val (.int p5), .val (.int nv), .val (.int (nv + (1 : Int32))), .val (.ref oz), .val (.int ((((p1.toUInt32 >>> ((2 : Int32) &&& 31).toUInt32).toInt32) &&& (3 : Int32)) % (nv + (1 : Int32)))), .unset, .unset, .unset, .unset] [])) (fun t_ k_ => XS.istore X_J61.here hx rfl (hb hby at_69) rfl (l' := #[.val (.int p1), .val (.int p2), .val (.int p3), .val (.int p4), .val (.int p5), .val (.int nv), .val (.int (nv + (1 : Int32))), .val (.ref oz), .val (.int ((((p1.toUInt32 >>> ((2 : Int32) &&& 31).toUInt32).toInt32) &&& (3 : Int32)) % (nv + (1 : Int32)))), .unset, .unset, .unset, .unset]) rfl k_) ?_
        refine Go.st (T' := T_J61) (g' := (mkF m 72 #[.val (.int p1), .val (.int p2), .val (.int p3), .val (.int p4), .val (.int p5), .val (.int nv), .val (.int (nv + (1 : Int32))), .val (.ref oz), .val (.int ((((p1.toUInt32 >>> ((2 : Int32) &&& 31).toUInt32).toInt32) &&& (3 : Int32)) % (nv + (1 : Int32)))), .unset, .unset, .unset, .unset] [(.int p1)])) (fun t_ k_ => XS.iloadN X_J61.here hx rfl (hb hby at_71) rfl k_) ?_
        refine Go.st (T' := T_J61) (g' := (mkF m 73 #[.val (.int p1), .val (.int p2), .val (.int p3), .val (.int p4), .val (.int p5), .val (.int nv), .val (.int (nv + (1 : Int32))), .val (.ref oz), .val (.int ((((p1.toUInt32 >>> ((2 : Int32) &&& 31).toUInt32).toInt32) &&& (3 : Int32)) % (nv + (1 : Int32)))), .unset, .unset, .unset, .unset] [(.int (4 : Int32)), (.int p1)])) (fun t_ k_ => XS.iconst X_J61.here hx rfl (hb hby at_72) k_) ?_
        refine Go.st (T' := T_J61) (g' := (mkF m 74 #[.val (.int p1), .val (.int p2), .val (.int p3), .val (.int p4), .val (.int p5), .val (.int nv), .val (.int (nv + (1 : Int32))), .val (.ref oz), .val (.int ((((p1.toUInt32 >>> ((2 : Int32) &&& 31).toUInt32).toInt32) &&& (3 : Int32)) % (nv + (1 : Int32)))), .unset, .unset, .unset, .unset] [(.int ((p1.toUInt32 >>> ((4 : Int32) &&& 31).toUInt32).toInt32))])) (fun t_ k_ => XS.iushr X_J61.here hx rfl (hb hby at_73) rfl k_) ?_
        refine Go.st (T' := T_J61) (g' := (mkF m 75 #[.val (.int p1), .val (.int p2), .val (.int p3), .val (.int p4), .val (.int p5), .val (.int nv), .val (.int (nv + (1 : Int32))), .val (.ref oz), .val (.int ((((p1.toUInt32 >>> ((2 : Int32) &&& 31).toUInt32).toInt32) &&& (3 : Int32)) % (nv + (1 : Int32)))), .unset, .unset, .unset, .unset] [(.int (3 : Int32)), (.int ((p1.toUInt32 >>> ((4 : Int32) &&& 31).toUInt32).toInt32))])) (fun t_ k_ => XS.iconst X_J61.here hx rfl (hb hby at_74) k_) ?_
        refine Go.st (T' := T_J61) (g' := (mkF m 76 #[.val (.int p1), .val (.int p2), .val (.int p3), .val (.int p4), .val (.int p5), .val (.int nv), .val (.int (nv + (1 : Int32))), .val (.ref oz), .val (.int ((((p1.toUInt32 >>> ((2 : Int32) &&& 31).toUInt32).toInt32) &&& (3 : Int32)) % (nv + (1 : Int32)))), .unset, .unset, .unset, .unset] [(.int (((p1.toUInt32 >>> ((4 : Int32) &&& 31).toUInt32).toInt32) &&& (3 : Int32)))])) (fun t_ k_ => XS.iand X_J61.here hx rfl (hb hby at_75) rfl k_) ?_
        refine Go.st (T' := T_J61) (g' := (mkF m 78 #[.val (.int p1), .val (.int p2), .val (.int p3), .val (.int p4), .val (.int p5), .val (.int nv), .val (.int (nv + (1 : Int32))), .val (.ref oz), .val (.int ((((p1.toUInt32 >>> ((2 : Int32) &&& 31).toUInt32).toInt32) &&& (3 : Int32)) % (nv + (1 : Int32)))), .unset, .unset, .unset, .unset] [(.int (nv + (1 : Int32))), (.int (((p1.toUInt32 >>> ((4 : Int32) &&& 31).toUInt32).toInt32) &&& (3 : Int32)))])) (fun t_ k_ => XS.iload X_J61.here hx rfl (hb hby at_76) rfl k_) ?_
        refine Go.st (T' := T_J61) (g' := (mkF m 79 #[.val (.int p1), .val (.int p2), .val (.int p3), .val (.int p4), .val (.int p5), .val (.int nv), .val (.int (nv + (1 : Int32))), .val (.ref oz), .val (.int ((((p1.toUInt32 >>> ((2 : Int32) &&& 31).toUInt32).toInt32) &&& (3 : Int32)) % (nv + (1 : Int32)))), .unset, .unset, .unset, .unset] [(.int ((((p1.toUInt32 >>> ((4 : Int32) &&& 31).toUInt32).toInt32) &&& (3 : Int32)) % (nv + (1 : Int32))))])) (fun t_ k_ => own_irem X_J61.here hx (hb hby at_78) (own_dnz hD) k_) ?_
        refine Go.st (T' := T_J61) (g' := (mkF m 81 #[.val (.int p1), .val (.int p2), .val (.int p3), .val (.int p4), .val (.int p5), .val (.int nv), .val (.int (nv + (1 : Int32))), .val (.ref oz), .val (.int ((((p1.toUInt32 >>> ((2 : Int32) &&& 31).toUInt32).toInt32) &&& (3 : Int32)) % (nv + (1 : Int32)))), .val (.int ((((p1.toUInt32 >>> ((4 : Int32) &&& 31).toUInt32).toInt32) &&& (3 : Int32)) % (nv + (1 : Int32)))), .unset, .unset, .unset] [])) (fun t_ k_ => XS.istore X_J61.here hx rfl (hb hby at_79) rfl (l' := #[.val (.int p1), .val (.int p2), .val (.int p3), .val (.int p4), .val (.int p5), .val (.int nv), .val (.int (nv + (1 : Int32))), .val (.ref oz), .val (.int ((((p1.toUInt32 >>> ((2 : Int32) &&& 31).toUInt32).toInt32) &&& (3 : Int32)) % (nv + (1 : Int32)))), .val (.int ((((p1.toUInt32 >>> ((4 : Int32) &&& 31).toUInt32).toInt32) &&& (3 : Int32)) % (nv + (1 : Int32)))), .unset, .unset, .unset]) rfl k_) ?_
        refine Go.st (T' := T_J61) (g' := (mkF m 82 #[.val (.int p1), .val (.int p2), .val (.int p3), .val (.int p4), .val (.int p5), .val (.int nv), .val (.int (nv + (1 : Int32))), .val (.ref oz), .val (.int ((((p1.toUInt32 >>> ((2 : Int32) &&& 31).toUInt32).toInt32) &&& (3 : Int32)) % (nv + (1 : Int32)))), .val (.int ((((p1.toUInt32 >>> ((4 : Int32) &&& 31).toUInt32).toInt32) &&& (3 : Int32)) % (nv + (1 : Int32)))), .unset, .unset, .unset] [(.int p1)])) (fun t_ k_ => XS.iloadN X_J61.here hx rfl (hb hby at_81) rfl k_) ?_
        refine Go.st (T' := T_J61) (g' := (mkF m 84 #[.val (.int p1), .val (.int p2), .val (.int p3), .val (.int p4), .val (.int p5), .val (.int nv), .val (.int (nv + (1 : Int32))), .val (.ref oz), .val (.int ((((p1.toUInt32 >>> ((2 : Int32) &&& 31).toUInt32).toInt32) &&& (3 : Int32)) % (nv + (1 : Int32)))), .val (.int ((((p1.toUInt32 >>> ((4 : Int32) &&& 31).toUInt32).toInt32) &&& (3 : Int32)) % (nv + (1 : Int32)))), .unset, .unset, .unset] [(.int (6 : Int32)), (.int p1)])) (fun t_ k_ => XS.bipush X_J61.here hx rfl (hb hby at_82) k_) ?_
        refine Go.st (T' := T_J61) (g' := (mkF m 85 #[.val (.int p1), .val (.int p2), .val (.int p3), .val (.int p4), .val (.int p5), .val (.int nv), .val (.int (nv + (1 : Int32))), .val (.ref oz), .val (.int ((((p1.toUInt32 >>> ((2 : Int32) &&& 31).toUInt32).toInt32) &&& (3 : Int32)) % (nv + (1 : Int32)))), .val (.int ((((p1.toUInt32 >>> ((4 : Int32) &&& 31).toUInt32).toInt32) &&& (3 : Int32)) % (nv + (1 : Int32)))), .unset, .unset, .unset] [(.int ((p1.toUInt32 >>> ((6 : Int32) &&& 31).toUInt32).toInt32))])) (fun t_ k_ => XS.iushr X_J61.here hx rfl (hb hby at_84) rfl k_) ?_
        refine Go.st (T' := T_J61) (g' := (mkF m 86 #[.val (.int p1), .val (.int p2), .val (.int p3), .val (.int p4), .val (.int p5), .val (.int nv), .val (.int (nv + (1 : Int32))), .val (.ref oz), .val (.int ((((p1.toUInt32 >>> ((2 : Int32) &&& 31).toUInt32).toInt32) &&& (3 : Int32)) % (nv + (1 : Int32)))), .val (.int ((((p1.toUInt32 >>> ((4 : Int32) &&& 31).toUInt32).toInt32) &&& (3 : Int32)) % (nv + (1 : Int32)))), .unset, .unset, .unset] [(.int (1 : Int32)), (.int ((p1.toUInt32 >>> ((6 : Int32) &&& 31).toUInt32).toInt32))])) (fun t_ k_ => XS.iconst X_J61.here hx rfl (hb hby at_85) k_) ?_
        refine Go.st (T' := T_J61) (g' := (mkF m 87 #[.val (.int p1), .val (.int p2), .val (.int p3), .val (.int p4), .val (.int p5), .val (.int nv), .val (.int (nv + (1 : Int32))), .val (.ref oz), .val (.int ((((p1.toUInt32 >>> ((2 : Int32) &&& 31).toUInt32).toInt32) &&& (3 : Int32)) % (nv + (1 : Int32)))), .val (.int ((((p1.toUInt32 >>> ((4 : Int32) &&& 31).toUInt32).toInt32) &&& (3 : Int32)) % (nv + (1 : Int32)))), .unset, .unset, .unset] [(.int (((p1.toUInt32 >>> ((6 : Int32) &&& 31).toUInt32).toInt32) &&& (1 : Int32)))])) (fun t_ k_ => XS.iand X_J61.here hx rfl (hb hby at_86) rfl k_) ?_
        have J95_3 : ∀ (sb : Int32), sb = (if (((p1.toUInt32 >>> ((6 : Int32) &&& 31).toUInt32).toInt32) &&& (1 : Int32)) = (0 : Int32) then (0 : Int32) else (1 : Int32)) → Go p e below (PostW s n0 room_1.cells room_1.slots (Q0 Z n0 h0 p1 p2 p3 p4 p5)) T_J61 (mkF m 95 #[.val (.int p1), .val (.int p2), .val (.int p3), .val (.int p4), .val (.int p5), .val (.int nv), .val (.int (nv + (1 : Int32))), .val (.ref oz), .val (.int ((((p1.toUInt32 >>> ((2 : Int32) &&& 31).toUInt32).toInt32) &&& (3 : Int32)) % (nv + (1 : Int32)))), .val (.int ((((p1.toUInt32 >>> ((4 : Int32) &&& 31).toUInt32).toInt32) &&& (3 : Int32)) % (nv + (1 : Int32)))), .unset, .unset, .unset] [(.int sb)]) := by
          intro sb h_sb
          refine Go.st (T' := T_J61) (g' := (mkF m 97 #[.val (.int p1), .val (.int p2), .val (.int p3), .val (.int p4), .val (.int p5), .val (.int nv), .val (.int (nv + (1 : Int32))), .val (.ref oz), .val (.int ((((p1.toUInt32 >>> ((2 : Int32) &&& 31).toUInt32).toInt32) &&& (3 : Int32)) % (nv + (1 : Int32)))), .val (.int ((((p1.toUInt32 >>> ((4 : Int32) &&& 31).toUInt32).toInt32) &&& (3 : Int32)) % (nv + (1 : Int32)))), .val (.int sb), .unset, .unset] [])) (fun t_ k_ => XS.istore X_J61.here hx rfl (hb hby at_95) rfl (l' := #[.val (.int p1), .val (.int p2), .val (.int p3), .val (.int p4), .val (.int p5), .val (.int nv), .val (.int (nv + (1 : Int32))), .val (.ref oz), .val (.int ((((p1.toUInt32 >>> ((2 : Int32) &&& 31).toUInt32).toInt32) &&& (3 : Int32)) % (nv + (1 : Int32)))), .val (.int ((((p1.toUInt32 >>> ((4 : Int32) &&& 31).toUInt32).toInt32) &&& (3 : Int32)) % (nv + (1 : Int32)))), .val (.int sb), .unset, .unset]) rfl k_) ?_
          refine Go.st (T' := T_J61) (g' := (mkF m 99 #[.val (.int p1), .val (.int p2), .val (.int p3), .val (.int p4), .val (.int p5), .val (.int nv), .val (.int (nv + (1 : Int32))), .val (.ref oz), .val (.int ((((p1.toUInt32 >>> ((2 : Int32) &&& 31).toUInt32).toInt32) &&& (3 : Int32)) % (nv + (1 : Int32)))), .val (.int ((((p1.toUInt32 >>> ((4 : Int32) &&& 31).toUInt32).toInt32) &&& (3 : Int32)) % (nv + (1 : Int32)))), .val (.int sb), .unset, .unset] [(.ref oz)])) (fun t_ k_ => XS.aload X_J61.here hx rfl (hb hby at_97) rfl rfl k_) ?_
          refine Go.st (T' := T_J61) (g' := (mkF m 101 #[.val (.int p1), .val (.int p2), .val (.int p3), .val (.int p4), .val (.int p5), .val (.int nv), .val (.int (nv + (1 : Int32))), .val (.ref oz), .val (.int ((((p1.toUInt32 >>> ((2 : Int32) &&& 31).toUInt32).toInt32) &&& (3 : Int32)) % (nv + (1 : Int32)))), .val (.int ((((p1.toUInt32 >>> ((4 : Int32) &&& 31).toUInt32).toInt32) &&& (3 : Int32)) % (nv + (1 : Int32)))), .val (.int sb), .unset, .unset] [(.int ((((p1.toUInt32 >>> ((2 : Int32) &&& 31).toUInt32).toInt32) &&& (3 : Int32)) % (nv + (1 : Int32)))), (.ref oz)])) (fun t_ k_ => XS.iload X_J61.here hx rfl (hb hby at_99) rfl k_) ?_
          refine Go.st (T' := T_J61) (g' := (mkF m 103 #[.val (.int p1), .val (.int p2), .val (.int p3), .val (.int p4), .val (.int p5), .val (.int nv), .val (.int (nv + (1 : Int32))), .val (.ref oz), .val (.int ((((p1.toUInt32 >>> ((2 : Int32) &&& 31).toUInt32).toInt32) &&& (3 : Int32)) % (nv + (1 : Int32)))), .val (.int ((((p1.toUInt32 >>> ((4 : Int32) &&& 31).toUInt32).toInt32) &&& (3 : Int32)) % (nv + (1 : Int32)))), .val (.int sb), .unset, .unset] [(.int ((((p1.toUInt32 >>> ((4 : Int32) &&& 31).toUInt32).toInt32) &&& (3 : Int32)) % (nv + (1 : Int32)))), (.int ((((p1.toUInt32 >>> ((2 : Int32) &&& 31).toUInt32).toInt32) &&& (3 : Int32)) % (nv + (1 : Int32)))), (.ref oz)])) (fun t_ k_ => XS.iload X_J61.here hx rfl (hb hby at_101) rfl k_) ?_
          refine Go.st (T' := T_J61) (g' := (mkF m 105 #[.val (.int p1), .val (.int p2), .val (.int p3), .val (.int p4), .val (.int p5), .val (.int nv), .val (.int (nv + (1 : Int32))), .val (.ref oz), .val (.int ((((p1.toUInt32 >>> ((2 : Int32) &&& 31).toUInt32).toInt32) &&& (3 : Int32)) % (nv + (1 : Int32)))), .val (.int ((((p1.toUInt32 >>> ((4 : Int32) &&& 31).toUInt32).toInt32) &&& (3 : Int32)) % (nv + (1 : Int32)))), .val (.int sb), .unset, .unset] [(.int p5), (.int ((((p1.toUInt32 >>> ((4 : Int32) &&& 31).toUInt32).toInt32) &&& (3 : Int32)) % (nv + (1 : Int32)))), (.int ((((p1.toUInt32 >>> ((2 : Int32) &&& 31).toUInt32).toInt32) &&& (3 : Int32)) % (nv + (1 : Int32)))), (.ref oz)])) (fun t_ k_ => XS.iload X_J61.here hx rfl (hb hby at_103) rfl k_) ?_
          refine Go.st (T' := T_J61) (g' := (mkF m 106 #[.val (.int p1), .val (.int p2), .val (.int p3), .val (.int p4), .val (.int p5), .val (.int nv), .val (.int (nv + (1 : Int32))), .val (.ref oz), .val (.int ((((p1.toUInt32 >>> ((2 : Int32) &&& 31).toUInt32).toInt32) &&& (3 : Int32)) % (nv + (1 : Int32)))), .val (.int ((((p1.toUInt32 >>> ((4 : Int32) &&& 31).toUInt32).toInt32) &&& (3 : Int32)) % (nv + (1 : Int32)))), .val (.int sb), .unset, .unset] [(.long (p5.toInt64)), (.int ((((p1.toUInt32 >>> ((4 : Int32) &&& 31).toUInt32).toInt32) &&& (3 : Int32)) % (nv + (1 : Int32)))), (.int ((((p1.toUInt32 >>> ((2 : Int32) &&& 31).toUInt32).toInt32) &&& (3 : Int32)) % (nv + (1 : Int32)))), (.ref oz)])) (fun t_ k_ => XS.i2l X_J61.here hx rfl (hb hby at_105) rfl k_) ?_
          refine Go.st (T' := T_J61) (g' := (mkF m 108 #[.val (.int p1), .val (.int p2), .val (.int p3), .val (.int p4), .val (.int p5), .val (.int nv), .val (.int (nv + (1 : Int32))), .val (.ref oz), .val (.int ((((p1.toUInt32 >>> ((2 : Int32) &&& 31).toUInt32).toInt32) &&& (3 : Int32)) % (nv + (1 : Int32)))), .val (.int ((((p1.toUInt32 >>> ((4 : Int32) &&& 31).toUInt32).toInt32) &&& (3 : Int32)) % (nv + (1 : Int32)))), .val (.int sb), .unset, .unset] [(.int sb), (.long (p5.toInt64)), (.int ((((p1.toUInt32 >>> ((4 : Int32) &&& 31).toUInt32).toInt32) &&& (3 : Int32)) % (nv + (1 : Int32)))), (.int ((((p1.toUInt32 >>> ((2 : Int32) &&& 31).toUInt32).toInt32) &&& (3 : Int32)) % (nv + (1 : Int32)))), (.ref oz)])) (fun t_ k_ => XS.iload X_J61.here hx rfl (hb hby at_106) rfl k_) ?_
          refine goStatic X_J61 hx hZ (y := (⟨"com/example/utu/utu/check/Zone", "bound", "(JZ)J"⟩ : MethodName)) hown (hw _ (List.mem_of_getElem? (i := 18) rfl)) (hw _ (List.mem_of_getElem? (i := 19) rfl)) (hw _ (List.mem_of_getElem? (i := 2) rfl)) (hw _ (List.mem_of_getElem? (i := 20) rfl)) (by decide) (rm4 l Z a0 hw [] n0 h_J61 (p5.toInt64) sb sz_J61) 3 (by decide) (by decide) (by rw [hml]; rfl) [(.long (p5.toInt64)), (.int sb)] [(.int ((((p1.toUInt32 >>> ((4 : Int32) &&& 31).toUInt32).toInt32) &&& (3 : Int32)) % (nv + (1 : Int32)))), (.int ((((p1.toUInt32 >>> ((2 : Int32) &&& 31).toUInt32).toInt32) &&& (3 : Int32)) % (nv + (1 : Int32)))), (.ref oz)] (lenOf pd_705eb782 rfl) rfl rfl rfl (hb hby at_108) (by decide) (by decide) fun v4 T4 h4 X4 hq4 => ?_
          obtain ⟨r_4, rfl, eh4⟩ := hq4
          rw [eh4] at X4
          show Go p e below _ T4 (mkF m 111 #[.val (.int p1), .val (.int p2), .val (.int p3), .val (.int p4), .val (.int p5), .val (.int nv), .val (.int (nv + (1 : Int32))), .val (.ref oz), .val (.int ((((p1.toUInt32 >>> ((2 : Int32) &&& 31).toUInt32).toInt32) &&& (3 : Int32)) % (nv + (1 : Int32)))), .val (.int ((((p1.toUInt32 >>> ((4 : Int32) &&& 31).toUInt32).toInt32) &&& (3 : Int32)) % (nv + (1 : Int32)))), .val (.int sb), .unset, .unset] [(.long r_4), (.int ((((p1.toUInt32 >>> ((4 : Int32) &&& 31).toUInt32).toInt32) &&& (3 : Int32)) % (nv + (1 : Int32)))), (.int ((((p1.toUInt32 >>> ((2 : Int32) &&& 31).toUInt32).toInt32) &&& (3 : Int32)) % (nv + (1 : Int32)))), (.ref oz)])
          refine goVirtS X4 hx hZ (y := (⟨"com/example/utu/utu/check/Zone", "constrain", "(IIJ)Z"⟩ : MethodName)) hown (hw _ (List.mem_of_getElem? (i := 21) rfl)) (hw _ (List.mem_of_getElem? (i := 22) rfl)) (hw _ (List.mem_of_getElem? (i := 24) rfl)) (hw _ (List.mem_of_getElem? (i := 23) rfl)) (hw _ (List.mem_of_getElem? (i := 2) rfl)) (hw _ (List.mem_of_getElem? (i := 25) rfl)) (by decide) g0_J61 (rm5 l Z a0 hw [] n0 h_J61 oz ((((p1.toUInt32 >>> ((2 : Int32) &&& 31).toUInt32).toInt32) &&& (3 : Int32)) % (nv + (1 : Int32))) ((((p1.toUInt32 >>> ((4 : Int32) &&& 31).toUInt32).toInt32) &&& (3 : Int32)) % (nv + (1 : Int32))) r_4 (nv + (1 : Int32)) bs N fz sz_J61 g0_J61 g1_J61 g2_J61 g3_J61 g4_J61 g6_J61 (hD) (own_rx hD) (own_rx hD)) 0 (by decide) (by decide) (by rw [hml]; rfl) [(.int ((((p1.toUInt32 >>> ((2 : Int32) &&& 31).toUInt32).toInt32) &&& (3 : Int32)) % (nv + (1 : Int32)))), (.int ((((p1.toUInt32 >>> ((4 : Int32) &&& 31).toUInt32).toInt32) &&& (3 : Int32)) % (nv + (1 : Int32)))), (.long r_4)] [] (lenOf pd_5b372460 rfl) rfl rfl rfl (hb hby at_111) (by decide) (by decide) fun v5 T5 h5 X5 hq5 => ?_
          obtain ⟨r_5, f3, rfl, K5c, p5_0⟩ := hq5
          have f5_2 : Exa Z h5 oz "com/example/utu/utu/check/Zone" := g0_J61.keep K5c
          have f5_3 : Exa Z h5 bs "[J" := g1_J61.keep K5c
          have f5_4 : Fld Z h5 oz "com/example/utu/utu/check/Zone" "dimension" "I" (.int (nv + (1 : Int32))) := g2_J61.keep K5c (ninS (ne_exa g0_J61 g1_J61 (by decide)) nin0)
          have f5_5 : Fld Z h5 oz "com/example/utu/utu/check/Zone" "bounds" "[J" (.ref bs) := g3_J61.keep K5c (ninS (ne_exa g0_J61 g1_J61 (by decide)) nin0)
          have sz5 : n0 ≤ h5.size := Nat.le_trans sz_J61 K5c.1
          show Go p e below _ T5 (mkF m 114 #[.val (.int p1), .val (.int p2), .val (.int p3), .val (.int p4), .val (.int p5), .val (.int nv), .val (.int (nv + (1 : Int32))), .val (.ref oz), .val (.int ((((p1.toUInt32 >>> ((2 : Int32) &&& 31).toUInt32).toInt32) &&& (3 : Int32)) % (nv + (1 : Int32)))), .val (.int ((((p1.toUInt32 >>> ((4 : Int32) &&& 31).toUInt32).toInt32) &&& (3 : Int32)) % (nv + (1 : Int32)))), .val (.int sb), .unset, .unset] [(.int r_5)])
          refine Go.st (T' := T5) (g' := (mkF m 115 #[.val (.int p1), .val (.int p2), .val (.int p3), .val (.int p4), .val (.int p5), .val (.int nv), .val (.int (nv + (1 : Int32))), .val (.ref oz), .val (.int ((((p1.toUInt32 >>> ((2 : Int32) &&& 31).toUInt32).toInt32) &&& (3 : Int32)) % (nv + (1 : Int32)))), .val (.int ((((p1.toUInt32 >>> ((4 : Int32) &&& 31).toUInt32).toInt32) &&& (3 : Int32)) % (nv + (1 : Int32)))), .val (.int sb), .unset, .unset] [])) (fun t_ k_ => XS.pop X5.here hx rfl (hb hby at_114) rfl rfl k_) ?_
          refine Go.st (T' := T5) (g' := (mkF m 117 #[.val (.int p1), .val (.int p2), .val (.int p3), .val (.int p4), .val (.int p5), .val (.int nv), .val (.int (nv + (1 : Int32))), .val (.ref oz), .val (.int ((((p1.toUInt32 >>> ((2 : Int32) &&& 31).toUInt32).toInt32) &&& (3 : Int32)) % (nv + (1 : Int32)))), .val (.int ((((p1.toUInt32 >>> ((4 : Int32) &&& 31).toUInt32).toInt32) &&& (3 : Int32)) % (nv + (1 : Int32)))), .val (.int sb), .unset, .unset] [(.int (16 : Int32))])) (fun t_ k_ => XS.bipush X5.here hx rfl (hb hby at_115) k_) ?_
          refine goNewA (aty := .long) X5 hx hZ (hw _ (List.mem_of_getElem? (i := 11) rfl)) (hb hby at_117) (by decide) (cap := 16) (by decide) (by decide) (by decide) (by decide) (ad := "[J") (by decide) fun T6 h6 o1 gb6 X6 E6 A6 B6 => ?_
          have ge6 : n0 ≤ o1 := gb6 ▸ sz5
          have ne6_oz : oz ≠ o1 := gb6 ▸ Nat.ne_of_lt f5_2.lt
          have ne6_bs : bs ≠ o1 := gb6 ▸ Nat.ne_of_lt f5_3.lt
          have f6_2 : Exa Z h6 oz "com/example/utu/utu/check/Zone" := f5_2.ext E6
          have f6_3 : Exa Z h6 bs "[J" := f5_3.ext E6
          have f6_4 : Fld Z h6 oz "com/example/utu/utu/check/Zone" "dimension" "I" (.int (nv + (1 : Int32))) := f5_4.ext E6
          have f6_5 : Fld Z h6 oz "com/example/utu/utu/check/Zone" "bounds" "[J" (.ref bs) := f5_5.ext E6
          have f6_6 : Ary Z h6 bs .long N (fun i => .long (f3 i)) := p5_0.ext E6
          have sz6 : n0 ≤ h6.size := Nat.le_trans sz5 E6.1
          have B6' : Ary Z h6 o1 .long 16 (fun _ => .long 0) := B6
          show Go p e below _ T6 (mkF m 119 #[.val (.int p1), .val (.int p2), .val (.int p3), .val (.int p4), .val (.int p5), .val (.int nv), .val (.int (nv + (1 : Int32))), .val (.ref oz), .val (.int ((((p1.toUInt32 >>> ((2 : Int32) &&& 31).toUInt32).toInt32) &&& (3 : Int32)) % (nv + (1 : Int32)))), .val (.int ((((p1.toUInt32 >>> ((4 : Int32) &&& 31).toUInt32).toInt32) &&& (3 : Int32)) % (nv + (1 : Int32)))), .val (.int sb), .unset, .unset] [(.ref o1)])
          refine Go.st (T' := T6) (g' := (mkF m 121 #[.val (.int p1), .val (.int p2), .val (.int p3), .val (.int p4), .val (.int p5), .val (.int nv), .val (.int (nv + (1 : Int32))), .val (.ref oz), .val (.int ((((p1.toUInt32 >>> ((2 : Int32) &&& 31).toUInt32).toInt32) &&& (3 : Int32)) % (nv + (1 : Int32)))), .val (.int ((((p1.toUInt32 >>> ((4 : Int32) &&& 31).toUInt32).toInt32) &&& (3 : Int32)) % (nv + (1 : Int32)))), .val (.int sb), .val (.ref o1), .unset] [])) (fun t_ k_ => XS.astore X6.here hx rfl (hb hby at_119) rfl rfl (l' := #[.val (.int p1), .val (.int p2), .val (.int p3), .val (.int p4), .val (.int p5), .val (.int nv), .val (.int (nv + (1 : Int32))), .val (.ref oz), .val (.int ((((p1.toUInt32 >>> ((2 : Int32) &&& 31).toUInt32).toInt32) &&& (3 : Int32)) % (nv + (1 : Int32)))), .val (.int ((((p1.toUInt32 >>> ((4 : Int32) &&& 31).toUInt32).toInt32) &&& (3 : Int32)) % (nv + (1 : Int32)))), .val (.int sb), .val (.ref o1), .unset]) rfl k_) ?_
          refine Go.st (T' := T6) (g' := (mkF m 123 #[.val (.int p1), .val (.int p2), .val (.int p3), .val (.int p4), .val (.int p5), .val (.int nv), .val (.int (nv + (1 : Int32))), .val (.ref oz), .val (.int ((((p1.toUInt32 >>> ((2 : Int32) &&& 31).toUInt32).toInt32) &&& (3 : Int32)) % (nv + (1 : Int32)))), .val (.int ((((p1.toUInt32 >>> ((4 : Int32) &&& 31).toUInt32).toInt32) &&& (3 : Int32)) % (nv + (1 : Int32)))), .val (.int sb), .val (.ref o1), .unset] [(.int (16 : Int32))])) (fun t_ k_ => XS.bipush X6.here hx rfl (hb hby at_121) k_) ?_
          refine goNewA (aty := .long) X6 hx hZ (hw _ (List.mem_of_getElem? (i := 11) rfl)) (hb hby at_123) (by decide) (cap := 16) (by decide) (by decide) (by decide) (by decide) (ad := "[J") (by decide) fun T7 h7 o2 gb7 X7 E7 A7 B7 => ?_
          have ge7 : n0 ≤ o2 := gb7 ▸ sz6
          have ne7_oz : oz ≠ o2 := gb7 ▸ Nat.ne_of_lt f6_2.lt
          have ne7_bs : bs ≠ o2 := gb7 ▸ Nat.ne_of_lt f6_3.lt
          have ne7_o1 : o1 ≠ o2 := gb7 ▸ Nat.ne_of_lt A6.lt
          have f7_2 : Exa Z h7 oz "com/example/utu/utu/check/Zone" := f6_2.ext E7
          have f7_3 : Exa Z h7 bs "[J" := f6_3.ext E7
          have f7_4 : Fld Z h7 oz "com/example/utu/utu/check/Zone" "dimension" "I" (.int (nv + (1 : Int32))) := f6_4.ext E7
          have f7_5 : Fld Z h7 oz "com/example/utu/utu/check/Zone" "bounds" "[J" (.ref bs) := f6_5.ext E7
          have f7_6 : Ary Z h7 bs .long N (fun i => .long (f3 i)) := f6_6.ext E7
          have f7_10 : Exa Z h7 o1 "[J" := A6.ext E7
          have f7_11 : Ary Z h7 o1 .long 16 (fun _ => .long 0) := B6'.ext E7
          have sz7 : n0 ≤ h7.size := Nat.le_trans sz6 E7.1
          have B7' : Ary Z h7 o2 .long 16 (fun _ => .long 0) := B7
          show Go p e below _ T7 (mkF m 125 #[.val (.int p1), .val (.int p2), .val (.int p3), .val (.int p4), .val (.int p5), .val (.int nv), .val (.int (nv + (1 : Int32))), .val (.ref oz), .val (.int ((((p1.toUInt32 >>> ((2 : Int32) &&& 31).toUInt32).toInt32) &&& (3 : Int32)) % (nv + (1 : Int32)))), .val (.int ((((p1.toUInt32 >>> ((4 : Int32) &&& 31).toUInt32).toInt32) &&& (3 : Int32)) % (nv + (1 : Int32)))), .val (.int sb), .val (.ref o1), .unset] [(.ref o2)])
          refine Go.st (T' := T7) (g' := (mkF m 127 #[.val (.int p1), .val (.int p2), .val (.int p3), .val (.int p4), .val (.int p5), .val (.int nv), .val (.int (nv + (1 : Int32))), .val (.ref oz), .val (.int ((((p1.toUInt32 >>> ((2 : Int32) &&& 31).toUInt32).toInt32) &&& (3 : Int32)) % (nv + (1 : Int32)))), .val (.int ((((p1.toUInt32 >>> ((4 : Int32) &&& 31).toUInt32).toInt32) &&& (3 : Int32)) % (nv + (1 : Int32)))), .val (.int sb), .val (.ref o1), .val (.ref o2)] [])) (fun t_ k_ => XS.astore X7.here hx rfl (hb hby at_125) rfl rfl (l' := #[.val (.int p1), .val (.int p2), .val (.int p3), .val (.int p4), .val (.int p5), .val (.int nv), .val (.int (nv + (1 : Int32))), .val (.ref oz), .val (.int ((((p1.toUInt32 >>> ((2 : Int32) &&& 31).toUInt32).toInt32) &&& (3 : Int32)) % (nv + (1 : Int32)))), .val (.int ((((p1.toUInt32 >>> ((4 : Int32) &&& 31).toUInt32).toInt32) &&& (3 : Int32)) % (nv + (1 : Int32)))), .val (.int sb), .val (.ref o1), .val (.ref o2)]) rfl k_) ?_
          refine Go.st (T' := T7) (g' := (mkF m 129 #[.val (.int p1), .val (.int p2), .val (.int p3), .val (.int p4), .val (.int p5), .val (.int nv), .val (.int (nv + (1 : Int32))), .val (.ref oz), .val (.int ((((p1.toUInt32 >>> ((2 : Int32) &&& 31).toUInt32).toInt32) &&& (3 : Int32)) % (nv + (1 : Int32)))), .val (.int ((((p1.toUInt32 >>> ((4 : Int32) &&& 31).toUInt32).toInt32) &&& (3 : Int32)) % (nv + (1 : Int32)))), .val (.int sb), .val (.ref o1), .val (.ref o2)] [(.ref oz)])) (fun t_ k_ => XS.aload X7.here hx rfl (hb hby at_127) rfl rfl k_) ?_
          refine Go.st (T' := T7) (g' := (mkF m 131 #[.val (.int p1), .val (.int p2), .val (.int p3), .val (.int p4), .val (.int p5), .val (.int nv), .val (.int (nv + (1 : Int32))), .val (.ref oz), .val (.int ((((p1.toUInt32 >>> ((2 : Int32) &&& 31).toUInt32).toInt32) &&& (3 : Int32)) % (nv + (1 : Int32)))), .val (.int ((((p1.toUInt32 >>> ((4 : Int32) &&& 31).toUInt32).toInt32) &&& (3 : Int32)) % (nv + (1 : Int32)))), .val (.int sb), .val (.ref o1), .val (.ref o2)] [(.ref o1), (.ref oz)])) (fun t_ k_ => XS.aload X7.here hx rfl (hb hby at_129) rfl rfl k_) ?_
          refine Go.st (T' := T7) (g' := (mkF m 132 #[.val (.int p1), .val (.int p2), .val (.int p3), .val (.int p4), .val (.int p5), .val (.int nv), .val (.int (nv + (1 : Int32))), .val (.ref oz), .val (.int ((((p1.toUInt32 >>> ((2 : Int32) &&& 31).toUInt32).toInt32) &&& (3 : Int32)) % (nv + (1 : Int32)))), .val (.int ((((p1.toUInt32 >>> ((4 : Int32) &&& 31).toUInt32).toInt32) &&& (3 : Int32)) % (nv + (1 : Int32)))), .val (.int sb), .val (.ref o1), .val (.ref o2)] [(.int (0 : Int32)), (.ref o1), (.ref oz)])) (fun t_ k_ => XS.iconst X7.here hx rfl (hb hby at_131) k_) ?_
          refine goVirtS X7 hx hZ (y := (⟨"com/example/utu/utu/check/Zone", "write", "([JI)V"⟩ : MethodName)) hown (hw _ (List.mem_of_getElem? (i := 36) rfl)) (hw _ (List.mem_of_getElem? (i := 37) rfl)) (hw _ (List.mem_of_getElem? (i := 39) rfl)) (hw _ (List.mem_of_getElem? (i := 38) rfl)) (hw _ (List.mem_of_getElem? (i := 2) rfl)) (hw _ (List.mem_of_getElem? (i := 40) rfl)) (by decide) f7_2 (rm8 l Z a0 hw [] n0 h7 oz o1 bs N f3 (fun _ => 0) sz7 f7_5 f7_6 f7_11 ge6 ((own_dim_lt hD).2.2)) 0 (by decide) (by decide) (by rw [hml]; rfl) [(.ref o1), (.int (0 : Int32))] [] (lenOf pd_5852bd1e rfl) rfl rfl rfl (hb hby at_132) (by decide) (by decide) fun v8 T8 h8 X8 hq8 => ?_
          obtain ⟨rfl, K8c, p8_0⟩ := hq8
          have f8_2 : Exa Z h8 oz "com/example/utu/utu/check/Zone" := f7_2.keep K8c
          have f8_3 : Exa Z h8 bs "[J" := f7_3.keep K8c
          have f8_4 : Fld Z h8 oz "com/example/utu/utu/check/Zone" "dimension" "I" (.int (nv + (1 : Int32))) := f7_4.keep K8c (ninS ne6_oz nin0)
          have f8_5 : Fld Z h8 oz "com/example/utu/utu/check/Zone" "bounds" "[J" (.ref bs) := f7_5.keep K8c (ninS ne6_oz nin0)
          have f8_6 : Ary Z h8 bs .long N (fun i => .long (f3 i)) := f7_6.keep K8c (ninS ne6_bs nin0)
          have f8_10 : Exa Z h8 o1 "[J" := f7_10.keep K8c
          have f8_15 : Exa Z h8 o2 "[J" := A7.keep K8c
          have f8_16 : Ary Z h8 o2 .long 16 (fun _ => .long 0) := B7'.keep K8c (ninS ne7_o1.symm nin0)
          have sz8 : n0 ≤ h8.size := Nat.le_trans sz7 K8c.1
          show Go p e below _ T8 (mkF m 135 #[.val (.int p1), .val (.int p2), .val (.int p3), .val (.int p4), .val (.int p5), .val (.int nv), .val (.int (nv + (1 : Int32))), .val (.ref oz), .val (.int ((((p1.toUInt32 >>> ((2 : Int32) &&& 31).toUInt32).toInt32) &&& (3 : Int32)) % (nv + (1 : Int32)))), .val (.int ((((p1.toUInt32 >>> ((4 : Int32) &&& 31).toUInt32).toInt32) &&& (3 : Int32)) % (nv + (1 : Int32)))), .val (.int sb), .val (.ref o1), .val (.ref o2)] [])
          refine Go.st (T' := T8) (g' := (mkF m 137 #[.val (.int p1), .val (.int p2), .val (.int p3), .val (.int p4), .val (.int p5), .val (.int nv), .val (.int (nv + (1 : Int32))), .val (.ref oz), .val (.int ((((p1.toUInt32 >>> ((2 : Int32) &&& 31).toUInt32).toInt32) &&& (3 : Int32)) % (nv + (1 : Int32)))), .val (.int ((((p1.toUInt32 >>> ((4 : Int32) &&& 31).toUInt32).toInt32) &&& (3 : Int32)) % (nv + (1 : Int32)))), .val (.int sb), .val (.ref o1), .val (.ref o2)] [(.ref oz)])) (fun t_ k_ => XS.aload X8.here hx rfl (hb hby at_135) rfl rfl k_) ?_
          refine goVirtS X8 hx hZ (y := (⟨"com/example/utu/utu/check/Zone", "up", "()V"⟩ : MethodName)) hown (hw _ (List.mem_of_getElem? (i := 45) rfl)) (hw _ (List.mem_of_getElem? (i := 46) rfl)) (hw _ (List.mem_of_getElem? (i := 48) rfl)) (hw _ (List.mem_of_getElem? (i := 47) rfl)) (hw _ (List.mem_of_getElem? (i := 2) rfl)) (hw _ (List.mem_of_getElem? (i := 49) rfl)) (by decide) f8_2 (rm9 l Z a0 hw [] n0 h8 oz (nv + (1 : Int32)) bs N f3 sz8 f8_2 f8_3 f8_4 f8_5 f8_6 g6_J61 (hD)) 0 (by decide) (by decide) (by rw [hml]; rfl) [] [] (lenOf pd_0f51a560 rfl) rfl rfl rfl (hb hby at_137) (by decide) (by decide) fun v9 T9 h9 X9 hq9 => ?_
          obtain ⟨f4, rfl, K9c, p9_0, hup⟩ := hq9
          have f9_2 : Exa Z h9 oz "com/example/utu/utu/check/Zone" := f8_2.keep K9c
          have f9_3 : Exa Z h9 bs "[J" := f8_3.keep K9c
          have f9_4 : Fld Z h9 oz "com/example/utu/utu/check/Zone" "dimension" "I" (.int (nv + (1 : Int32))) := f8_4.keep K9c (ninS (ne_exa f8_2 f8_3 (by decide)) nin0)
          have f9_5 : Fld Z h9 oz "com/example/utu/utu/check/Zone" "bounds" "[J" (.ref bs) := f8_5.keep K9c (ninS (ne_exa f8_2 f8_3 (by decide)) nin0)
          have f9_9 : Exa Z h9 o1 "[J" := f8_10.keep K9c
          have f9_14 : Exa Z h9 o2 "[J" := f8_15.keep K9c
          have f9_15 : Ary Z h9 o2 .long 16 (fun _ => .long 0) := f8_16.keep K9c (ninS ne7_bs.symm nin0)
          have f9_16 : Ary Z h9 o1 .long 16 (fun i => .long (if i < N then f3 i else (fun _ => 0) i)) := p8_0.keep K9c (ninS ne6_bs.symm nin0)
          have sz9 : n0 ≤ h9.size := Nat.le_trans sz8 K9c.1
          show Go p e below _ T9 (mkF m 140 #[.val (.int p1), .val (.int p2), .val (.int p3), .val (.int p4), .val (.int p5), .val (.int nv), .val (.int (nv + (1 : Int32))), .val (.ref oz), .val (.int ((((p1.toUInt32 >>> ((2 : Int32) &&& 31).toUInt32).toInt32) &&& (3 : Int32)) % (nv + (1 : Int32)))), .val (.int ((((p1.toUInt32 >>> ((4 : Int32) &&& 31).toUInt32).toInt32) &&& (3 : Int32)) % (nv + (1 : Int32)))), .val (.int sb), .val (.ref o1), .val (.ref o2)] [])
          refine Go.st (T' := T9) (g' := (mkF m 142 #[.val (.int p1), .val (.int p2), .val (.int p3), .val (.int p4), .val (.int p5), .val (.int nv), .val (.int (nv + (1 : Int32))), .val (.ref oz), .val (.int ((((p1.toUInt32 >>> ((2 : Int32) &&& 31).toUInt32).toInt32) &&& (3 : Int32)) % (nv + (1 : Int32)))), .val (.int ((((p1.toUInt32 >>> ((4 : Int32) &&& 31).toUInt32).toInt32) &&& (3 : Int32)) % (nv + (1 : Int32)))), .val (.int sb), .val (.ref o1), .val (.ref o2)] [(.ref oz)])) (fun t_ k_ => XS.aload X9.here hx rfl (hb hby at_140) rfl rfl k_) ?_
          refine Go.st (T' := T9) (g' := (mkF m 144 #[.val (.int p1), .val (.int p2), .val (.int p3), .val (.int p4), .val (.int p5), .val (.int nv), .val (.int (nv + (1 : Int32))), .val (.ref oz), .val (.int ((((p1.toUInt32 >>> ((2 : Int32) &&& 31).toUInt32).toInt32) &&& (3 : Int32)) % (nv + (1 : Int32)))), .val (.int ((((p1.toUInt32 >>> ((4 : Int32) &&& 31).toUInt32).toInt32) &&& (3 : Int32)) % (nv + (1 : Int32)))), .val (.int sb), .val (.ref o1), .val (.ref o2)] [(.ref o2), (.ref oz)])) (fun t_ k_ => XS.aload X9.here hx rfl (hb hby at_142) rfl rfl k_) ?_
          refine Go.st (T' := T9) (g' := (mkF m 145 #[.val (.int p1), .val (.int p2), .val (.int p3), .val (.int p4), .val (.int p5), .val (.int nv), .val (.int (nv + (1 : Int32))), .val (.ref oz), .val (.int ((((p1.toUInt32 >>> ((2 : Int32) &&& 31).toUInt32).toInt32) &&& (3 : Int32)) % (nv + (1 : Int32)))), .val (.int ((((p1.toUInt32 >>> ((4 : Int32) &&& 31).toUInt32).toInt32) &&& (3 : Int32)) % (nv + (1 : Int32)))), .val (.int sb), .val (.ref o1), .val (.ref o2)] [(.int (0 : Int32)), (.ref o2), (.ref oz)])) (fun t_ k_ => XS.iconst X9.here hx rfl (hb hby at_144) k_) ?_
          refine goVirtS X9 hx hZ (y := (⟨"com/example/utu/utu/check/Zone", "write", "([JI)V"⟩ : MethodName)) hown (hw _ (List.mem_of_getElem? (i := 36) rfl)) (hw _ (List.mem_of_getElem? (i := 37) rfl)) (hw _ (List.mem_of_getElem? (i := 39) rfl)) (hw _ (List.mem_of_getElem? (i := 38) rfl)) (hw _ (List.mem_of_getElem? (i := 2) rfl)) (hw _ (List.mem_of_getElem? (i := 40) rfl)) (by decide) f9_2 (rm8 l Z a0 hw [] n0 h9 oz o2 bs N f4 (fun _ => 0) sz9 f9_5 p9_0 f9_15 ge7 ((own_dim_lt hD).2.2)) 0 (by decide) (by decide) (by rw [hml]; rfl) [(.ref o2), (.int (0 : Int32))] [] (lenOf pd_5852bd1e rfl) rfl rfl rfl (hb hby at_145) (by decide) (by decide) fun v10 T10 h10 X10 hq10 => ?_
          obtain ⟨rfl, K10c, p10_0⟩ := hq10
          have f10_2 : Exa Z h10 oz "com/example/utu/utu/check/Zone" := f9_2.keep K10c
          have f10_3 : Exa Z h10 bs "[J" := f9_3.keep K10c
          have f10_4 : Fld Z h10 oz "com/example/utu/utu/check/Zone" "dimension" "I" (.int (nv + (1 : Int32))) := f9_4.keep K10c (ninS ne7_oz nin0)
          have f10_5 : Fld Z h10 oz "com/example/utu/utu/check/Zone" "bounds" "[J" (.ref bs) := f9_5.keep K10c (ninS ne7_oz nin0)
          have f10_9 : Exa Z h10 o1 "[J" := f9_9.keep K10c
          have f10_14 : Exa Z h10 o2 "[J" := f9_14.keep K10c
          have f10_15 : Ary Z h10 o1 .long 16 (fun i => .long (if i < N then f3 i else (fun _ => 0) i)) := f9_16.keep K10c (ninS ne7_o1 nin0)
          have f10_16 : Ary Z h10 bs .long N (fun i => .long (f4 i)) := p9_0.keep K10c (ninS ne7_bs nin0)
          have sz10 : n0 ≤ h10.size := Nat.le_trans sz9 K10c.1
          show Go p e below _ T10 (mkF m 148 #[.val (.int p1), .val (.int p2), .val (.int p3), .val (.int p4), .val (.int p5), .val (.int nv), .val (.int (nv + (1 : Int32))), .val (.ref oz), .val (.int ((((p1.toUInt32 >>> ((2 : Int32) &&& 31).toUInt32).toInt32) &&& (3 : Int32)) % (nv + (1 : Int32)))), .val (.int ((((p1.toUInt32 >>> ((4 : Int32) &&& 31).toUInt32).toInt32) &&& (3 : Int32)) % (nv + (1 : Int32)))), .val (.int sb), .val (.ref o1), .val (.ref o2)] [])
          refine Go.st (T' := T10) (g' := (mkF m 150 #[.val (.int p1), .val (.int p2), .val (.int p3), .val (.int p4), .val (.int p5), .val (.int nv), .val (.int (nv + (1 : Int32))), .val (.ref oz), .val (.int ((((p1.toUInt32 >>> ((2 : Int32) &&& 31).toUInt32).toInt32) &&& (3 : Int32)) % (nv + (1 : Int32)))), .val (.int ((((p1.toUInt32 >>> ((4 : Int32) &&& 31).toUInt32).toInt32) &&& (3 : Int32)) % (nv + (1 : Int32)))), .val (.int sb), .val (.ref o1), .val (.ref o2)] [(.ref o1)])) (fun t_ k_ => XS.aload X10.here hx rfl (hb hby at_148) rfl rfl k_) ?_
          refine Go.st (T' := T10) (g' := (mkF m 152 #[.val (.int p1), .val (.int p2), .val (.int p3), .val (.int p4), .val (.int p5), .val (.int nv), .val (.int (nv + (1 : Int32))), .val (.ref oz), .val (.int ((((p1.toUInt32 >>> ((2 : Int32) &&& 31).toUInt32).toInt32) &&& (3 : Int32)) % (nv + (1 : Int32)))), .val (.int ((((p1.toUInt32 >>> ((4 : Int32) &&& 31).toUInt32).toInt32) &&& (3 : Int32)) % (nv + (1 : Int32)))), .val (.int sb), .val (.ref o1), .val (.ref o2)] [(.ref o2), (.ref o1)])) (fun t_ k_ => XS.aload X10.here hx rfl (hb hby at_150) rfl rfl k_) ?_
          refine Go.st (T' := T10) (g' := (mkF m 153 #[.val (.int p1), .val (.int p2), .val (.int p3), .val (.int p4), .val (.int p5), .val (.int nv), .val (.int (nv + (1 : Int32))), .val (.ref oz), .val (.int ((((p1.toUInt32 >>> ((2 : Int32) &&& 31).toUInt32).toInt32) &&& (3 : Int32)) % (nv + (1 : Int32)))), .val (.int ((((p1.toUInt32 >>> ((4 : Int32) &&& 31).toUInt32).toInt32) &&& (3 : Int32)) % (nv + (1 : Int32)))), .val (.int sb), .val (.ref o1), .val (.ref o2)] [(.int (0 : Int32)), (.ref o2), (.ref o1)])) (fun t_ k_ => XS.iconst X10.here hx rfl (hb hby at_152) k_) ?_
          refine Go.st (T' := T10) (g' := (mkF m 155 #[.val (.int p1), .val (.int p2), .val (.int p3), .val (.int p4), .val (.int p5), .val (.int nv), .val (.int (nv + (1 : Int32))), .val (.ref oz), .val (.int ((((p1.toUInt32 >>> ((2 : Int32) &&& 31).toUInt32).toInt32) &&& (3 : Int32)) % (nv + (1 : Int32)))), .val (.int ((((p1.toUInt32 >>> ((4 : Int32) &&& 31).toUInt32).toInt32) &&& (3 : Int32)) % (nv + (1 : Int32)))), .val (.int sb), .val (.ref o1), .val (.ref o2)] [(.int (nv + (1 : Int32))), (.int (0 : Int32)), (.ref o2), (.ref o1)])) (fun t_ k_ => XS.iload X10.here hx rfl (hb hby at_153) rfl k_) ?_
          refine goStatic X10 hx hZ (y := (⟨"com/example/utu/utu/check/ZoneUpPinLaw", "ok", "([J[JII)Z"⟩ : MethodName)) hown (hw _ (List.mem_of_getElem? (i := 50) rfl)) (hw _ (List.mem_of_getElem? (i := 51) rfl)) (hw _ (List.mem_of_getElem? (i := 52) rfl)) (hw _ (List.mem_of_getElem? (i := 53) rfl)) (by decide) (rm10 l Z a0 hw [] n0 h10 o1 o2 (0 : Int32) (nv + (1 : Int32)) N (fun i => (if i < N then f3 i else (fun _ => 0) i)) (fun i => (if i < N then f4 i else (fun _ => 0) i)) sz10 f10_15 p10_0 (hD) (⟨by decide, by decide⟩) (own_relx hup _)) 0 (by decide) (by decide) (by rw [hml]; rfl) [(.ref o1), (.ref o2), (.int (0 : Int32)), (.int (nv + (1 : Int32)))] [] (lenOf pd_15b2cf97 rfl) rfl rfl rfl (hb hby at_155) (by decide) (by decide) fun v11 T11 h11 X11 hq11 => ?_
          obtain ⟨rfl, eh11⟩ := hq11
          rw [eh11] at X11
          show Go p e below _ T11 (mkF m 158 #[.val (.int p1), .val (.int p2), .val (.int p3), .val (.int p4), .val (.int p5), .val (.int nv), .val (.int (nv + (1 : Int32))), .val (.ref oz), .val (.int ((((p1.toUInt32 >>> ((2 : Int32) &&& 31).toUInt32).toInt32) &&& (3 : Int32)) % (nv + (1 : Int32)))), .val (.int ((((p1.toUInt32 >>> ((4 : Int32) &&& 31).toUInt32).toInt32) &&& (3 : Int32)) % (nv + (1 : Int32)))), .val (.int sb), .val (.ref o1), .val (.ref o2)] [(.int (1 : Int32))])
          refine Go.st (T' := T11) (g' := (mkF m 161 #[.val (.int p1), .val (.int p2), .val (.int p3), .val (.int p4), .val (.int p5), .val (.int nv), .val (.int (nv + (1 : Int32))), .val (.ref oz), .val (.int ((((p1.toUInt32 >>> ((2 : Int32) &&& 31).toUInt32).toInt32) &&& (3 : Int32)) % (nv + (1 : Int32)))), .val (.int ((((p1.toUInt32 >>> ((4 : Int32) &&& 31).toUInt32).toInt32) &&& (3 : Int32)) % (nv + (1 : Int32)))), .val (.int sb), .val (.ref o1), .val (.ref o2)] [])) (fun t_ k_ => XS.ifNo X11.here hx rfl (hb hby at_158) rfl (by decide) k_) ?_
          refine Go.st (T' := T11) (g' := (mkF m 163 #[.val (.int p1), .val (.int p2), .val (.int p3), .val (.int p4), .val (.int p5), .val (.int nv), .val (.int (nv + (1 : Int32))), .val (.ref oz), .val (.int ((((p1.toUInt32 >>> ((2 : Int32) &&& 31).toUInt32).toInt32) &&& (3 : Int32)) % (nv + (1 : Int32)))), .val (.int ((((p1.toUInt32 >>> ((4 : Int32) &&& 31).toUInt32).toInt32) &&& (3 : Int32)) % (nv + (1 : Int32)))), .val (.int sb), .val (.ref o1), .val (.ref o2)] [(.ref o1)])) (fun t_ k_ => XS.aload X11.here hx rfl (hb hby at_161) rfl rfl k_) ?_
          refine Go.st (T' := T11) (g' := (mkF m 165 #[.val (.int p1), .val (.int p2), .val (.int p3), .val (.int p4), .val (.int p5), .val (.int nv), .val (.int (nv + (1 : Int32))), .val (.ref oz), .val (.int ((((p1.toUInt32 >>> ((2 : Int32) &&& 31).toUInt32).toInt32) &&& (3 : Int32)) % (nv + (1 : Int32)))), .val (.int ((((p1.toUInt32 >>> ((4 : Int32) &&& 31).toUInt32).toInt32) &&& (3 : Int32)) % (nv + (1 : Int32)))), .val (.int sb), .val (.ref o1), .val (.ref o2)] [(.ref o2), (.ref o1)])) (fun t_ k_ => XS.aload X11.here hx rfl (hb hby at_163) rfl rfl k_) ?_
          refine Go.st (T' := T11) (g' := (mkF m 166 #[.val (.int p1), .val (.int p2), .val (.int p3), .val (.int p4), .val (.int p5), .val (.int nv), .val (.int (nv + (1 : Int32))), .val (.ref oz), .val (.int ((((p1.toUInt32 >>> ((2 : Int32) &&& 31).toUInt32).toInt32) &&& (3 : Int32)) % (nv + (1 : Int32)))), .val (.int ((((p1.toUInt32 >>> ((4 : Int32) &&& 31).toUInt32).toInt32) &&& (3 : Int32)) % (nv + (1 : Int32)))), .val (.int sb), .val (.ref o1), .val (.ref o2)] [(.int (1 : Int32)), (.ref o2), (.ref o1)])) (fun t_ k_ => XS.iconst X11.here hx rfl (hb hby at_165) k_) ?_
          refine Go.st (T' := T11) (g' := (mkF m 168 #[.val (.int p1), .val (.int p2), .val (.int p3), .val (.int p4), .val (.int p5), .val (.int nv), .val (.int (nv + (1 : Int32))), .val (.ref oz), .val (.int ((((p1.toUInt32 >>> ((2 : Int32) &&& 31).toUInt32).toInt32) &&& (3 : Int32)) % (nv + (1 : Int32)))), .val (.int ((((p1.toUInt32 >>> ((4 : Int32) &&& 31).toUInt32).toInt32) &&& (3 : Int32)) % (nv + (1 : Int32)))), .val (.int sb), .val (.ref o1), .val (.ref o2)] [(.int (nv + (1 : Int32))), (.int (1 : Int32)), (.ref o2), (.ref o1)])) (fun t_ k_ => XS.iload X11.here hx rfl (hb hby at_166) rfl k_) ?_
          refine goStatic X11 hx hZ (y := (⟨"com/example/utu/utu/check/ZoneUpPinLaw", "ok", "([J[JII)Z"⟩ : MethodName)) hown (hw _ (List.mem_of_getElem? (i := 50) rfl)) (hw _ (List.mem_of_getElem? (i := 51) rfl)) (hw _ (List.mem_of_getElem? (i := 52) rfl)) (hw _ (List.mem_of_getElem? (i := 53) rfl)) (by decide) (rm10 l Z a0 hw [] n0 h10 o1 o2 (1 : Int32) (nv + (1 : Int32)) N (fun i => (if i < N then f3 i else (fun _ => 0) i)) (fun i => (if i < N then f4 i else (fun _ => 0) i)) sz10 f10_15 p10_0 (hD) (⟨by decide, by decide⟩) (own_relx hup _)) 0 (by decide) (by decide) (by rw [hml]; rfl) [(.ref o1), (.ref o2), (.int (1 : Int32)), (.int (nv + (1 : Int32)))] [] (lenOf pd_15b2cf97 rfl) rfl rfl rfl (hb hby at_168) (by decide) (by decide) fun v12 T12 h12 X12 hq12 => ?_
          obtain ⟨rfl, eh12⟩ := hq12
          rw [eh12] at X12
          show Go p e below _ T12 (mkF m 171 #[.val (.int p1), .val (.int p2), .val (.int p3), .val (.int p4), .val (.int p5), .val (.int nv), .val (.int (nv + (1 : Int32))), .val (.ref oz), .val (.int ((((p1.toUInt32 >>> ((2 : Int32) &&& 31).toUInt32).toInt32) &&& (3 : Int32)) % (nv + (1 : Int32)))), .val (.int ((((p1.toUInt32 >>> ((4 : Int32) &&& 31).toUInt32).toInt32) &&& (3 : Int32)) % (nv + (1 : Int32)))), .val (.int sb), .val (.ref o1), .val (.ref o2)] [(.int (1 : Int32))])
          refine Go.st (T' := T12) (g' := (mkF m 174 #[.val (.int p1), .val (.int p2), .val (.int p3), .val (.int p4), .val (.int p5), .val (.int nv), .val (.int (nv + (1 : Int32))), .val (.ref oz), .val (.int ((((p1.toUInt32 >>> ((2 : Int32) &&& 31).toUInt32).toInt32) &&& (3 : Int32)) % (nv + (1 : Int32)))), .val (.int ((((p1.toUInt32 >>> ((4 : Int32) &&& 31).toUInt32).toInt32) &&& (3 : Int32)) % (nv + (1 : Int32)))), .val (.int sb), .val (.ref o1), .val (.ref o2)] [])) (fun t_ k_ => XS.ifNo X12.here hx rfl (hb hby at_171) rfl (by decide) k_) ?_
          refine Go.st (T' := T12) (g' := (mkF m 176 #[.val (.int p1), .val (.int p2), .val (.int p3), .val (.int p4), .val (.int p5), .val (.int nv), .val (.int (nv + (1 : Int32))), .val (.ref oz), .val (.int ((((p1.toUInt32 >>> ((2 : Int32) &&& 31).toUInt32).toInt32) &&& (3 : Int32)) % (nv + (1 : Int32)))), .val (.int ((((p1.toUInt32 >>> ((4 : Int32) &&& 31).toUInt32).toInt32) &&& (3 : Int32)) % (nv + (1 : Int32)))), .val (.int sb), .val (.ref o1), .val (.ref o2)] [(.ref o1)])) (fun t_ k_ => XS.aload X12.here hx rfl (hb hby at_174) rfl rfl k_) ?_
          refine Go.st (T' := T12) (g' := (mkF m 178 #[.val (.int p1), .val (.int p2), .val (.int p3), .val (.int p4), .val (.int p5), .val (.int nv), .val (.int (nv + (1 : Int32))), .val (.ref oz), .val (.int ((((p1.toUInt32 >>> ((2 : Int32) &&& 31).toUInt32).toInt32) &&& (3 : Int32)) % (nv + (1 : Int32)))), .val (.int ((((p1.toUInt32 >>> ((4 : Int32) &&& 31).toUInt32).toInt32) &&& (3 : Int32)) % (nv + (1 : Int32)))), .val (.int sb), .val (.ref o1), .val (.ref o2)] [(.ref o2), (.ref o1)])) (fun t_ k_ => XS.aload X12.here hx rfl (hb hby at_176) rfl rfl k_) ?_
          refine Go.st (T' := T12) (g' := (mkF m 179 #[.val (.int p1), .val (.int p2), .val (.int p3), .val (.int p4), .val (.int p5), .val (.int nv), .val (.int (nv + (1 : Int32))), .val (.ref oz), .val (.int ((((p1.toUInt32 >>> ((2 : Int32) &&& 31).toUInt32).toInt32) &&& (3 : Int32)) % (nv + (1 : Int32)))), .val (.int ((((p1.toUInt32 >>> ((4 : Int32) &&& 31).toUInt32).toInt32) &&& (3 : Int32)) % (nv + (1 : Int32)))), .val (.int sb), .val (.ref o1), .val (.ref o2)] [(.int (2 : Int32)), (.ref o2), (.ref o1)])) (fun t_ k_ => XS.iconst X12.here hx rfl (hb hby at_178) k_) ?_
          refine Go.st (T' := T12) (g' := (mkF m 181 #[.val (.int p1), .val (.int p2), .val (.int p3), .val (.int p4), .val (.int p5), .val (.int nv), .val (.int (nv + (1 : Int32))), .val (.ref oz), .val (.int ((((p1.toUInt32 >>> ((2 : Int32) &&& 31).toUInt32).toInt32) &&& (3 : Int32)) % (nv + (1 : Int32)))), .val (.int ((((p1.toUInt32 >>> ((4 : Int32) &&& 31).toUInt32).toInt32) &&& (3 : Int32)) % (nv + (1 : Int32)))), .val (.int sb), .val (.ref o1), .val (.ref o2)] [(.int (nv + (1 : Int32))), (.int (2 : Int32)), (.ref o2), (.ref o1)])) (fun t_ k_ => XS.iload X12.here hx rfl (hb hby at_179) rfl k_) ?_
          refine goStatic X12 hx hZ (y := (⟨"com/example/utu/utu/check/ZoneUpPinLaw", "ok", "([J[JII)Z"⟩ : MethodName)) hown (hw _ (List.mem_of_getElem? (i := 50) rfl)) (hw _ (List.mem_of_getElem? (i := 51) rfl)) (hw _ (List.mem_of_getElem? (i := 52) rfl)) (hw _ (List.mem_of_getElem? (i := 53) rfl)) (by decide) (rm10 l Z a0 hw [] n0 h10 o1 o2 (2 : Int32) (nv + (1 : Int32)) N (fun i => (if i < N then f3 i else (fun _ => 0) i)) (fun i => (if i < N then f4 i else (fun _ => 0) i)) sz10 f10_15 p10_0 (hD) (⟨by decide, by decide⟩) (own_relx hup _)) 0 (by decide) (by decide) (by rw [hml]; rfl) [(.ref o1), (.ref o2), (.int (2 : Int32)), (.int (nv + (1 : Int32)))] [] (lenOf pd_15b2cf97 rfl) rfl rfl rfl (hb hby at_181) (by decide) (by decide) fun v13 T13 h13 X13 hq13 => ?_
          obtain ⟨rfl, eh13⟩ := hq13
          rw [eh13] at X13
          show Go p e below _ T13 (mkF m 184 #[.val (.int p1), .val (.int p2), .val (.int p3), .val (.int p4), .val (.int p5), .val (.int nv), .val (.int (nv + (1 : Int32))), .val (.ref oz), .val (.int ((((p1.toUInt32 >>> ((2 : Int32) &&& 31).toUInt32).toInt32) &&& (3 : Int32)) % (nv + (1 : Int32)))), .val (.int ((((p1.toUInt32 >>> ((4 : Int32) &&& 31).toUInt32).toInt32) &&& (3 : Int32)) % (nv + (1 : Int32)))), .val (.int sb), .val (.ref o1), .val (.ref o2)] [(.int (1 : Int32))])
          refine Go.st (T' := T13) (g' := (mkF m 187 #[.val (.int p1), .val (.int p2), .val (.int p3), .val (.int p4), .val (.int p5), .val (.int nv), .val (.int (nv + (1 : Int32))), .val (.ref oz), .val (.int ((((p1.toUInt32 >>> ((2 : Int32) &&& 31).toUInt32).toInt32) &&& (3 : Int32)) % (nv + (1 : Int32)))), .val (.int ((((p1.toUInt32 >>> ((4 : Int32) &&& 31).toUInt32).toInt32) &&& (3 : Int32)) % (nv + (1 : Int32)))), .val (.int sb), .val (.ref o1), .val (.ref o2)] [])) (fun t_ k_ => XS.ifNo X13.here hx rfl (hb hby at_184) rfl (by decide) k_) ?_
          refine Go.st (T' := T13) (g' := (mkF m 189 #[.val (.int p1), .val (.int p2), .val (.int p3), .val (.int p4), .val (.int p5), .val (.int nv), .val (.int (nv + (1 : Int32))), .val (.ref oz), .val (.int ((((p1.toUInt32 >>> ((2 : Int32) &&& 31).toUInt32).toInt32) &&& (3 : Int32)) % (nv + (1 : Int32)))), .val (.int ((((p1.toUInt32 >>> ((4 : Int32) &&& 31).toUInt32).toInt32) &&& (3 : Int32)) % (nv + (1 : Int32)))), .val (.int sb), .val (.ref o1), .val (.ref o2)] [(.ref o1)])) (fun t_ k_ => XS.aload X13.here hx rfl (hb hby at_187) rfl rfl k_) ?_
          refine Go.st (T' := T13) (g' := (mkF m 191 #[.val (.int p1), .val (.int p2), .val (.int p3), .val (.int p4), .val (.int p5), .val (.int nv), .val (.int (nv + (1 : Int32))), .val (.ref oz), .val (.int ((((p1.toUInt32 >>> ((2 : Int32) &&& 31).toUInt32).toInt32) &&& (3 : Int32)) % (nv + (1 : Int32)))), .val (.int ((((p1.toUInt32 >>> ((4 : Int32) &&& 31).toUInt32).toInt32) &&& (3 : Int32)) % (nv + (1 : Int32)))), .val (.int sb), .val (.ref o1), .val (.ref o2)] [(.ref o2), (.ref o1)])) (fun t_ k_ => XS.aload X13.here hx rfl (hb hby at_189) rfl rfl k_) ?_
          refine Go.st (T' := T13) (g' := (mkF m 192 #[.val (.int p1), .val (.int p2), .val (.int p3), .val (.int p4), .val (.int p5), .val (.int nv), .val (.int (nv + (1 : Int32))), .val (.ref oz), .val (.int ((((p1.toUInt32 >>> ((2 : Int32) &&& 31).toUInt32).toInt32) &&& (3 : Int32)) % (nv + (1 : Int32)))), .val (.int ((((p1.toUInt32 >>> ((4 : Int32) &&& 31).toUInt32).toInt32) &&& (3 : Int32)) % (nv + (1 : Int32)))), .val (.int sb), .val (.ref o1), .val (.ref o2)] [(.int (3 : Int32)), (.ref o2), (.ref o1)])) (fun t_ k_ => XS.iconst X13.here hx rfl (hb hby at_191) k_) ?_
          refine Go.st (T' := T13) (g' := (mkF m 194 #[.val (.int p1), .val (.int p2), .val (.int p3), .val (.int p4), .val (.int p5), .val (.int nv), .val (.int (nv + (1 : Int32))), .val (.ref oz), .val (.int ((((p1.toUInt32 >>> ((2 : Int32) &&& 31).toUInt32).toInt32) &&& (3 : Int32)) % (nv + (1 : Int32)))), .val (.int ((((p1.toUInt32 >>> ((4 : Int32) &&& 31).toUInt32).toInt32) &&& (3 : Int32)) % (nv + (1 : Int32)))), .val (.int sb), .val (.ref o1), .val (.ref o2)] [(.int (nv + (1 : Int32))), (.int (3 : Int32)), (.ref o2), (.ref o1)])) (fun t_ k_ => XS.iload X13.here hx rfl (hb hby at_192) rfl k_) ?_
          refine goStatic X13 hx hZ (y := (⟨"com/example/utu/utu/check/ZoneUpPinLaw", "ok", "([J[JII)Z"⟩ : MethodName)) hown (hw _ (List.mem_of_getElem? (i := 50) rfl)) (hw _ (List.mem_of_getElem? (i := 51) rfl)) (hw _ (List.mem_of_getElem? (i := 52) rfl)) (hw _ (List.mem_of_getElem? (i := 53) rfl)) (by decide) (rm10 l Z a0 hw [] n0 h10 o1 o2 (3 : Int32) (nv + (1 : Int32)) N (fun i => (if i < N then f3 i else (fun _ => 0) i)) (fun i => (if i < N then f4 i else (fun _ => 0) i)) sz10 f10_15 p10_0 (hD) (⟨by decide, by decide⟩) (own_relx hup _)) 0 (by decide) (by decide) (by rw [hml]; rfl) [(.ref o1), (.ref o2), (.int (3 : Int32)), (.int (nv + (1 : Int32)))] [] (lenOf pd_15b2cf97 rfl) rfl rfl rfl (hb hby at_194) (by decide) (by decide) fun v14 T14 h14 X14 hq14 => ?_
          obtain ⟨rfl, eh14⟩ := hq14
          rw [eh14] at X14
          show Go p e below _ T14 (mkF m 197 #[.val (.int p1), .val (.int p2), .val (.int p3), .val (.int p4), .val (.int p5), .val (.int nv), .val (.int (nv + (1 : Int32))), .val (.ref oz), .val (.int ((((p1.toUInt32 >>> ((2 : Int32) &&& 31).toUInt32).toInt32) &&& (3 : Int32)) % (nv + (1 : Int32)))), .val (.int ((((p1.toUInt32 >>> ((4 : Int32) &&& 31).toUInt32).toInt32) &&& (3 : Int32)) % (nv + (1 : Int32)))), .val (.int sb), .val (.ref o1), .val (.ref o2)] [(.int (1 : Int32))])
          refine Go.st (T' := T14) (g' := (mkF m 200 #[.val (.int p1), .val (.int p2), .val (.int p3), .val (.int p4), .val (.int p5), .val (.int nv), .val (.int (nv + (1 : Int32))), .val (.ref oz), .val (.int ((((p1.toUInt32 >>> ((2 : Int32) &&& 31).toUInt32).toInt32) &&& (3 : Int32)) % (nv + (1 : Int32)))), .val (.int ((((p1.toUInt32 >>> ((4 : Int32) &&& 31).toUInt32).toInt32) &&& (3 : Int32)) % (nv + (1 : Int32)))), .val (.int sb), .val (.ref o1), .val (.ref o2)] [])) (fun t_ k_ => XS.ifNo X14.here hx rfl (hb hby at_197) rfl (by decide) k_) ?_
          refine Go.st (T' := T14) (g' := (mkF m 202 #[.val (.int p1), .val (.int p2), .val (.int p3), .val (.int p4), .val (.int p5), .val (.int nv), .val (.int (nv + (1 : Int32))), .val (.ref oz), .val (.int ((((p1.toUInt32 >>> ((2 : Int32) &&& 31).toUInt32).toInt32) &&& (3 : Int32)) % (nv + (1 : Int32)))), .val (.int ((((p1.toUInt32 >>> ((4 : Int32) &&& 31).toUInt32).toInt32) &&& (3 : Int32)) % (nv + (1 : Int32)))), .val (.int sb), .val (.ref o1), .val (.ref o2)] [(.ref o1)])) (fun t_ k_ => XS.aload X14.here hx rfl (hb hby at_200) rfl rfl k_) ?_
          refine Go.st (T' := T14) (g' := (mkF m 204 #[.val (.int p1), .val (.int p2), .val (.int p3), .val (.int p4), .val (.int p5), .val (.int nv), .val (.int (nv + (1 : Int32))), .val (.ref oz), .val (.int ((((p1.toUInt32 >>> ((2 : Int32) &&& 31).toUInt32).toInt32) &&& (3 : Int32)) % (nv + (1 : Int32)))), .val (.int ((((p1.toUInt32 >>> ((4 : Int32) &&& 31).toUInt32).toInt32) &&& (3 : Int32)) % (nv + (1 : Int32)))), .val (.int sb), .val (.ref o1), .val (.ref o2)] [(.ref o2), (.ref o1)])) (fun t_ k_ => XS.aload X14.here hx rfl (hb hby at_202) rfl rfl k_) ?_
          refine Go.st (T' := T14) (g' := (mkF m 205 #[.val (.int p1), .val (.int p2), .val (.int p3), .val (.int p4), .val (.int p5), .val (.int nv), .val (.int (nv + (1 : Int32))), .val (.ref oz), .val (.int ((((p1.toUInt32 >>> ((2 : Int32) &&& 31).toUInt32).toInt32) &&& (3 : Int32)) % (nv + (1 : Int32)))), .val (.int ((((p1.toUInt32 >>> ((4 : Int32) &&& 31).toUInt32).toInt32) &&& (3 : Int32)) % (nv + (1 : Int32)))), .val (.int sb), .val (.ref o1), .val (.ref o2)] [(.int (4 : Int32)), (.ref o2), (.ref o1)])) (fun t_ k_ => XS.iconst X14.here hx rfl (hb hby at_204) k_) ?_
          refine Go.st (T' := T14) (g' := (mkF m 207 #[.val (.int p1), .val (.int p2), .val (.int p3), .val (.int p4), .val (.int p5), .val (.int nv), .val (.int (nv + (1 : Int32))), .val (.ref oz), .val (.int ((((p1.toUInt32 >>> ((2 : Int32) &&& 31).toUInt32).toInt32) &&& (3 : Int32)) % (nv + (1 : Int32)))), .val (.int ((((p1.toUInt32 >>> ((4 : Int32) &&& 31).toUInt32).toInt32) &&& (3 : Int32)) % (nv + (1 : Int32)))), .val (.int sb), .val (.ref o1), .val (.ref o2)] [(.int (nv + (1 : Int32))), (.int (4 : Int32)), (.ref o2), (.ref o1)])) (fun t_ k_ => XS.iload X14.here hx rfl (hb hby at_205) rfl k_) ?_
          refine goStatic X14 hx hZ (y := (⟨"com/example/utu/utu/check/ZoneUpPinLaw", "ok", "([J[JII)Z"⟩ : MethodName)) hown (hw _ (List.mem_of_getElem? (i := 50) rfl)) (hw _ (List.mem_of_getElem? (i := 51) rfl)) (hw _ (List.mem_of_getElem? (i := 52) rfl)) (hw _ (List.mem_of_getElem? (i := 53) rfl)) (by decide) (rm10 l Z a0 hw [] n0 h10 o1 o2 (4 : Int32) (nv + (1 : Int32)) N (fun i => (if i < N then f3 i else (fun _ => 0) i)) (fun i => (if i < N then f4 i else (fun _ => 0) i)) sz10 f10_15 p10_0 (hD) (⟨by decide, by decide⟩) (own_relx hup _)) 0 (by decide) (by decide) (by rw [hml]; rfl) [(.ref o1), (.ref o2), (.int (4 : Int32)), (.int (nv + (1 : Int32)))] [] (lenOf pd_15b2cf97 rfl) rfl rfl rfl (hb hby at_207) (by decide) (by decide) fun v15 T15 h15 X15 hq15 => ?_
          obtain ⟨rfl, eh15⟩ := hq15
          rw [eh15] at X15
          show Go p e below _ T15 (mkF m 210 #[.val (.int p1), .val (.int p2), .val (.int p3), .val (.int p4), .val (.int p5), .val (.int nv), .val (.int (nv + (1 : Int32))), .val (.ref oz), .val (.int ((((p1.toUInt32 >>> ((2 : Int32) &&& 31).toUInt32).toInt32) &&& (3 : Int32)) % (nv + (1 : Int32)))), .val (.int ((((p1.toUInt32 >>> ((4 : Int32) &&& 31).toUInt32).toInt32) &&& (3 : Int32)) % (nv + (1 : Int32)))), .val (.int sb), .val (.ref o1), .val (.ref o2)] [(.int (1 : Int32))])
          refine Go.st (T' := T15) (g' := (mkF m 213 #[.val (.int p1), .val (.int p2), .val (.int p3), .val (.int p4), .val (.int p5), .val (.int nv), .val (.int (nv + (1 : Int32))), .val (.ref oz), .val (.int ((((p1.toUInt32 >>> ((2 : Int32) &&& 31).toUInt32).toInt32) &&& (3 : Int32)) % (nv + (1 : Int32)))), .val (.int ((((p1.toUInt32 >>> ((4 : Int32) &&& 31).toUInt32).toInt32) &&& (3 : Int32)) % (nv + (1 : Int32)))), .val (.int sb), .val (.ref o1), .val (.ref o2)] [])) (fun t_ k_ => XS.ifNo X15.here hx rfl (hb hby at_210) rfl (by decide) k_) ?_
          refine Go.st (T' := T15) (g' := (mkF m 215 #[.val (.int p1), .val (.int p2), .val (.int p3), .val (.int p4), .val (.int p5), .val (.int nv), .val (.int (nv + (1 : Int32))), .val (.ref oz), .val (.int ((((p1.toUInt32 >>> ((2 : Int32) &&& 31).toUInt32).toInt32) &&& (3 : Int32)) % (nv + (1 : Int32)))), .val (.int ((((p1.toUInt32 >>> ((4 : Int32) &&& 31).toUInt32).toInt32) &&& (3 : Int32)) % (nv + (1 : Int32)))), .val (.int sb), .val (.ref o1), .val (.ref o2)] [(.ref o1)])) (fun t_ k_ => XS.aload X15.here hx rfl (hb hby at_213) rfl rfl k_) ?_
          refine Go.st (T' := T15) (g' := (mkF m 217 #[.val (.int p1), .val (.int p2), .val (.int p3), .val (.int p4), .val (.int p5), .val (.int nv), .val (.int (nv + (1 : Int32))), .val (.ref oz), .val (.int ((((p1.toUInt32 >>> ((2 : Int32) &&& 31).toUInt32).toInt32) &&& (3 : Int32)) % (nv + (1 : Int32)))), .val (.int ((((p1.toUInt32 >>> ((4 : Int32) &&& 31).toUInt32).toInt32) &&& (3 : Int32)) % (nv + (1 : Int32)))), .val (.int sb), .val (.ref o1), .val (.ref o2)] [(.ref o2), (.ref o1)])) (fun t_ k_ => XS.aload X15.here hx rfl (hb hby at_215) rfl rfl k_) ?_
          refine Go.st (T' := T15) (g' := (mkF m 218 #[.val (.int p1), .val (.int p2), .val (.int p3), .val (.int p4), .val (.int p5), .val (.int nv), .val (.int (nv + (1 : Int32))), .val (.ref oz), .val (.int ((((p1.toUInt32 >>> ((2 : Int32) &&& 31).toUInt32).toInt32) &&& (3 : Int32)) % (nv + (1 : Int32)))), .val (.int ((((p1.toUInt32 >>> ((4 : Int32) &&& 31).toUInt32).toInt32) &&& (3 : Int32)) % (nv + (1 : Int32)))), .val (.int sb), .val (.ref o1), .val (.ref o2)] [(.int (5 : Int32)), (.ref o2), (.ref o1)])) (fun t_ k_ => XS.iconst X15.here hx rfl (hb hby at_217) k_) ?_
          refine Go.st (T' := T15) (g' := (mkF m 220 #[.val (.int p1), .val (.int p2), .val (.int p3), .val (.int p4), .val (.int p5), .val (.int nv), .val (.int (nv + (1 : Int32))), .val (.ref oz), .val (.int ((((p1.toUInt32 >>> ((2 : Int32) &&& 31).toUInt32).toInt32) &&& (3 : Int32)) % (nv + (1 : Int32)))), .val (.int ((((p1.toUInt32 >>> ((4 : Int32) &&& 31).toUInt32).toInt32) &&& (3 : Int32)) % (nv + (1 : Int32)))), .val (.int sb), .val (.ref o1), .val (.ref o2)] [(.int (nv + (1 : Int32))), (.int (5 : Int32)), (.ref o2), (.ref o1)])) (fun t_ k_ => XS.iload X15.here hx rfl (hb hby at_218) rfl k_) ?_
          refine goStatic X15 hx hZ (y := (⟨"com/example/utu/utu/check/ZoneUpPinLaw", "ok", "([J[JII)Z"⟩ : MethodName)) hown (hw _ (List.mem_of_getElem? (i := 50) rfl)) (hw _ (List.mem_of_getElem? (i := 51) rfl)) (hw _ (List.mem_of_getElem? (i := 52) rfl)) (hw _ (List.mem_of_getElem? (i := 53) rfl)) (by decide) (rm10 l Z a0 hw [] n0 h10 o1 o2 (5 : Int32) (nv + (1 : Int32)) N (fun i => (if i < N then f3 i else (fun _ => 0) i)) (fun i => (if i < N then f4 i else (fun _ => 0) i)) sz10 f10_15 p10_0 (hD) (⟨by decide, by decide⟩) (own_relx hup _)) 0 (by decide) (by decide) (by rw [hml]; rfl) [(.ref o1), (.ref o2), (.int (5 : Int32)), (.int (nv + (1 : Int32)))] [] (lenOf pd_15b2cf97 rfl) rfl rfl rfl (hb hby at_220) (by decide) (by decide) fun v16 T16 h16 X16 hq16 => ?_
          obtain ⟨rfl, eh16⟩ := hq16
          rw [eh16] at X16
          show Go p e below _ T16 (mkF m 223 #[.val (.int p1), .val (.int p2), .val (.int p3), .val (.int p4), .val (.int p5), .val (.int nv), .val (.int (nv + (1 : Int32))), .val (.ref oz), .val (.int ((((p1.toUInt32 >>> ((2 : Int32) &&& 31).toUInt32).toInt32) &&& (3 : Int32)) % (nv + (1 : Int32)))), .val (.int ((((p1.toUInt32 >>> ((4 : Int32) &&& 31).toUInt32).toInt32) &&& (3 : Int32)) % (nv + (1 : Int32)))), .val (.int sb), .val (.ref o1), .val (.ref o2)] [(.int (1 : Int32))])
          refine Go.st (T' := T16) (g' := (mkF m 226 #[.val (.int p1), .val (.int p2), .val (.int p3), .val (.int p4), .val (.int p5), .val (.int nv), .val (.int (nv + (1 : Int32))), .val (.ref oz), .val (.int ((((p1.toUInt32 >>> ((2 : Int32) &&& 31).toUInt32).toInt32) &&& (3 : Int32)) % (nv + (1 : Int32)))), .val (.int ((((p1.toUInt32 >>> ((4 : Int32) &&& 31).toUInt32).toInt32) &&& (3 : Int32)) % (nv + (1 : Int32)))), .val (.int sb), .val (.ref o1), .val (.ref o2)] [])) (fun t_ k_ => XS.ifNo X16.here hx rfl (hb hby at_223) rfl (by decide) k_) ?_
          refine Go.st (T' := T16) (g' := (mkF m 228 #[.val (.int p1), .val (.int p2), .val (.int p3), .val (.int p4), .val (.int p5), .val (.int nv), .val (.int (nv + (1 : Int32))), .val (.ref oz), .val (.int ((((p1.toUInt32 >>> ((2 : Int32) &&& 31).toUInt32).toInt32) &&& (3 : Int32)) % (nv + (1 : Int32)))), .val (.int ((((p1.toUInt32 >>> ((4 : Int32) &&& 31).toUInt32).toInt32) &&& (3 : Int32)) % (nv + (1 : Int32)))), .val (.int sb), .val (.ref o1), .val (.ref o2)] [(.ref o1)])) (fun t_ k_ => XS.aload X16.here hx rfl (hb hby at_226) rfl rfl k_) ?_
          refine Go.st (T' := T16) (g' := (mkF m 230 #[.val (.int p1), .val (.int p2), .val (.int p3), .val (.int p4), .val (.int p5), .val (.int nv), .val (.int (nv + (1 : Int32))), .val (.ref oz), .val (.int ((((p1.toUInt32 >>> ((2 : Int32) &&& 31).toUInt32).toInt32) &&& (3 : Int32)) % (nv + (1 : Int32)))), .val (.int ((((p1.toUInt32 >>> ((4 : Int32) &&& 31).toUInt32).toInt32) &&& (3 : Int32)) % (nv + (1 : Int32)))), .val (.int sb), .val (.ref o1), .val (.ref o2)] [(.ref o2), (.ref o1)])) (fun t_ k_ => XS.aload X16.here hx rfl (hb hby at_228) rfl rfl k_) ?_
          refine Go.st (T' := T16) (g' := (mkF m 232 #[.val (.int p1), .val (.int p2), .val (.int p3), .val (.int p4), .val (.int p5), .val (.int nv), .val (.int (nv + (1 : Int32))), .val (.ref oz), .val (.int ((((p1.toUInt32 >>> ((2 : Int32) &&& 31).toUInt32).toInt32) &&& (3 : Int32)) % (nv + (1 : Int32)))), .val (.int ((((p1.toUInt32 >>> ((4 : Int32) &&& 31).toUInt32).toInt32) &&& (3 : Int32)) % (nv + (1 : Int32)))), .val (.int sb), .val (.ref o1), .val (.ref o2)] [(.int (6 : Int32)), (.ref o2), (.ref o1)])) (fun t_ k_ => XS.bipush X16.here hx rfl (hb hby at_230) k_) ?_
          refine Go.st (T' := T16) (g' := (mkF m 234 #[.val (.int p1), .val (.int p2), .val (.int p3), .val (.int p4), .val (.int p5), .val (.int nv), .val (.int (nv + (1 : Int32))), .val (.ref oz), .val (.int ((((p1.toUInt32 >>> ((2 : Int32) &&& 31).toUInt32).toInt32) &&& (3 : Int32)) % (nv + (1 : Int32)))), .val (.int ((((p1.toUInt32 >>> ((4 : Int32) &&& 31).toUInt32).toInt32) &&& (3 : Int32)) % (nv + (1 : Int32)))), .val (.int sb), .val (.ref o1), .val (.ref o2)] [(.int (nv + (1 : Int32))), (.int (6 : Int32)), (.ref o2), (.ref o1)])) (fun t_ k_ => XS.iload X16.here hx rfl (hb hby at_232) rfl k_) ?_
          refine goStatic X16 hx hZ (y := (⟨"com/example/utu/utu/check/ZoneUpPinLaw", "ok", "([J[JII)Z"⟩ : MethodName)) hown (hw _ (List.mem_of_getElem? (i := 50) rfl)) (hw _ (List.mem_of_getElem? (i := 51) rfl)) (hw _ (List.mem_of_getElem? (i := 52) rfl)) (hw _ (List.mem_of_getElem? (i := 53) rfl)) (by decide) (rm10 l Z a0 hw [] n0 h10 o1 o2 (6 : Int32) (nv + (1 : Int32)) N (fun i => (if i < N then f3 i else (fun _ => 0) i)) (fun i => (if i < N then f4 i else (fun _ => 0) i)) sz10 f10_15 p10_0 (hD) (⟨by decide, by decide⟩) (own_relx hup _)) 0 (by decide) (by decide) (by rw [hml]; rfl) [(.ref o1), (.ref o2), (.int (6 : Int32)), (.int (nv + (1 : Int32)))] [] (lenOf pd_15b2cf97 rfl) rfl rfl rfl (hb hby at_234) (by decide) (by decide) fun v17 T17 h17 X17 hq17 => ?_
          obtain ⟨rfl, eh17⟩ := hq17
          rw [eh17] at X17
          show Go p e below _ T17 (mkF m 237 #[.val (.int p1), .val (.int p2), .val (.int p3), .val (.int p4), .val (.int p5), .val (.int nv), .val (.int (nv + (1 : Int32))), .val (.ref oz), .val (.int ((((p1.toUInt32 >>> ((2 : Int32) &&& 31).toUInt32).toInt32) &&& (3 : Int32)) % (nv + (1 : Int32)))), .val (.int ((((p1.toUInt32 >>> ((4 : Int32) &&& 31).toUInt32).toInt32) &&& (3 : Int32)) % (nv + (1 : Int32)))), .val (.int sb), .val (.ref o1), .val (.ref o2)] [(.int (1 : Int32))])
          refine Go.st (T' := T17) (g' := (mkF m 240 #[.val (.int p1), .val (.int p2), .val (.int p3), .val (.int p4), .val (.int p5), .val (.int nv), .val (.int (nv + (1 : Int32))), .val (.ref oz), .val (.int ((((p1.toUInt32 >>> ((2 : Int32) &&& 31).toUInt32).toInt32) &&& (3 : Int32)) % (nv + (1 : Int32)))), .val (.int ((((p1.toUInt32 >>> ((4 : Int32) &&& 31).toUInt32).toInt32) &&& (3 : Int32)) % (nv + (1 : Int32)))), .val (.int sb), .val (.ref o1), .val (.ref o2)] [])) (fun t_ k_ => XS.ifNo X17.here hx rfl (hb hby at_237) rfl (by decide) k_) ?_
          refine Go.st (T' := T17) (g' := (mkF m 242 #[.val (.int p1), .val (.int p2), .val (.int p3), .val (.int p4), .val (.int p5), .val (.int nv), .val (.int (nv + (1 : Int32))), .val (.ref oz), .val (.int ((((p1.toUInt32 >>> ((2 : Int32) &&& 31).toUInt32).toInt32) &&& (3 : Int32)) % (nv + (1 : Int32)))), .val (.int ((((p1.toUInt32 >>> ((4 : Int32) &&& 31).toUInt32).toInt32) &&& (3 : Int32)) % (nv + (1 : Int32)))), .val (.int sb), .val (.ref o1), .val (.ref o2)] [(.ref o1)])) (fun t_ k_ => XS.aload X17.here hx rfl (hb hby at_240) rfl rfl k_) ?_
          refine Go.st (T' := T17) (g' := (mkF m 244 #[.val (.int p1), .val (.int p2), .val (.int p3), .val (.int p4), .val (.int p5), .val (.int nv), .val (.int (nv + (1 : Int32))), .val (.ref oz), .val (.int ((((p1.toUInt32 >>> ((2 : Int32) &&& 31).toUInt32).toInt32) &&& (3 : Int32)) % (nv + (1 : Int32)))), .val (.int ((((p1.toUInt32 >>> ((4 : Int32) &&& 31).toUInt32).toInt32) &&& (3 : Int32)) % (nv + (1 : Int32)))), .val (.int sb), .val (.ref o1), .val (.ref o2)] [(.ref o2), (.ref o1)])) (fun t_ k_ => XS.aload X17.here hx rfl (hb hby at_242) rfl rfl k_) ?_
          refine Go.st (T' := T17) (g' := (mkF m 246 #[.val (.int p1), .val (.int p2), .val (.int p3), .val (.int p4), .val (.int p5), .val (.int nv), .val (.int (nv + (1 : Int32))), .val (.ref oz), .val (.int ((((p1.toUInt32 >>> ((2 : Int32) &&& 31).toUInt32).toInt32) &&& (3 : Int32)) % (nv + (1 : Int32)))), .val (.int ((((p1.toUInt32 >>> ((4 : Int32) &&& 31).toUInt32).toInt32) &&& (3 : Int32)) % (nv + (1 : Int32)))), .val (.int sb), .val (.ref o1), .val (.ref o2)] [(.int (7 : Int32)), (.ref o2), (.ref o1)])) (fun t_ k_ => XS.bipush X17.here hx rfl (hb hby at_244) k_) ?_
          refine Go.st (T' := T17) (g' := (mkF m 248 #[.val (.int p1), .val (.int p2), .val (.int p3), .val (.int p4), .val (.int p5), .val (.int nv), .val (.int (nv + (1 : Int32))), .val (.ref oz), .val (.int ((((p1.toUInt32 >>> ((2 : Int32) &&& 31).toUInt32).toInt32) &&& (3 : Int32)) % (nv + (1 : Int32)))), .val (.int ((((p1.toUInt32 >>> ((4 : Int32) &&& 31).toUInt32).toInt32) &&& (3 : Int32)) % (nv + (1 : Int32)))), .val (.int sb), .val (.ref o1), .val (.ref o2)] [(.int (nv + (1 : Int32))), (.int (7 : Int32)), (.ref o2), (.ref o1)])) (fun t_ k_ => XS.iload X17.here hx rfl (hb hby at_246) rfl k_) ?_
          refine goStatic X17 hx hZ (y := (⟨"com/example/utu/utu/check/ZoneUpPinLaw", "ok", "([J[JII)Z"⟩ : MethodName)) hown (hw _ (List.mem_of_getElem? (i := 50) rfl)) (hw _ (List.mem_of_getElem? (i := 51) rfl)) (hw _ (List.mem_of_getElem? (i := 52) rfl)) (hw _ (List.mem_of_getElem? (i := 53) rfl)) (by decide) (rm10 l Z a0 hw [] n0 h10 o1 o2 (7 : Int32) (nv + (1 : Int32)) N (fun i => (if i < N then f3 i else (fun _ => 0) i)) (fun i => (if i < N then f4 i else (fun _ => 0) i)) sz10 f10_15 p10_0 (hD) (⟨by decide, by decide⟩) (own_relx hup _)) 0 (by decide) (by decide) (by rw [hml]; rfl) [(.ref o1), (.ref o2), (.int (7 : Int32)), (.int (nv + (1 : Int32)))] [] (lenOf pd_15b2cf97 rfl) rfl rfl rfl (hb hby at_248) (by decide) (by decide) fun v18 T18 h18 X18 hq18 => ?_
          obtain ⟨rfl, eh18⟩ := hq18
          rw [eh18] at X18
          show Go p e below _ T18 (mkF m 251 #[.val (.int p1), .val (.int p2), .val (.int p3), .val (.int p4), .val (.int p5), .val (.int nv), .val (.int (nv + (1 : Int32))), .val (.ref oz), .val (.int ((((p1.toUInt32 >>> ((2 : Int32) &&& 31).toUInt32).toInt32) &&& (3 : Int32)) % (nv + (1 : Int32)))), .val (.int ((((p1.toUInt32 >>> ((4 : Int32) &&& 31).toUInt32).toInt32) &&& (3 : Int32)) % (nv + (1 : Int32)))), .val (.int sb), .val (.ref o1), .val (.ref o2)] [(.int (1 : Int32))])
          refine Go.st (T' := T18) (g' := (mkF m 254 #[.val (.int p1), .val (.int p2), .val (.int p3), .val (.int p4), .val (.int p5), .val (.int nv), .val (.int (nv + (1 : Int32))), .val (.ref oz), .val (.int ((((p1.toUInt32 >>> ((2 : Int32) &&& 31).toUInt32).toInt32) &&& (3 : Int32)) % (nv + (1 : Int32)))), .val (.int ((((p1.toUInt32 >>> ((4 : Int32) &&& 31).toUInt32).toInt32) &&& (3 : Int32)) % (nv + (1 : Int32)))), .val (.int sb), .val (.ref o1), .val (.ref o2)] [])) (fun t_ k_ => XS.ifNo X18.here hx rfl (hb hby at_251) rfl (by decide) k_) ?_
          refine Go.st (T' := T18) (g' := (mkF m 256 #[.val (.int p1), .val (.int p2), .val (.int p3), .val (.int p4), .val (.int p5), .val (.int nv), .val (.int (nv + (1 : Int32))), .val (.ref oz), .val (.int ((((p1.toUInt32 >>> ((2 : Int32) &&& 31).toUInt32).toInt32) &&& (3 : Int32)) % (nv + (1 : Int32)))), .val (.int ((((p1.toUInt32 >>> ((4 : Int32) &&& 31).toUInt32).toInt32) &&& (3 : Int32)) % (nv + (1 : Int32)))), .val (.int sb), .val (.ref o1), .val (.ref o2)] [(.ref o1)])) (fun t_ k_ => XS.aload X18.here hx rfl (hb hby at_254) rfl rfl k_) ?_
          refine Go.st (T' := T18) (g' := (mkF m 258 #[.val (.int p1), .val (.int p2), .val (.int p3), .val (.int p4), .val (.int p5), .val (.int nv), .val (.int (nv + (1 : Int32))), .val (.ref oz), .val (.int ((((p1.toUInt32 >>> ((2 : Int32) &&& 31).toUInt32).toInt32) &&& (3 : Int32)) % (nv + (1 : Int32)))), .val (.int ((((p1.toUInt32 >>> ((4 : Int32) &&& 31).toUInt32).toInt32) &&& (3 : Int32)) % (nv + (1 : Int32)))), .val (.int sb), .val (.ref o1), .val (.ref o2)] [(.ref o2), (.ref o1)])) (fun t_ k_ => XS.aload X18.here hx rfl (hb hby at_256) rfl rfl k_) ?_
          refine Go.st (T' := T18) (g' := (mkF m 260 #[.val (.int p1), .val (.int p2), .val (.int p3), .val (.int p4), .val (.int p5), .val (.int nv), .val (.int (nv + (1 : Int32))), .val (.ref oz), .val (.int ((((p1.toUInt32 >>> ((2 : Int32) &&& 31).toUInt32).toInt32) &&& (3 : Int32)) % (nv + (1 : Int32)))), .val (.int ((((p1.toUInt32 >>> ((4 : Int32) &&& 31).toUInt32).toInt32) &&& (3 : Int32)) % (nv + (1 : Int32)))), .val (.int sb), .val (.ref o1), .val (.ref o2)] [(.int (8 : Int32)), (.ref o2), (.ref o1)])) (fun t_ k_ => XS.bipush X18.here hx rfl (hb hby at_258) k_) ?_
          refine Go.st (T' := T18) (g' := (mkF m 262 #[.val (.int p1), .val (.int p2), .val (.int p3), .val (.int p4), .val (.int p5), .val (.int nv), .val (.int (nv + (1 : Int32))), .val (.ref oz), .val (.int ((((p1.toUInt32 >>> ((2 : Int32) &&& 31).toUInt32).toInt32) &&& (3 : Int32)) % (nv + (1 : Int32)))), .val (.int ((((p1.toUInt32 >>> ((4 : Int32) &&& 31).toUInt32).toInt32) &&& (3 : Int32)) % (nv + (1 : Int32)))), .val (.int sb), .val (.ref o1), .val (.ref o2)] [(.int (nv + (1 : Int32))), (.int (8 : Int32)), (.ref o2), (.ref o1)])) (fun t_ k_ => XS.iload X18.here hx rfl (hb hby at_260) rfl k_) ?_
          refine goStatic X18 hx hZ (y := (⟨"com/example/utu/utu/check/ZoneUpPinLaw", "ok", "([J[JII)Z"⟩ : MethodName)) hown (hw _ (List.mem_of_getElem? (i := 50) rfl)) (hw _ (List.mem_of_getElem? (i := 51) rfl)) (hw _ (List.mem_of_getElem? (i := 52) rfl)) (hw _ (List.mem_of_getElem? (i := 53) rfl)) (by decide) (rm10 l Z a0 hw [] n0 h10 o1 o2 (8 : Int32) (nv + (1 : Int32)) N (fun i => (if i < N then f3 i else (fun _ => 0) i)) (fun i => (if i < N then f4 i else (fun _ => 0) i)) sz10 f10_15 p10_0 (hD) (⟨by decide, by decide⟩) (own_relx hup _)) 0 (by decide) (by decide) (by rw [hml]; rfl) [(.ref o1), (.ref o2), (.int (8 : Int32)), (.int (nv + (1 : Int32)))] [] (lenOf pd_15b2cf97 rfl) rfl rfl rfl (hb hby at_262) (by decide) (by decide) fun v19 T19 h19 X19 hq19 => ?_
          obtain ⟨rfl, eh19⟩ := hq19
          rw [eh19] at X19
          show Go p e below _ T19 (mkF m 265 #[.val (.int p1), .val (.int p2), .val (.int p3), .val (.int p4), .val (.int p5), .val (.int nv), .val (.int (nv + (1 : Int32))), .val (.ref oz), .val (.int ((((p1.toUInt32 >>> ((2 : Int32) &&& 31).toUInt32).toInt32) &&& (3 : Int32)) % (nv + (1 : Int32)))), .val (.int ((((p1.toUInt32 >>> ((4 : Int32) &&& 31).toUInt32).toInt32) &&& (3 : Int32)) % (nv + (1 : Int32)))), .val (.int sb), .val (.ref o1), .val (.ref o2)] [(.int (1 : Int32))])
          refine Go.st (T' := T19) (g' := (mkF m 268 #[.val (.int p1), .val (.int p2), .val (.int p3), .val (.int p4), .val (.int p5), .val (.int nv), .val (.int (nv + (1 : Int32))), .val (.ref oz), .val (.int ((((p1.toUInt32 >>> ((2 : Int32) &&& 31).toUInt32).toInt32) &&& (3 : Int32)) % (nv + (1 : Int32)))), .val (.int ((((p1.toUInt32 >>> ((4 : Int32) &&& 31).toUInt32).toInt32) &&& (3 : Int32)) % (nv + (1 : Int32)))), .val (.int sb), .val (.ref o1), .val (.ref o2)] [])) (fun t_ k_ => XS.ifNo X19.here hx rfl (hb hby at_265) rfl (by decide) k_) ?_
          refine Go.st (T' := T19) (g' := (mkF m 270 #[.val (.int p1), .val (.int p2), .val (.int p3), .val (.int p4), .val (.int p5), .val (.int nv), .val (.int (nv + (1 : Int32))), .val (.ref oz), .val (.int ((((p1.toUInt32 >>> ((2 : Int32) &&& 31).toUInt32).toInt32) &&& (3 : Int32)) % (nv + (1 : Int32)))), .val (.int ((((p1.toUInt32 >>> ((4 : Int32) &&& 31).toUInt32).toInt32) &&& (3 : Int32)) % (nv + (1 : Int32)))), .val (.int sb), .val (.ref o1), .val (.ref o2)] [(.ref o1)])) (fun t_ k_ => XS.aload X19.here hx rfl (hb hby at_268) rfl rfl k_) ?_
          refine Go.st (T' := T19) (g' := (mkF m 272 #[.val (.int p1), .val (.int p2), .val (.int p3), .val (.int p4), .val (.int p5), .val (.int nv), .val (.int (nv + (1 : Int32))), .val (.ref oz), .val (.int ((((p1.toUInt32 >>> ((2 : Int32) &&& 31).toUInt32).toInt32) &&& (3 : Int32)) % (nv + (1 : Int32)))), .val (.int ((((p1.toUInt32 >>> ((4 : Int32) &&& 31).toUInt32).toInt32) &&& (3 : Int32)) % (nv + (1 : Int32)))), .val (.int sb), .val (.ref o1), .val (.ref o2)] [(.ref o2), (.ref o1)])) (fun t_ k_ => XS.aload X19.here hx rfl (hb hby at_270) rfl rfl k_) ?_
          refine Go.st (T' := T19) (g' := (mkF m 274 #[.val (.int p1), .val (.int p2), .val (.int p3), .val (.int p4), .val (.int p5), .val (.int nv), .val (.int (nv + (1 : Int32))), .val (.ref oz), .val (.int ((((p1.toUInt32 >>> ((2 : Int32) &&& 31).toUInt32).toInt32) &&& (3 : Int32)) % (nv + (1 : Int32)))), .val (.int ((((p1.toUInt32 >>> ((4 : Int32) &&& 31).toUInt32).toInt32) &&& (3 : Int32)) % (nv + (1 : Int32)))), .val (.int sb), .val (.ref o1), .val (.ref o2)] [(.int (9 : Int32)), (.ref o2), (.ref o1)])) (fun t_ k_ => XS.bipush X19.here hx rfl (hb hby at_272) k_) ?_
          refine Go.st (T' := T19) (g' := (mkF m 276 #[.val (.int p1), .val (.int p2), .val (.int p3), .val (.int p4), .val (.int p5), .val (.int nv), .val (.int (nv + (1 : Int32))), .val (.ref oz), .val (.int ((((p1.toUInt32 >>> ((2 : Int32) &&& 31).toUInt32).toInt32) &&& (3 : Int32)) % (nv + (1 : Int32)))), .val (.int ((((p1.toUInt32 >>> ((4 : Int32) &&& 31).toUInt32).toInt32) &&& (3 : Int32)) % (nv + (1 : Int32)))), .val (.int sb), .val (.ref o1), .val (.ref o2)] [(.int (nv + (1 : Int32))), (.int (9 : Int32)), (.ref o2), (.ref o1)])) (fun t_ k_ => XS.iload X19.here hx rfl (hb hby at_274) rfl k_) ?_
          refine goStatic X19 hx hZ (y := (⟨"com/example/utu/utu/check/ZoneUpPinLaw", "ok", "([J[JII)Z"⟩ : MethodName)) hown (hw _ (List.mem_of_getElem? (i := 50) rfl)) (hw _ (List.mem_of_getElem? (i := 51) rfl)) (hw _ (List.mem_of_getElem? (i := 52) rfl)) (hw _ (List.mem_of_getElem? (i := 53) rfl)) (by decide) (rm10 l Z a0 hw [] n0 h10 o1 o2 (9 : Int32) (nv + (1 : Int32)) N (fun i => (if i < N then f3 i else (fun _ => 0) i)) (fun i => (if i < N then f4 i else (fun _ => 0) i)) sz10 f10_15 p10_0 (hD) (⟨by decide, by decide⟩) (own_relx hup _)) 0 (by decide) (by decide) (by rw [hml]; rfl) [(.ref o1), (.ref o2), (.int (9 : Int32)), (.int (nv + (1 : Int32)))] [] (lenOf pd_15b2cf97 rfl) rfl rfl rfl (hb hby at_276) (by decide) (by decide) fun v20 T20 h20 X20 hq20 => ?_
          obtain ⟨rfl, eh20⟩ := hq20
          rw [eh20] at X20
          show Go p e below _ T20 (mkF m 279 #[.val (.int p1), .val (.int p2), .val (.int p3), .val (.int p4), .val (.int p5), .val (.int nv), .val (.int (nv + (1 : Int32))), .val (.ref oz), .val (.int ((((p1.toUInt32 >>> ((2 : Int32) &&& 31).toUInt32).toInt32) &&& (3 : Int32)) % (nv + (1 : Int32)))), .val (.int ((((p1.toUInt32 >>> ((4 : Int32) &&& 31).toUInt32).toInt32) &&& (3 : Int32)) % (nv + (1 : Int32)))), .val (.int sb), .val (.ref o1), .val (.ref o2)] [(.int (1 : Int32))])
          refine Go.st (T' := T20) (g' := (mkF m 282 #[.val (.int p1), .val (.int p2), .val (.int p3), .val (.int p4), .val (.int p5), .val (.int nv), .val (.int (nv + (1 : Int32))), .val (.ref oz), .val (.int ((((p1.toUInt32 >>> ((2 : Int32) &&& 31).toUInt32).toInt32) &&& (3 : Int32)) % (nv + (1 : Int32)))), .val (.int ((((p1.toUInt32 >>> ((4 : Int32) &&& 31).toUInt32).toInt32) &&& (3 : Int32)) % (nv + (1 : Int32)))), .val (.int sb), .val (.ref o1), .val (.ref o2)] [])) (fun t_ k_ => XS.ifNo X20.here hx rfl (hb hby at_279) rfl (by decide) k_) ?_
          refine Go.st (T' := T20) (g' := (mkF m 284 #[.val (.int p1), .val (.int p2), .val (.int p3), .val (.int p4), .val (.int p5), .val (.int nv), .val (.int (nv + (1 : Int32))), .val (.ref oz), .val (.int ((((p1.toUInt32 >>> ((2 : Int32) &&& 31).toUInt32).toInt32) &&& (3 : Int32)) % (nv + (1 : Int32)))), .val (.int ((((p1.toUInt32 >>> ((4 : Int32) &&& 31).toUInt32).toInt32) &&& (3 : Int32)) % (nv + (1 : Int32)))), .val (.int sb), .val (.ref o1), .val (.ref o2)] [(.ref o1)])) (fun t_ k_ => XS.aload X20.here hx rfl (hb hby at_282) rfl rfl k_) ?_
          refine Go.st (T' := T20) (g' := (mkF m 286 #[.val (.int p1), .val (.int p2), .val (.int p3), .val (.int p4), .val (.int p5), .val (.int nv), .val (.int (nv + (1 : Int32))), .val (.ref oz), .val (.int ((((p1.toUInt32 >>> ((2 : Int32) &&& 31).toUInt32).toInt32) &&& (3 : Int32)) % (nv + (1 : Int32)))), .val (.int ((((p1.toUInt32 >>> ((4 : Int32) &&& 31).toUInt32).toInt32) &&& (3 : Int32)) % (nv + (1 : Int32)))), .val (.int sb), .val (.ref o1), .val (.ref o2)] [(.ref o2), (.ref o1)])) (fun t_ k_ => XS.aload X20.here hx rfl (hb hby at_284) rfl rfl k_) ?_
          refine Go.st (T' := T20) (g' := (mkF m 288 #[.val (.int p1), .val (.int p2), .val (.int p3), .val (.int p4), .val (.int p5), .val (.int nv), .val (.int (nv + (1 : Int32))), .val (.ref oz), .val (.int ((((p1.toUInt32 >>> ((2 : Int32) &&& 31).toUInt32).toInt32) &&& (3 : Int32)) % (nv + (1 : Int32)))), .val (.int ((((p1.toUInt32 >>> ((4 : Int32) &&& 31).toUInt32).toInt32) &&& (3 : Int32)) % (nv + (1 : Int32)))), .val (.int sb), .val (.ref o1), .val (.ref o2)] [(.int (10 : Int32)), (.ref o2), (.ref o1)])) (fun t_ k_ => XS.bipush X20.here hx rfl (hb hby at_286) k_) ?_
          refine Go.st (T' := T20) (g' := (mkF m 290 #[.val (.int p1), .val (.int p2), .val (.int p3), .val (.int p4), .val (.int p5), .val (.int nv), .val (.int (nv + (1 : Int32))), .val (.ref oz), .val (.int ((((p1.toUInt32 >>> ((2 : Int32) &&& 31).toUInt32).toInt32) &&& (3 : Int32)) % (nv + (1 : Int32)))), .val (.int ((((p1.toUInt32 >>> ((4 : Int32) &&& 31).toUInt32).toInt32) &&& (3 : Int32)) % (nv + (1 : Int32)))), .val (.int sb), .val (.ref o1), .val (.ref o2)] [(.int (nv + (1 : Int32))), (.int (10 : Int32)), (.ref o2), (.ref o1)])) (fun t_ k_ => XS.iload X20.here hx rfl (hb hby at_288) rfl k_) ?_
          refine goStatic X20 hx hZ (y := (⟨"com/example/utu/utu/check/ZoneUpPinLaw", "ok", "([J[JII)Z"⟩ : MethodName)) hown (hw _ (List.mem_of_getElem? (i := 50) rfl)) (hw _ (List.mem_of_getElem? (i := 51) rfl)) (hw _ (List.mem_of_getElem? (i := 52) rfl)) (hw _ (List.mem_of_getElem? (i := 53) rfl)) (by decide) (rm10 l Z a0 hw [] n0 h10 o1 o2 (10 : Int32) (nv + (1 : Int32)) N (fun i => (if i < N then f3 i else (fun _ => 0) i)) (fun i => (if i < N then f4 i else (fun _ => 0) i)) sz10 f10_15 p10_0 (hD) (⟨by decide, by decide⟩) (own_relx hup _)) 0 (by decide) (by decide) (by rw [hml]; rfl) [(.ref o1), (.ref o2), (.int (10 : Int32)), (.int (nv + (1 : Int32)))] [] (lenOf pd_15b2cf97 rfl) rfl rfl rfl (hb hby at_290) (by decide) (by decide) fun v21 T21 h21 X21 hq21 => ?_
          obtain ⟨rfl, eh21⟩ := hq21
          rw [eh21] at X21
          show Go p e below _ T21 (mkF m 293 #[.val (.int p1), .val (.int p2), .val (.int p3), .val (.int p4), .val (.int p5), .val (.int nv), .val (.int (nv + (1 : Int32))), .val (.ref oz), .val (.int ((((p1.toUInt32 >>> ((2 : Int32) &&& 31).toUInt32).toInt32) &&& (3 : Int32)) % (nv + (1 : Int32)))), .val (.int ((((p1.toUInt32 >>> ((4 : Int32) &&& 31).toUInt32).toInt32) &&& (3 : Int32)) % (nv + (1 : Int32)))), .val (.int sb), .val (.ref o1), .val (.ref o2)] [(.int (1 : Int32))])
          refine Go.st (T' := T21) (g' := (mkF m 296 #[.val (.int p1), .val (.int p2), .val (.int p3), .val (.int p4), .val (.int p5), .val (.int nv), .val (.int (nv + (1 : Int32))), .val (.ref oz), .val (.int ((((p1.toUInt32 >>> ((2 : Int32) &&& 31).toUInt32).toInt32) &&& (3 : Int32)) % (nv + (1 : Int32)))), .val (.int ((((p1.toUInt32 >>> ((4 : Int32) &&& 31).toUInt32).toInt32) &&& (3 : Int32)) % (nv + (1 : Int32)))), .val (.int sb), .val (.ref o1), .val (.ref o2)] [])) (fun t_ k_ => XS.ifNo X21.here hx rfl (hb hby at_293) rfl (by decide) k_) ?_
          refine Go.st (T' := T21) (g' := (mkF m 298 #[.val (.int p1), .val (.int p2), .val (.int p3), .val (.int p4), .val (.int p5), .val (.int nv), .val (.int (nv + (1 : Int32))), .val (.ref oz), .val (.int ((((p1.toUInt32 >>> ((2 : Int32) &&& 31).toUInt32).toInt32) &&& (3 : Int32)) % (nv + (1 : Int32)))), .val (.int ((((p1.toUInt32 >>> ((4 : Int32) &&& 31).toUInt32).toInt32) &&& (3 : Int32)) % (nv + (1 : Int32)))), .val (.int sb), .val (.ref o1), .val (.ref o2)] [(.ref o1)])) (fun t_ k_ => XS.aload X21.here hx rfl (hb hby at_296) rfl rfl k_) ?_
          refine Go.st (T' := T21) (g' := (mkF m 300 #[.val (.int p1), .val (.int p2), .val (.int p3), .val (.int p4), .val (.int p5), .val (.int nv), .val (.int (nv + (1 : Int32))), .val (.ref oz), .val (.int ((((p1.toUInt32 >>> ((2 : Int32) &&& 31).toUInt32).toInt32) &&& (3 : Int32)) % (nv + (1 : Int32)))), .val (.int ((((p1.toUInt32 >>> ((4 : Int32) &&& 31).toUInt32).toInt32) &&& (3 : Int32)) % (nv + (1 : Int32)))), .val (.int sb), .val (.ref o1), .val (.ref o2)] [(.ref o2), (.ref o1)])) (fun t_ k_ => XS.aload X21.here hx rfl (hb hby at_298) rfl rfl k_) ?_
          refine Go.st (T' := T21) (g' := (mkF m 302 #[.val (.int p1), .val (.int p2), .val (.int p3), .val (.int p4), .val (.int p5), .val (.int nv), .val (.int (nv + (1 : Int32))), .val (.ref oz), .val (.int ((((p1.toUInt32 >>> ((2 : Int32) &&& 31).toUInt32).toInt32) &&& (3 : Int32)) % (nv + (1 : Int32)))), .val (.int ((((p1.toUInt32 >>> ((4 : Int32) &&& 31).toUInt32).toInt32) &&& (3 : Int32)) % (nv + (1 : Int32)))), .val (.int sb), .val (.ref o1), .val (.ref o2)] [(.int (11 : Int32)), (.ref o2), (.ref o1)])) (fun t_ k_ => XS.bipush X21.here hx rfl (hb hby at_300) k_) ?_
          refine Go.st (T' := T21) (g' := (mkF m 304 #[.val (.int p1), .val (.int p2), .val (.int p3), .val (.int p4), .val (.int p5), .val (.int nv), .val (.int (nv + (1 : Int32))), .val (.ref oz), .val (.int ((((p1.toUInt32 >>> ((2 : Int32) &&& 31).toUInt32).toInt32) &&& (3 : Int32)) % (nv + (1 : Int32)))), .val (.int ((((p1.toUInt32 >>> ((4 : Int32) &&& 31).toUInt32).toInt32) &&& (3 : Int32)) % (nv + (1 : Int32)))), .val (.int sb), .val (.ref o1), .val (.ref o2)] [(.int (nv + (1 : Int32))), (.int (11 : Int32)), (.ref o2), (.ref o1)])) (fun t_ k_ => XS.iload X21.here hx rfl (hb hby at_302) rfl k_) ?_
          refine goStatic X21 hx hZ (y := (⟨"com/example/utu/utu/check/ZoneUpPinLaw", "ok", "([J[JII)Z"⟩ : MethodName)) hown (hw _ (List.mem_of_getElem? (i := 50) rfl)) (hw _ (List.mem_of_getElem? (i := 51) rfl)) (hw _ (List.mem_of_getElem? (i := 52) rfl)) (hw _ (List.mem_of_getElem? (i := 53) rfl)) (by decide) (rm10 l Z a0 hw [] n0 h10 o1 o2 (11 : Int32) (nv + (1 : Int32)) N (fun i => (if i < N then f3 i else (fun _ => 0) i)) (fun i => (if i < N then f4 i else (fun _ => 0) i)) sz10 f10_15 p10_0 (hD) (⟨by decide, by decide⟩) (own_relx hup _)) 0 (by decide) (by decide) (by rw [hml]; rfl) [(.ref o1), (.ref o2), (.int (11 : Int32)), (.int (nv + (1 : Int32)))] [] (lenOf pd_15b2cf97 rfl) rfl rfl rfl (hb hby at_304) (by decide) (by decide) fun v22 T22 h22 X22 hq22 => ?_
          obtain ⟨rfl, eh22⟩ := hq22
          rw [eh22] at X22
          show Go p e below _ T22 (mkF m 307 #[.val (.int p1), .val (.int p2), .val (.int p3), .val (.int p4), .val (.int p5), .val (.int nv), .val (.int (nv + (1 : Int32))), .val (.ref oz), .val (.int ((((p1.toUInt32 >>> ((2 : Int32) &&& 31).toUInt32).toInt32) &&& (3 : Int32)) % (nv + (1 : Int32)))), .val (.int ((((p1.toUInt32 >>> ((4 : Int32) &&& 31).toUInt32).toInt32) &&& (3 : Int32)) % (nv + (1 : Int32)))), .val (.int sb), .val (.ref o1), .val (.ref o2)] [(.int (1 : Int32))])
          refine Go.st (T' := T22) (g' := (mkF m 310 #[.val (.int p1), .val (.int p2), .val (.int p3), .val (.int p4), .val (.int p5), .val (.int nv), .val (.int (nv + (1 : Int32))), .val (.ref oz), .val (.int ((((p1.toUInt32 >>> ((2 : Int32) &&& 31).toUInt32).toInt32) &&& (3 : Int32)) % (nv + (1 : Int32)))), .val (.int ((((p1.toUInt32 >>> ((4 : Int32) &&& 31).toUInt32).toInt32) &&& (3 : Int32)) % (nv + (1 : Int32)))), .val (.int sb), .val (.ref o1), .val (.ref o2)] [])) (fun t_ k_ => XS.ifNo X22.here hx rfl (hb hby at_307) rfl (by decide) k_) ?_
          refine Go.st (T' := T22) (g' := (mkF m 312 #[.val (.int p1), .val (.int p2), .val (.int p3), .val (.int p4), .val (.int p5), .val (.int nv), .val (.int (nv + (1 : Int32))), .val (.ref oz), .val (.int ((((p1.toUInt32 >>> ((2 : Int32) &&& 31).toUInt32).toInt32) &&& (3 : Int32)) % (nv + (1 : Int32)))), .val (.int ((((p1.toUInt32 >>> ((4 : Int32) &&& 31).toUInt32).toInt32) &&& (3 : Int32)) % (nv + (1 : Int32)))), .val (.int sb), .val (.ref o1), .val (.ref o2)] [(.ref o1)])) (fun t_ k_ => XS.aload X22.here hx rfl (hb hby at_310) rfl rfl k_) ?_
          refine Go.st (T' := T22) (g' := (mkF m 314 #[.val (.int p1), .val (.int p2), .val (.int p3), .val (.int p4), .val (.int p5), .val (.int nv), .val (.int (nv + (1 : Int32))), .val (.ref oz), .val (.int ((((p1.toUInt32 >>> ((2 : Int32) &&& 31).toUInt32).toInt32) &&& (3 : Int32)) % (nv + (1 : Int32)))), .val (.int ((((p1.toUInt32 >>> ((4 : Int32) &&& 31).toUInt32).toInt32) &&& (3 : Int32)) % (nv + (1 : Int32)))), .val (.int sb), .val (.ref o1), .val (.ref o2)] [(.ref o2), (.ref o1)])) (fun t_ k_ => XS.aload X22.here hx rfl (hb hby at_312) rfl rfl k_) ?_
          refine Go.st (T' := T22) (g' := (mkF m 316 #[.val (.int p1), .val (.int p2), .val (.int p3), .val (.int p4), .val (.int p5), .val (.int nv), .val (.int (nv + (1 : Int32))), .val (.ref oz), .val (.int ((((p1.toUInt32 >>> ((2 : Int32) &&& 31).toUInt32).toInt32) &&& (3 : Int32)) % (nv + (1 : Int32)))), .val (.int ((((p1.toUInt32 >>> ((4 : Int32) &&& 31).toUInt32).toInt32) &&& (3 : Int32)) % (nv + (1 : Int32)))), .val (.int sb), .val (.ref o1), .val (.ref o2)] [(.int (12 : Int32)), (.ref o2), (.ref o1)])) (fun t_ k_ => XS.bipush X22.here hx rfl (hb hby at_314) k_) ?_
          refine Go.st (T' := T22) (g' := (mkF m 318 #[.val (.int p1), .val (.int p2), .val (.int p3), .val (.int p4), .val (.int p5), .val (.int nv), .val (.int (nv + (1 : Int32))), .val (.ref oz), .val (.int ((((p1.toUInt32 >>> ((2 : Int32) &&& 31).toUInt32).toInt32) &&& (3 : Int32)) % (nv + (1 : Int32)))), .val (.int ((((p1.toUInt32 >>> ((4 : Int32) &&& 31).toUInt32).toInt32) &&& (3 : Int32)) % (nv + (1 : Int32)))), .val (.int sb), .val (.ref o1), .val (.ref o2)] [(.int (nv + (1 : Int32))), (.int (12 : Int32)), (.ref o2), (.ref o1)])) (fun t_ k_ => XS.iload X22.here hx rfl (hb hby at_316) rfl k_) ?_
          refine goStatic X22 hx hZ (y := (⟨"com/example/utu/utu/check/ZoneUpPinLaw", "ok", "([J[JII)Z"⟩ : MethodName)) hown (hw _ (List.mem_of_getElem? (i := 50) rfl)) (hw _ (List.mem_of_getElem? (i := 51) rfl)) (hw _ (List.mem_of_getElem? (i := 52) rfl)) (hw _ (List.mem_of_getElem? (i := 53) rfl)) (by decide) (rm10 l Z a0 hw [] n0 h10 o1 o2 (12 : Int32) (nv + (1 : Int32)) N (fun i => (if i < N then f3 i else (fun _ => 0) i)) (fun i => (if i < N then f4 i else (fun _ => 0) i)) sz10 f10_15 p10_0 (hD) (⟨by decide, by decide⟩) (own_relx hup _)) 0 (by decide) (by decide) (by rw [hml]; rfl) [(.ref o1), (.ref o2), (.int (12 : Int32)), (.int (nv + (1 : Int32)))] [] (lenOf pd_15b2cf97 rfl) rfl rfl rfl (hb hby at_318) (by decide) (by decide) fun v23 T23 h23 X23 hq23 => ?_
          obtain ⟨rfl, eh23⟩ := hq23
          rw [eh23] at X23
          show Go p e below _ T23 (mkF m 321 #[.val (.int p1), .val (.int p2), .val (.int p3), .val (.int p4), .val (.int p5), .val (.int nv), .val (.int (nv + (1 : Int32))), .val (.ref oz), .val (.int ((((p1.toUInt32 >>> ((2 : Int32) &&& 31).toUInt32).toInt32) &&& (3 : Int32)) % (nv + (1 : Int32)))), .val (.int ((((p1.toUInt32 >>> ((4 : Int32) &&& 31).toUInt32).toInt32) &&& (3 : Int32)) % (nv + (1 : Int32)))), .val (.int sb), .val (.ref o1), .val (.ref o2)] [(.int (1 : Int32))])
          refine Go.st (T' := T23) (g' := (mkF m 324 #[.val (.int p1), .val (.int p2), .val (.int p3), .val (.int p4), .val (.int p5), .val (.int nv), .val (.int (nv + (1 : Int32))), .val (.ref oz), .val (.int ((((p1.toUInt32 >>> ((2 : Int32) &&& 31).toUInt32).toInt32) &&& (3 : Int32)) % (nv + (1 : Int32)))), .val (.int ((((p1.toUInt32 >>> ((4 : Int32) &&& 31).toUInt32).toInt32) &&& (3 : Int32)) % (nv + (1 : Int32)))), .val (.int sb), .val (.ref o1), .val (.ref o2)] [])) (fun t_ k_ => XS.ifNo X23.here hx rfl (hb hby at_321) rfl (by decide) k_) ?_
          refine Go.st (T' := T23) (g' := (mkF m 326 #[.val (.int p1), .val (.int p2), .val (.int p3), .val (.int p4), .val (.int p5), .val (.int nv), .val (.int (nv + (1 : Int32))), .val (.ref oz), .val (.int ((((p1.toUInt32 >>> ((2 : Int32) &&& 31).toUInt32).toInt32) &&& (3 : Int32)) % (nv + (1 : Int32)))), .val (.int ((((p1.toUInt32 >>> ((4 : Int32) &&& 31).toUInt32).toInt32) &&& (3 : Int32)) % (nv + (1 : Int32)))), .val (.int sb), .val (.ref o1), .val (.ref o2)] [(.ref o1)])) (fun t_ k_ => XS.aload X23.here hx rfl (hb hby at_324) rfl rfl k_) ?_
          refine Go.st (T' := T23) (g' := (mkF m 328 #[.val (.int p1), .val (.int p2), .val (.int p3), .val (.int p4), .val (.int p5), .val (.int nv), .val (.int (nv + (1 : Int32))), .val (.ref oz), .val (.int ((((p1.toUInt32 >>> ((2 : Int32) &&& 31).toUInt32).toInt32) &&& (3 : Int32)) % (nv + (1 : Int32)))), .val (.int ((((p1.toUInt32 >>> ((4 : Int32) &&& 31).toUInt32).toInt32) &&& (3 : Int32)) % (nv + (1 : Int32)))), .val (.int sb), .val (.ref o1), .val (.ref o2)] [(.ref o2), (.ref o1)])) (fun t_ k_ => XS.aload X23.here hx rfl (hb hby at_326) rfl rfl k_) ?_
          refine Go.st (T' := T23) (g' := (mkF m 330 #[.val (.int p1), .val (.int p2), .val (.int p3), .val (.int p4), .val (.int p5), .val (.int nv), .val (.int (nv + (1 : Int32))), .val (.ref oz), .val (.int ((((p1.toUInt32 >>> ((2 : Int32) &&& 31).toUInt32).toInt32) &&& (3 : Int32)) % (nv + (1 : Int32)))), .val (.int ((((p1.toUInt32 >>> ((4 : Int32) &&& 31).toUInt32).toInt32) &&& (3 : Int32)) % (nv + (1 : Int32)))), .val (.int sb), .val (.ref o1), .val (.ref o2)] [(.int (13 : Int32)), (.ref o2), (.ref o1)])) (fun t_ k_ => XS.bipush X23.here hx rfl (hb hby at_328) k_) ?_
          refine Go.st (T' := T23) (g' := (mkF m 332 #[.val (.int p1), .val (.int p2), .val (.int p3), .val (.int p4), .val (.int p5), .val (.int nv), .val (.int (nv + (1 : Int32))), .val (.ref oz), .val (.int ((((p1.toUInt32 >>> ((2 : Int32) &&& 31).toUInt32).toInt32) &&& (3 : Int32)) % (nv + (1 : Int32)))), .val (.int ((((p1.toUInt32 >>> ((4 : Int32) &&& 31).toUInt32).toInt32) &&& (3 : Int32)) % (nv + (1 : Int32)))), .val (.int sb), .val (.ref o1), .val (.ref o2)] [(.int (nv + (1 : Int32))), (.int (13 : Int32)), (.ref o2), (.ref o1)])) (fun t_ k_ => XS.iload X23.here hx rfl (hb hby at_330) rfl k_) ?_
          refine goStatic X23 hx hZ (y := (⟨"com/example/utu/utu/check/ZoneUpPinLaw", "ok", "([J[JII)Z"⟩ : MethodName)) hown (hw _ (List.mem_of_getElem? (i := 50) rfl)) (hw _ (List.mem_of_getElem? (i := 51) rfl)) (hw _ (List.mem_of_getElem? (i := 52) rfl)) (hw _ (List.mem_of_getElem? (i := 53) rfl)) (by decide) (rm10 l Z a0 hw [] n0 h10 o1 o2 (13 : Int32) (nv + (1 : Int32)) N (fun i => (if i < N then f3 i else (fun _ => 0) i)) (fun i => (if i < N then f4 i else (fun _ => 0) i)) sz10 f10_15 p10_0 (hD) (⟨by decide, by decide⟩) (own_relx hup _)) 0 (by decide) (by decide) (by rw [hml]; rfl) [(.ref o1), (.ref o2), (.int (13 : Int32)), (.int (nv + (1 : Int32)))] [] (lenOf pd_15b2cf97 rfl) rfl rfl rfl (hb hby at_332) (by decide) (by decide) fun v24 T24 h24 X24 hq24 => ?_
          obtain ⟨rfl, eh24⟩ := hq24
          rw [eh24] at X24
          show Go p e below _ T24 (mkF m 335 #[.val (.int p1), .val (.int p2), .val (.int p3), .val (.int p4), .val (.int p5), .val (.int nv), .val (.int (nv + (1 : Int32))), .val (.ref oz), .val (.int ((((p1.toUInt32 >>> ((2 : Int32) &&& 31).toUInt32).toInt32) &&& (3 : Int32)) % (nv + (1 : Int32)))), .val (.int ((((p1.toUInt32 >>> ((4 : Int32) &&& 31).toUInt32).toInt32) &&& (3 : Int32)) % (nv + (1 : Int32)))), .val (.int sb), .val (.ref o1), .val (.ref o2)] [(.int (1 : Int32))])
          refine Go.st (T' := T24) (g' := (mkF m 338 #[.val (.int p1), .val (.int p2), .val (.int p3), .val (.int p4), .val (.int p5), .val (.int nv), .val (.int (nv + (1 : Int32))), .val (.ref oz), .val (.int ((((p1.toUInt32 >>> ((2 : Int32) &&& 31).toUInt32).toInt32) &&& (3 : Int32)) % (nv + (1 : Int32)))), .val (.int ((((p1.toUInt32 >>> ((4 : Int32) &&& 31).toUInt32).toInt32) &&& (3 : Int32)) % (nv + (1 : Int32)))), .val (.int sb), .val (.ref o1), .val (.ref o2)] [])) (fun t_ k_ => XS.ifNo X24.here hx rfl (hb hby at_335) rfl (by decide) k_) ?_
          refine Go.st (T' := T24) (g' := (mkF m 340 #[.val (.int p1), .val (.int p2), .val (.int p3), .val (.int p4), .val (.int p5), .val (.int nv), .val (.int (nv + (1 : Int32))), .val (.ref oz), .val (.int ((((p1.toUInt32 >>> ((2 : Int32) &&& 31).toUInt32).toInt32) &&& (3 : Int32)) % (nv + (1 : Int32)))), .val (.int ((((p1.toUInt32 >>> ((4 : Int32) &&& 31).toUInt32).toInt32) &&& (3 : Int32)) % (nv + (1 : Int32)))), .val (.int sb), .val (.ref o1), .val (.ref o2)] [(.ref o1)])) (fun t_ k_ => XS.aload X24.here hx rfl (hb hby at_338) rfl rfl k_) ?_
          refine Go.st (T' := T24) (g' := (mkF m 342 #[.val (.int p1), .val (.int p2), .val (.int p3), .val (.int p4), .val (.int p5), .val (.int nv), .val (.int (nv + (1 : Int32))), .val (.ref oz), .val (.int ((((p1.toUInt32 >>> ((2 : Int32) &&& 31).toUInt32).toInt32) &&& (3 : Int32)) % (nv + (1 : Int32)))), .val (.int ((((p1.toUInt32 >>> ((4 : Int32) &&& 31).toUInt32).toInt32) &&& (3 : Int32)) % (nv + (1 : Int32)))), .val (.int sb), .val (.ref o1), .val (.ref o2)] [(.ref o2), (.ref o1)])) (fun t_ k_ => XS.aload X24.here hx rfl (hb hby at_340) rfl rfl k_) ?_
          refine Go.st (T' := T24) (g' := (mkF m 344 #[.val (.int p1), .val (.int p2), .val (.int p3), .val (.int p4), .val (.int p5), .val (.int nv), .val (.int (nv + (1 : Int32))), .val (.ref oz), .val (.int ((((p1.toUInt32 >>> ((2 : Int32) &&& 31).toUInt32).toInt32) &&& (3 : Int32)) % (nv + (1 : Int32)))), .val (.int ((((p1.toUInt32 >>> ((4 : Int32) &&& 31).toUInt32).toInt32) &&& (3 : Int32)) % (nv + (1 : Int32)))), .val (.int sb), .val (.ref o1), .val (.ref o2)] [(.int (14 : Int32)), (.ref o2), (.ref o1)])) (fun t_ k_ => XS.bipush X24.here hx rfl (hb hby at_342) k_) ?_
          refine Go.st (T' := T24) (g' := (mkF m 346 #[.val (.int p1), .val (.int p2), .val (.int p3), .val (.int p4), .val (.int p5), .val (.int nv), .val (.int (nv + (1 : Int32))), .val (.ref oz), .val (.int ((((p1.toUInt32 >>> ((2 : Int32) &&& 31).toUInt32).toInt32) &&& (3 : Int32)) % (nv + (1 : Int32)))), .val (.int ((((p1.toUInt32 >>> ((4 : Int32) &&& 31).toUInt32).toInt32) &&& (3 : Int32)) % (nv + (1 : Int32)))), .val (.int sb), .val (.ref o1), .val (.ref o2)] [(.int (nv + (1 : Int32))), (.int (14 : Int32)), (.ref o2), (.ref o1)])) (fun t_ k_ => XS.iload X24.here hx rfl (hb hby at_344) rfl k_) ?_
          refine goStatic X24 hx hZ (y := (⟨"com/example/utu/utu/check/ZoneUpPinLaw", "ok", "([J[JII)Z"⟩ : MethodName)) hown (hw _ (List.mem_of_getElem? (i := 50) rfl)) (hw _ (List.mem_of_getElem? (i := 51) rfl)) (hw _ (List.mem_of_getElem? (i := 52) rfl)) (hw _ (List.mem_of_getElem? (i := 53) rfl)) (by decide) (rm10 l Z a0 hw [] n0 h10 o1 o2 (14 : Int32) (nv + (1 : Int32)) N (fun i => (if i < N then f3 i else (fun _ => 0) i)) (fun i => (if i < N then f4 i else (fun _ => 0) i)) sz10 f10_15 p10_0 (hD) (⟨by decide, by decide⟩) (own_relx hup _)) 0 (by decide) (by decide) (by rw [hml]; rfl) [(.ref o1), (.ref o2), (.int (14 : Int32)), (.int (nv + (1 : Int32)))] [] (lenOf pd_15b2cf97 rfl) rfl rfl rfl (hb hby at_346) (by decide) (by decide) fun v25 T25 h25 X25 hq25 => ?_
          obtain ⟨rfl, eh25⟩ := hq25
          rw [eh25] at X25
          show Go p e below _ T25 (mkF m 349 #[.val (.int p1), .val (.int p2), .val (.int p3), .val (.int p4), .val (.int p5), .val (.int nv), .val (.int (nv + (1 : Int32))), .val (.ref oz), .val (.int ((((p1.toUInt32 >>> ((2 : Int32) &&& 31).toUInt32).toInt32) &&& (3 : Int32)) % (nv + (1 : Int32)))), .val (.int ((((p1.toUInt32 >>> ((4 : Int32) &&& 31).toUInt32).toInt32) &&& (3 : Int32)) % (nv + (1 : Int32)))), .val (.int sb), .val (.ref o1), .val (.ref o2)] [(.int (1 : Int32))])
          refine Go.st (T' := T25) (g' := (mkF m 352 #[.val (.int p1), .val (.int p2), .val (.int p3), .val (.int p4), .val (.int p5), .val (.int nv), .val (.int (nv + (1 : Int32))), .val (.ref oz), .val (.int ((((p1.toUInt32 >>> ((2 : Int32) &&& 31).toUInt32).toInt32) &&& (3 : Int32)) % (nv + (1 : Int32)))), .val (.int ((((p1.toUInt32 >>> ((4 : Int32) &&& 31).toUInt32).toInt32) &&& (3 : Int32)) % (nv + (1 : Int32)))), .val (.int sb), .val (.ref o1), .val (.ref o2)] [])) (fun t_ k_ => XS.ifNo X25.here hx rfl (hb hby at_349) rfl (by decide) k_) ?_
          refine Go.st (T' := T25) (g' := (mkF m 354 #[.val (.int p1), .val (.int p2), .val (.int p3), .val (.int p4), .val (.int p5), .val (.int nv), .val (.int (nv + (1 : Int32))), .val (.ref oz), .val (.int ((((p1.toUInt32 >>> ((2 : Int32) &&& 31).toUInt32).toInt32) &&& (3 : Int32)) % (nv + (1 : Int32)))), .val (.int ((((p1.toUInt32 >>> ((4 : Int32) &&& 31).toUInt32).toInt32) &&& (3 : Int32)) % (nv + (1 : Int32)))), .val (.int sb), .val (.ref o1), .val (.ref o2)] [(.ref o1)])) (fun t_ k_ => XS.aload X25.here hx rfl (hb hby at_352) rfl rfl k_) ?_
          refine Go.st (T' := T25) (g' := (mkF m 356 #[.val (.int p1), .val (.int p2), .val (.int p3), .val (.int p4), .val (.int p5), .val (.int nv), .val (.int (nv + (1 : Int32))), .val (.ref oz), .val (.int ((((p1.toUInt32 >>> ((2 : Int32) &&& 31).toUInt32).toInt32) &&& (3 : Int32)) % (nv + (1 : Int32)))), .val (.int ((((p1.toUInt32 >>> ((4 : Int32) &&& 31).toUInt32).toInt32) &&& (3 : Int32)) % (nv + (1 : Int32)))), .val (.int sb), .val (.ref o1), .val (.ref o2)] [(.ref o2), (.ref o1)])) (fun t_ k_ => XS.aload X25.here hx rfl (hb hby at_354) rfl rfl k_) ?_
          refine Go.st (T' := T25) (g' := (mkF m 358 #[.val (.int p1), .val (.int p2), .val (.int p3), .val (.int p4), .val (.int p5), .val (.int nv), .val (.int (nv + (1 : Int32))), .val (.ref oz), .val (.int ((((p1.toUInt32 >>> ((2 : Int32) &&& 31).toUInt32).toInt32) &&& (3 : Int32)) % (nv + (1 : Int32)))), .val (.int ((((p1.toUInt32 >>> ((4 : Int32) &&& 31).toUInt32).toInt32) &&& (3 : Int32)) % (nv + (1 : Int32)))), .val (.int sb), .val (.ref o1), .val (.ref o2)] [(.int (15 : Int32)), (.ref o2), (.ref o1)])) (fun t_ k_ => XS.bipush X25.here hx rfl (hb hby at_356) k_) ?_
          refine Go.st (T' := T25) (g' := (mkF m 360 #[.val (.int p1), .val (.int p2), .val (.int p3), .val (.int p4), .val (.int p5), .val (.int nv), .val (.int (nv + (1 : Int32))), .val (.ref oz), .val (.int ((((p1.toUInt32 >>> ((2 : Int32) &&& 31).toUInt32).toInt32) &&& (3 : Int32)) % (nv + (1 : Int32)))), .val (.int ((((p1.toUInt32 >>> ((4 : Int32) &&& 31).toUInt32).toInt32) &&& (3 : Int32)) % (nv + (1 : Int32)))), .val (.int sb), .val (.ref o1), .val (.ref o2)] [(.int (nv + (1 : Int32))), (.int (15 : Int32)), (.ref o2), (.ref o1)])) (fun t_ k_ => XS.iload X25.here hx rfl (hb hby at_358) rfl k_) ?_
          refine goStatic X25 hx hZ (y := (⟨"com/example/utu/utu/check/ZoneUpPinLaw", "ok", "([J[JII)Z"⟩ : MethodName)) hown (hw _ (List.mem_of_getElem? (i := 50) rfl)) (hw _ (List.mem_of_getElem? (i := 51) rfl)) (hw _ (List.mem_of_getElem? (i := 52) rfl)) (hw _ (List.mem_of_getElem? (i := 53) rfl)) (by decide) (rm10 l Z a0 hw [] n0 h10 o1 o2 (15 : Int32) (nv + (1 : Int32)) N (fun i => (if i < N then f3 i else (fun _ => 0) i)) (fun i => (if i < N then f4 i else (fun _ => 0) i)) sz10 f10_15 p10_0 (hD) (⟨by decide, by decide⟩) (own_relx hup _)) 0 (by decide) (by decide) (by rw [hml]; rfl) [(.ref o1), (.ref o2), (.int (15 : Int32)), (.int (nv + (1 : Int32)))] [] (lenOf pd_15b2cf97 rfl) rfl rfl rfl (hb hby at_360) (by decide) (by decide) fun v26 T26 h26 X26 hq26 => ?_
          obtain ⟨rfl, eh26⟩ := hq26
          rw [eh26] at X26
          show Go p e below _ T26 (mkF m 363 #[.val (.int p1), .val (.int p2), .val (.int p3), .val (.int p4), .val (.int p5), .val (.int nv), .val (.int (nv + (1 : Int32))), .val (.ref oz), .val (.int ((((p1.toUInt32 >>> ((2 : Int32) &&& 31).toUInt32).toInt32) &&& (3 : Int32)) % (nv + (1 : Int32)))), .val (.int ((((p1.toUInt32 >>> ((4 : Int32) &&& 31).toUInt32).toInt32) &&& (3 : Int32)) % (nv + (1 : Int32)))), .val (.int sb), .val (.ref o1), .val (.ref o2)] [(.int (1 : Int32))])
          refine Go.st (T' := T26) (g' := (mkF m 366 #[.val (.int p1), .val (.int p2), .val (.int p3), .val (.int p4), .val (.int p5), .val (.int nv), .val (.int (nv + (1 : Int32))), .val (.ref oz), .val (.int ((((p1.toUInt32 >>> ((2 : Int32) &&& 31).toUInt32).toInt32) &&& (3 : Int32)) % (nv + (1 : Int32)))), .val (.int ((((p1.toUInt32 >>> ((4 : Int32) &&& 31).toUInt32).toInt32) &&& (3 : Int32)) % (nv + (1 : Int32)))), .val (.int sb), .val (.ref o1), .val (.ref o2)] [])) (fun t_ k_ => XS.ifNo X26.here hx rfl (hb hby at_363) rfl (by decide) k_) ?_
          refine Go.st (T' := T26) (g' := (mkF m 367 #[.val (.int p1), .val (.int p2), .val (.int p3), .val (.int p4), .val (.int p5), .val (.int nv), .val (.int (nv + (1 : Int32))), .val (.ref oz), .val (.int ((((p1.toUInt32 >>> ((2 : Int32) &&& 31).toUInt32).toInt32) &&& (3 : Int32)) % (nv + (1 : Int32)))), .val (.int ((((p1.toUInt32 >>> ((4 : Int32) &&& 31).toUInt32).toInt32) &&& (3 : Int32)) % (nv + (1 : Int32)))), .val (.int sb), .val (.ref o1), .val (.ref o2)] [(.int (1 : Int32))])) (fun t_ k_ => XS.iconst X26.here hx rfl (hb hby at_366) k_) ?_
          refine Go.st (T' := T26) (g' := (mkF m 371 #[.val (.int p1), .val (.int p2), .val (.int p3), .val (.int p4), .val (.int p5), .val (.int nv), .val (.int (nv + (1 : Int32))), .val (.ref oz), .val (.int ((((p1.toUInt32 >>> ((2 : Int32) &&& 31).toUInt32).toInt32) &&& (3 : Int32)) % (nv + (1 : Int32)))), .val (.int ((((p1.toUInt32 >>> ((4 : Int32) &&& 31).toUInt32).toInt32) &&& (3 : Int32)) % (nv + (1 : Int32)))), .val (.int sb), .val (.ref o1), .val (.ref o2)] [(.int (1 : Int32))])) (fun t_ k_ => XS.goto X26.here hx rfl (pc0 := 367) (pc' := 371) rfl (hb hby at_367) (by decide) (by decide) k_) ?_
          refine goRetZ X26 hx hlk hret (hb hby at_371) (by decide) (by decide) (Or.inr rfl) ?_
          exact rfl
        by_cases hc87 : (((p1.toUInt32 >>> ((6 : Int32) &&& 31).toUInt32).toInt32) &&& (1 : Int32)) = (0 : Int32)
        · skip
          refine Go.st (T' := T_J61) (g' := (mkF m 94 #[.val (.int p1), .val (.int p2), .val (.int p3), .val (.int p4), .val (.int p5), .val (.int nv), .val (.int (nv + (1 : Int32))), .val (.ref oz), .val (.int ((((p1.toUInt32 >>> ((2 : Int32) &&& 31).toUInt32).toInt32) &&& (3 : Int32)) % (nv + (1 : Int32)))), .val (.int ((((p1.toUInt32 >>> ((4 : Int32) &&& 31).toUInt32).toInt32) &&& (3 : Int32)) % (nv + (1 : Int32)))), .unset, .unset, .unset] [])) (fun t_ k_ => XS.ifYes X_J61.here hx rfl (pc0 := 87) (pc' := 94) rfl (hb hby at_87) rfl ((if0 _ _).trans (teq hc87).1) (by decide) (by decide) k_) ?_
          refine Go.st (T' := T_J61) (g' := (mkF m 95 #[.val (.int p1), .val (.int p2), .val (.int p3), .val (.int p4), .val (.int p5), .val (.int nv), .val (.int (nv + (1 : Int32))), .val (.ref oz), .val (.int ((((p1.toUInt32 >>> ((2 : Int32) &&& 31).toUInt32).toInt32) &&& (3 : Int32)) % (nv + (1 : Int32)))), .val (.int ((((p1.toUInt32 >>> ((4 : Int32) &&& 31).toUInt32).toInt32) &&& (3 : Int32)) % (nv + (1 : Int32)))), .unset, .unset, .unset] [(.int (0 : Int32))])) (fun t_ k_ => XS.iconst X_J61.here hx rfl (hb hby at_94) k_) ?_
          exact J95_3 (0 : Int32) (by rw [if_pos hc87])
        · skip
          refine Go.st (T' := T_J61) (g' := (mkF m 90 #[.val (.int p1), .val (.int p2), .val (.int p3), .val (.int p4), .val (.int p5), .val (.int nv), .val (.int (nv + (1 : Int32))), .val (.ref oz), .val (.int ((((p1.toUInt32 >>> ((2 : Int32) &&& 31).toUInt32).toInt32) &&& (3 : Int32)) % (nv + (1 : Int32)))), .val (.int ((((p1.toUInt32 >>> ((4 : Int32) &&& 31).toUInt32).toInt32) &&& (3 : Int32)) % (nv + (1 : Int32)))), .unset, .unset, .unset] [])) (fun t_ k_ => XS.ifNo X_J61.here hx rfl (hb hby at_87) rfl ((if0 _ _).trans (feq hc87).1) k_) ?_
          refine Go.st (T' := T_J61) (g' := (mkF m 91 #[.val (.int p1), .val (.int p2), .val (.int p3), .val (.int p4), .val (.int p5), .val (.int nv), .val (.int (nv + (1 : Int32))), .val (.ref oz), .val (.int ((((p1.toUInt32 >>> ((2 : Int32) &&& 31).toUInt32).toInt32) &&& (3 : Int32)) % (nv + (1 : Int32)))), .val (.int ((((p1.toUInt32 >>> ((4 : Int32) &&& 31).toUInt32).toInt32) &&& (3 : Int32)) % (nv + (1 : Int32)))), .unset, .unset, .unset] [(.int (1 : Int32))])) (fun t_ k_ => XS.iconst X_J61.here hx rfl (hb hby at_90) k_) ?_
          refine Go.st (T' := T_J61) (g' := (mkF m 95 #[.val (.int p1), .val (.int p2), .val (.int p3), .val (.int p4), .val (.int p5), .val (.int nv), .val (.int (nv + (1 : Int32))), .val (.ref oz), .val (.int ((((p1.toUInt32 >>> ((2 : Int32) &&& 31).toUInt32).toInt32) &&& (3 : Int32)) % (nv + (1 : Int32)))), .val (.int ((((p1.toUInt32 >>> ((4 : Int32) &&& 31).toUInt32).toInt32) &&& (3 : Int32)) % (nv + (1 : Int32)))), .unset, .unset, .unset] [(.int (1 : Int32))])) (fun t_ k_ => XS.goto X_J61.here hx rfl (pc0 := 91) (pc' := 95) rfl (hb hby at_91) (by decide) (by decide) k_) ?_
          exact J95_3 (1 : Int32) (by rw [if_neg hc87])
      by_cases hc51 : nv < (3 : Int32)
      · skip
        refine Go.st (T' := T_J48) (g' := (mkF m 61 #[.val (.int p1), .val (.int p2), .val (.int p3), .val (.int p4), .val (.int p5), .val (.int nv), .val (.int (nv + (1 : Int32))), .val (.ref oz), .unset, .unset, .unset, .unset, .unset] [])) (fun t_ k_ => XS.icmpYes X_J48.here hx rfl (pc0 := 51) (pc' := 61) rfl (hb hby at_51) rfl (tlt hc51).1 (by decide) (by decide) k_) ?_
        exact J61 fz T_J48 h_J48 (X_J48.mono (by decide) (by decide)) sz_J48 g0_J48 g1_J48 g2_J48 g3_J48 g4_J48 g5_J48 g6_J48
      · skip
        refine Go.st (T' := T_J48) (g' := (mkF m 54 #[.val (.int p1), .val (.int p2), .val (.int p3), .val (.int p4), .val (.int p5), .val (.int nv), .val (.int (nv + (1 : Int32))), .val (.ref oz), .unset, .unset, .unset, .unset, .unset] [])) (fun t_ k_ => XS.icmpNo X_J48.here hx rfl (hb hby at_51) rfl (flt hc51).1 k_) ?_
        refine Go.st (T' := T_J48) (g' := (mkF m 56 #[.val (.int p1), .val (.int p2), .val (.int p3), .val (.int p4), .val (.int p5), .val (.int nv), .val (.int (nv + (1 : Int32))), .val (.ref oz), .unset, .unset, .unset, .unset, .unset] [(.ref oz)])) (fun t_ k_ => XS.aload X_J48.here hx rfl (hb hby at_54) rfl rfl k_) ?_
        refine Go.st (T' := T_J48) (g' := (mkF m 57 #[.val (.int p1), .val (.int p2), .val (.int p3), .val (.int p4), .val (.int p5), .val (.int nv), .val (.int (nv + (1 : Int32))), .val (.ref oz), .unset, .unset, .unset, .unset, .unset] [(.int (3 : Int32)), (.ref oz)])) (fun t_ k_ => XS.iconst X_J48.here hx rfl (hb hby at_56) k_) ?_
        refine Go.st (T' := T_J48) (g' := (mkF m 58 #[.val (.int p1), .val (.int p2), .val (.int p3), .val (.int p4), .val (.int p5), .val (.int nv), .val (.int (nv + (1 : Int32))), .val (.ref oz), .unset, .unset, .unset, .unset, .unset] [(.int p4), (.int (3 : Int32)), (.ref oz)])) (fun t_ k_ => XS.iloadN X_J48.here hx rfl (hb hby at_57) rfl k_) ?_
        refine goVirtS X_J48 hx hZ (y := (⟨"com/example/utu/utu/check/Zone", "reset", "(II)V"⟩ : MethodName)) hown (hw _ (List.mem_of_getElem? (i := 54) rfl)) (hw _ (List.mem_of_getElem? (i := 55) rfl)) (hw _ (List.mem_of_getElem? (i := 57) rfl)) (hw _ (List.mem_of_getElem? (i := 56) rfl)) (hw _ (List.mem_of_getElem? (i := 2) rfl)) (hw _ (List.mem_of_getElem? (i := 58) rfl)) (by decide) g0_J48 (rm11 l Z a0 hw [] n0 h_J48 oz (3 : Int32) p4 (nv + (1 : Int32)) bs N fz sz_J48 g0_J48 g1_J48 g2_J48 g3_J48 g4_J48 g6_J48 (hD) (own_r1 hN (by decide) hc51)) 0 (by decide) (by decide) (by rw [hml]; rfl) [(.int (3 : Int32)), (.int p4)] [] (lenOf pd_688a590a rfl) rfl rfl rfl (hb hby at_58) (by decide) (by decide) fun v27 T27 h27 X27 hq27 => ?_
        obtain ⟨f'_27, rfl, K27c, p27_0⟩ := hq27
        have f27_2 : Exa Z h27 oz "com/example/utu/utu/check/Zone" := g0_J48.keep K27c
        have f27_3 : Exa Z h27 bs "[J" := g1_J48.keep K27c
        have f27_4 : Fld Z h27 oz "com/example/utu/utu/check/Zone" "dimension" "I" (.int (nv + (1 : Int32))) := g2_J48.keep K27c (ninS (ne_exa g0_J48 g1_J48 (by decide)) nin0)
        have f27_5 : Fld Z h27 oz "com/example/utu/utu/check/Zone" "bounds" "[J" (.ref bs) := g3_J48.keep K27c (ninS (ne_exa g0_J48 g1_J48 (by decide)) nin0)
        have sz27 : n0 ≤ h27.size := Nat.le_trans sz_J48 K27c.1
        show Go p e below _ T27 (mkF m 61 #[.val (.int p1), .val (.int p2), .val (.int p3), .val (.int p4), .val (.int p5), .val (.int nv), .val (.int (nv + (1 : Int32))), .val (.ref oz), .unset, .unset, .unset, .unset, .unset] [])
        exact J61 (fun i => (f'_27 i)) T27 h27 (X27.mono (by decide) (by decide)) sz27 f27_2 f27_3 f27_4 f27_5 p27_0 g5_J48 g6_J48
    by_cases hc38 : nv < (2 : Int32)
    · skip
      refine Go.st (T' := T_J35) (g' := (mkF m 48 #[.val (.int p1), .val (.int p2), .val (.int p3), .val (.int p4), .val (.int p5), .val (.int nv), .val (.int (nv + (1 : Int32))), .val (.ref oz), .unset, .unset, .unset, .unset, .unset] [])) (fun t_ k_ => XS.icmpYes X_J35.here hx rfl (pc0 := 38) (pc' := 48) rfl (hb hby at_38) rfl (tlt hc38).1 (by decide) (by decide) k_) ?_
      exact J48 fz T_J35 h_J35 (X_J35.mono (by decide) (by decide)) sz_J35 g0_J35 g1_J35 g2_J35 g3_J35 g4_J35 g5_J35 g6_J35
    · skip
      refine Go.st (T' := T_J35) (g' := (mkF m 41 #[.val (.int p1), .val (.int p2), .val (.int p3), .val (.int p4), .val (.int p5), .val (.int nv), .val (.int (nv + (1 : Int32))), .val (.ref oz), .unset, .unset, .unset, .unset, .unset] [])) (fun t_ k_ => XS.icmpNo X_J35.here hx rfl (hb hby at_38) rfl (flt hc38).1 k_) ?_
      refine Go.st (T' := T_J35) (g' := (mkF m 43 #[.val (.int p1), .val (.int p2), .val (.int p3), .val (.int p4), .val (.int p5), .val (.int nv), .val (.int (nv + (1 : Int32))), .val (.ref oz), .unset, .unset, .unset, .unset, .unset] [(.ref oz)])) (fun t_ k_ => XS.aload X_J35.here hx rfl (hb hby at_41) rfl rfl k_) ?_
      refine Go.st (T' := T_J35) (g' := (mkF m 44 #[.val (.int p1), .val (.int p2), .val (.int p3), .val (.int p4), .val (.int p5), .val (.int nv), .val (.int (nv + (1 : Int32))), .val (.ref oz), .unset, .unset, .unset, .unset, .unset] [(.int (2 : Int32)), (.ref oz)])) (fun t_ k_ => XS.iconst X_J35.here hx rfl (hb hby at_43) k_) ?_
      refine Go.st (T' := T_J35) (g' := (mkF m 45 #[.val (.int p1), .val (.int p2), .val (.int p3), .val (.int p4), .val (.int p5), .val (.int nv), .val (.int (nv + (1 : Int32))), .val (.ref oz), .unset, .unset, .unset, .unset, .unset] [(.int p3), (.int (2 : Int32)), (.ref oz)])) (fun t_ k_ => XS.iloadN X_J35.here hx rfl (hb hby at_44) rfl k_) ?_
      refine goVirtS X_J35 hx hZ (y := (⟨"com/example/utu/utu/check/Zone", "reset", "(II)V"⟩ : MethodName)) hown (hw _ (List.mem_of_getElem? (i := 54) rfl)) (hw _ (List.mem_of_getElem? (i := 55) rfl)) (hw _ (List.mem_of_getElem? (i := 57) rfl)) (hw _ (List.mem_of_getElem? (i := 56) rfl)) (hw _ (List.mem_of_getElem? (i := 2) rfl)) (hw _ (List.mem_of_getElem? (i := 58) rfl)) (by decide) g0_J35 (rm11 l Z a0 hw [] n0 h_J35 oz (2 : Int32) p3 (nv + (1 : Int32)) bs N fz sz_J35 g0_J35 g1_J35 g2_J35 g3_J35 g4_J35 g6_J35 (hD) (own_r1 hN (by decide) hc38)) 0 (by decide) (by decide) (by rw [hml]; rfl) [(.int (2 : Int32)), (.int p3)] [] (lenOf pd_688a590a rfl) rfl rfl rfl (hb hby at_45) (by decide) (by decide) fun v28 T28 h28 X28 hq28 => ?_
      obtain ⟨f'_28, rfl, K28c, p28_0⟩ := hq28
      have f28_2 : Exa Z h28 oz "com/example/utu/utu/check/Zone" := g0_J35.keep K28c
      have f28_3 : Exa Z h28 bs "[J" := g1_J35.keep K28c
      have f28_4 : Fld Z h28 oz "com/example/utu/utu/check/Zone" "dimension" "I" (.int (nv + (1 : Int32))) := g2_J35.keep K28c (ninS (ne_exa g0_J35 g1_J35 (by decide)) nin0)
      have f28_5 : Fld Z h28 oz "com/example/utu/utu/check/Zone" "bounds" "[J" (.ref bs) := g3_J35.keep K28c (ninS (ne_exa g0_J35 g1_J35 (by decide)) nin0)
      have sz28 : n0 ≤ h28.size := Nat.le_trans sz_J35 K28c.1
      show Go p e below _ T28 (mkF m 48 #[.val (.int p1), .val (.int p2), .val (.int p3), .val (.int p4), .val (.int p5), .val (.int nv), .val (.int (nv + (1 : Int32))), .val (.ref oz), .unset, .unset, .unset, .unset, .unset] [])
      exact J48 (fun i => (f'_28 i)) T28 h28 (X28.mono (by decide) (by decide)) sz28 f28_2 f28_3 f28_4 f28_5 p28_0 g5_J35 g6_J35
  by_cases hc25 : nv < (1 : Int32)
  · skip
    refine Go.st (T' := T2) (g' := (mkF m 35 #[.val (.int p1), .val (.int p2), .val (.int p3), .val (.int p4), .val (.int p5), .val (.int nv), .val (.int (nv + (1 : Int32))), .val (.ref oz), .unset, .unset, .unset, .unset, .unset] [])) (fun t_ k_ => XS.icmpYes X2.here hx rfl (pc0 := 25) (pc' := 35) rfl (hb hby at_25) rfl (tlt hc25).1 (by decide) (by decide) k_) ?_
    exact J35 f0 T2 h2 (X2.mono (by decide) (by decide)) sz2 p2_0 p2_3 p2_1 p2_2 p2_4 ge1 p2_5
  · skip
    refine Go.st (T' := T2) (g' := (mkF m 28 #[.val (.int p1), .val (.int p2), .val (.int p3), .val (.int p4), .val (.int p5), .val (.int nv), .val (.int (nv + (1 : Int32))), .val (.ref oz), .unset, .unset, .unset, .unset, .unset] [])) (fun t_ k_ => XS.icmpNo X2.here hx rfl (hb hby at_25) rfl (flt hc25).1 k_) ?_
    refine Go.st (T' := T2) (g' := (mkF m 30 #[.val (.int p1), .val (.int p2), .val (.int p3), .val (.int p4), .val (.int p5), .val (.int nv), .val (.int (nv + (1 : Int32))), .val (.ref oz), .unset, .unset, .unset, .unset, .unset] [(.ref oz)])) (fun t_ k_ => XS.aload X2.here hx rfl (hb hby at_28) rfl rfl k_) ?_
    refine Go.st (T' := T2) (g' := (mkF m 31 #[.val (.int p1), .val (.int p2), .val (.int p3), .val (.int p4), .val (.int p5), .val (.int nv), .val (.int (nv + (1 : Int32))), .val (.ref oz), .unset, .unset, .unset, .unset, .unset] [(.int (1 : Int32)), (.ref oz)])) (fun t_ k_ => XS.iconst X2.here hx rfl (hb hby at_30) k_) ?_
    refine Go.st (T' := T2) (g' := (mkF m 32 #[.val (.int p1), .val (.int p2), .val (.int p3), .val (.int p4), .val (.int p5), .val (.int nv), .val (.int (nv + (1 : Int32))), .val (.ref oz), .unset, .unset, .unset, .unset, .unset] [(.int p2), (.int (1 : Int32)), (.ref oz)])) (fun t_ k_ => XS.iloadN X2.here hx rfl (hb hby at_31) rfl k_) ?_
    refine goVirtS X2 hx hZ (y := (⟨"com/example/utu/utu/check/Zone", "reset", "(II)V"⟩ : MethodName)) hown (hw _ (List.mem_of_getElem? (i := 54) rfl)) (hw _ (List.mem_of_getElem? (i := 55) rfl)) (hw _ (List.mem_of_getElem? (i := 57) rfl)) (hw _ (List.mem_of_getElem? (i := 56) rfl)) (hw _ (List.mem_of_getElem? (i := 2) rfl)) (hw _ (List.mem_of_getElem? (i := 58) rfl)) (by decide) p2_0 (rm11 l Z a0 hw [] n0 h2 oz (1 : Int32) p2 (nv + (1 : Int32)) bs N f0 sz2 p2_0 p2_3 p2_1 p2_2 p2_4 p2_5 (hD) (own_r1 hN (by decide) hc25)) 0 (by decide) (by decide) (by rw [hml]; rfl) [(.int (1 : Int32)), (.int p2)] [] (lenOf pd_688a590a rfl) rfl rfl rfl (hb hby at_32) (by decide) (by decide) fun v29 T29 h29 X29 hq29 => ?_
    obtain ⟨f'_29, rfl, K29c, p29_0⟩ := hq29
    have f29_1 : Exa Z h29 oz "com/example/utu/utu/check/Zone" := p2_0.keep K29c
    have f29_2 : Fld Z h29 oz "com/example/utu/utu/check/Zone" "dimension" "I" (.int (nv + (1 : Int32))) := p2_1.keep K29c (ninS (ne_exa p2_0 p2_3 (by decide)) nin0)
    have f29_3 : Fld Z h29 oz "com/example/utu/utu/check/Zone" "bounds" "[J" (.ref bs) := p2_2.keep K29c (ninS (ne_exa p2_0 p2_3 (by decide)) nin0)
    have f29_4 : Exa Z h29 bs "[J" := p2_3.keep K29c
    have sz29 : n0 ≤ h29.size := Nat.le_trans sz2 K29c.1
    show Go p e below _ T29 (mkF m 35 #[.val (.int p1), .val (.int p2), .val (.int p3), .val (.int p4), .val (.int p5), .val (.int nv), .val (.int (nv + (1 : Int32))), .val (.ref oz), .unset, .unset, .unset, .unset, .unset] [])
    exact J35 (fun i => (f'_29 i)) T29 h29 (X29.mono (by decide) (by decide)) sz29 f29_1 f29_4 f29_2 f29_3 p29_0 ge1 p2_5
set_option maxRecDepth 65536 in
set_option maxHeartbeats 40000000 in
theorem comes_1 {Post : Tables → Env → Array Value → State → Outcome → State → Prop} (hpost : ∀ tb e args s v u, (limb_1_1.after args s (.returned v) u = true ∧ limb_1_2.after args s (.returned v) u = true ∧ True) → FrameEnd s (.returned v) u (Jvm.fieldLocs frame_1_writes args s ++ Jvm.arrayLocs frame_1_arrays args s ++ Jvm.staticLocs frame_1_statics s) 16 192 → Post tb e args s (.returned v) u) :
    ArmFor flags0 classFile x code maxLocals ret World_1 tables_1 room_1 Calls_1 rest_1 Pre_1 Post := by
  intro l hfl _ _ p e ha hc hk s m args below hf hA hF happ hP
  obtain ⟨hcalls, hrest, hpre⟩ := hP
  obtain ⟨-, -, -, hnamed, -, -, -, hat⟩ := (Spec.applies_iff hf).mp happ
  obtain ⟨hg, hn⟩ := and_e (Cond.before_iff.mp (show (Jvm.Cond.and given_1 narrow_1).before args s = true from hpre))
  obtain ⟨hcnt, hg⟩ := and_e hg
  obtain ⟨ha0, hg⟩ := and_e hg
  obtain ⟨ha1, hg⟩ := and_e hg
  obtain ⟨ha2, hg⟩ := and_e hg
  obtain ⟨ha3, hg⟩ := and_e hg
  have ha4 := hg
  obtain ⟨w0, w1, w2, w3, w4, rfl⟩ : ∃ w0 w1 w2 w3 w4 : Value, args = #[w0, w1, w2, w3, w4] := by
    have hs : args.size = 5 := by simpa [Cond.value, given_1] using hcnt
    obtain ⟨L⟩ := args
    match L, hs with
    | [w0, w1, w2, w3, w4], _ => exact ⟨w0, w1, w2, w3, w4, rfl⟩
  have hw := fun d (hd : d ∈ tables_1) => atoms_spec (ws := Jvm.Cond.code x code maxLocals ret :: tables_1) hat d (List.mem_cons_of_mem _ hd)
  have hfit : Fit s := fun {y c} hc i hi => by
    obtain ⟨ha, rfl⟩ := Array.getElem?_eq_some_iff.mp hc
    have q := List.all_eq_true.mp ((Array.all_eq_true_iff_forall_mem.mp hF) _ (Array.getElem_mem ha)) i (List.mem_range.mpr hi)
    simpa [Array.getElem?_eq_getElem hi] using q
  obtain ⟨i0, ei0⟩ := is_v ha0
  obtain rfl : w0 = (.int i0) := Option.some.inj ei0
  obtain ⟨i1, ei1⟩ := is_v ha1
  obtain rfl : w1 = (.int i1) := Option.some.inj ei1
  obtain ⟨i2, ei2⟩ := is_v ha2
  obtain rfl : w2 = (.int i2) := Option.some.inj ei2
  obtain ⟨i3, ei3⟩ := is_v ha3
  obtain rfl : w3 = (.int i3) := Option.some.inj ei3
  obtain ⟨i4, ei4⟩ := is_v ha4
  obtain rfl : w4 = (.int i4) := Option.some.inj ei4
  obtain ⟨n, o, h1, h2, h3, v, L, rfl, ⟨N, hv⟩, hq⟩ := rm0 l s _ hw tables_1 s.heap.size s.heap i0 i1 i2 i3 i4 (Nat.le_refl _) p e ha hc hk s m _ below hf ((Spec.applies_iff_loose hf).mp happ).1 ⟨rfl, State.Warmed39.refl s, rfl⟩ trivial
  obtain rfl : v = some (.int 1) := hv
  refine ⟨n, _, h1, h2, h3, hpost _ _ _ _ _ _ ⟨Cond.after_iff.mpr rfl, Cond.after_iff.mpr (eq_i res_at (Term.int_eval (1)) rfl), trivial⟩ ⟨hq.1, hq.2.1, (hq.2.2.sift fun y hy => Or.inr (N y hy)).mono (by decide) (by decide)⟩⟩
theorem main_1_1 : Claimed_1_1 := comes_1 fun _ _ _ _ _ _ h hF => ⟨h.1, hF⟩
theorem main_1_2 : Claimed_1_2 := comes_1 fun _ _ _ _ _ _ h hF => ⟨h.2.1, hF⟩
end Jvm.Pilot.@@N@@
namespace Jvm.Pilot.@@N@@
open Jvm Jvm.ClassFile Sem Op Lib Jvm.Free Jvm.Stand Jvm.Pilot.@@N@@.Jvm.D
/-! MADE BY PROGRAM (witnessworld.py) out of the Statement's table words and the real class files: 13 classes; the members and pool entries that the words name. The judged class is class 1, her method 1. -/
namespace start1
open Jvm.ClassFile
def u (s : String) : CpInfo := .utf8 (stringToUtf16 s)
/-- a pool by its gaps: so many unusable entries, then the entry; so many at the end -/
def gap : Nat → List CpInfo → List CpInfo
  | 0, r => r
  | n + 1, r => .unusable :: gap n r
def poolList (es : List (Nat × CpInfo)) (last : Nat) : List CpInfo := es.foldr (fun e r => gap e.1 (e.2 :: r)) (gap last [])
def pool (es : List (Nat × CpInfo)) (last : Nat) : Array CpInfo := ⟨poolList es last⟩
def fileOf (pool : Array CpInfo) (this : Nat) (attrs : Array Attribute := #[]) (ms : Array MethodInfo := #[]) (fl : Nat := 33) (sup : Nat := 0) (ifs : Array Nat := #[]) (fds : Array FieldInfo := #[]) : ClassFile where
  minorVersion := 0
  majorVersion := 65
  constantPool := pool
  accessFlags := fl
  thisClass := this
  superClass := sup
  interfaces := ifs
  fields := fds
  methods := ms
  attributes := attrs
def plain (name : String) (sup : Option ClassId) : Class where
  name := name
  kind := .ordinary
  loader := none
  accessFlags := 33
  super := sup
  interfaces := #[]
  cf := none
  fields := #[]
  methods := #[]
  instanceTypes := #[]
  staticTypes := #[]
  resolved := #[]
  callSites := []
  init := .initialized
  statics := none
  mirror := none

def pool0 : Array CpInfo := pool [(5, u "<init>"), (0, u "()V"), (1, .class_ 10), (1, u "java/lang/Object")] 113

def k0c0 : Code := { maxStack := 0, maxLocals := 1, code := object_method_1_code, exceptionTable := #[], attributes := #[] }
def k0m0 : Method := { name := "<init>", desc := "()V", sig := { parameters := [], returnType := none }, accessFlags := 1, code := some k0c0 }
/-- java/lang/Object -/
def k0 : Class := { plain "java/lang/Object" none with
  accessFlags := 33
  interfaces := #[]
  cf := some (fileOf pool0 8 #[] #[{ accessFlags := 1, nameIndex := 5, descriptorIndex := 6, attributes := #[] }] 33 0 #[] #[])
  fields := #[]
  methods := #[k0m0]
  instanceTypes := #[]
  staticTypes := #[]
  resolved := Array.replicate 124 none
  statics := none }

def pool1 : Array CpInfo := pool [(2, .class_ 4), (1, u "java/lang/Object"), (0, u "<init>"), (0, u "()V"), (0, .class_ 8), (0, u "com/example/utu/utu/check/Zone"), (0, .methodref 7 10), (0, .nameAndType 5 11), (0, u "(I)V"), (0, .methodref 7 13), (0, .nameAndType 14 15), (0, u "reset"), (0, u "(II)V"), (0, .methodref 7 17), (0, .nameAndType 18 19), (0, u "bound"), (0, u "(JZ)J"), (0, .methodref 7 21), (0, .nameAndType 22 23), (0, u "constrain"), (0, u "(IIJ)Z"), (0, .methodref 7 25), (0, .nameAndType 26 27), (0, u "write"), (0, u "([JI)V"), (0, .methodref 7 29), (0, .nameAndType 30 6), (0, u "up"), (0, .methodref 32 33), (0, .class_ 34), (0, .nameAndType 35 36), (0, u "com/example/utu/utu/check/ZoneUpPinLaw"), (0, u "ok"), (0, u "([J[JII)Z"), (0, .long 9223372036854775807), (3, u "law"), (0, u "(IIIII)Z")] 5

def k1m0 : Method := { name := "<init>", desc := "()V", sig := { parameters := [], returnType := none }, accessFlags := 1, code := none }
def k1c1 : Code := { maxStack := 6, maxLocals := 13, code := code, exceptionTable := #[], attributes := #[] }
def k1m1 : Method := { name := "law", desc := "(IIIII)Z", sig := { parameters := [.int, .int, .int, .int, .int], returnType := some .boolean }, accessFlags := 9, code := some k1c1 }
def k1c2 : Code := { maxStack := 4, maxLocals := 5, code := method_3_code, exceptionTable := #[], attributes := #[] }
def k1m2 : Method := { name := "ok", desc := "([J[JII)Z", sig := { parameters := [(.array .long), (.array .long), .int, .int], returnType := some .boolean }, accessFlags := 10, code := some k1c2 }
/-- com/example/utu/utu/check/ZoneUpPinLaw -/
def k1 : Class := { plain "com/example/utu/utu/check/ZoneUpPinLaw" (some 0) with
  accessFlags := 49
  interfaces := #[]
  cf := some (fileOf pool1 32 #[] #[{ accessFlags := 1, nameIndex := 5, descriptorIndex := 6, attributes := #[] }, { accessFlags := 9, nameIndex := 41, descriptorIndex := 42, attributes := #[] }, { accessFlags := 10, nameIndex := 35, descriptorIndex := 36, attributes := #[] }] 49 2 #[] #[])
  fields := #[]
  methods := #[k1m0, k1m1, k1m2]
  instanceTypes := #[]
  staticTypes := #[]
  resolved := Array.replicate 48 none
  statics := none }

def pool2 : Array CpInfo := pool [(3, .methodref 4 5), (0, .class_ 6), (0, .nameAndType 7 8), (0, u "java/lang/Object"), (0, u "<init>"), (0, u "()V"), (0, .fieldref 10 11), (0, .class_ 12), (0, .nameAndType 13 14), (0, u "com/example/utu/utu/check/Zone"), (0, u "dimension"), (0, u "I"), (0, .fieldref 10 16), (0, .nameAndType 17 18), (0, u "bounds"), (0, u "[J"), (0, .methodref 20 21), (0, .class_ 22), (0, .nameAndType 23 24), (0, u "java/util/Arrays"), (0, u "fill"), (0, u "([JJ)V"), (5, .long 9223372036854775807), (1, .methodref 10 33), (0, .nameAndType 34 35), (0, u "constant"), (0, u "(J)J"), (3, .methodref 40 41), (0, .class_ 42), (0, .nameAndType 43 44), (0, u "java/lang/System"), (0, u "arraycopy"), (0, u "(Ljava/lang/Object;ILjava/lang/Object;II)V"), (0, .methodref 10 46), (0, .nameAndType 47 48), (0, u "isEmpty"), (0, u "()Z"), (0, .methodref 10 50), (0, .nameAndType 51 52), (0, u "get"), (0, u "(II)J"), (0, .methodref 10 54), (0, .nameAndType 55 56), (0, u "add"), (0, u "(JJ)J"), (0, .long 18446744073709551615), (1, .methodref 10 60), (0, .nameAndType 61 62), (0, u "bound"), (0, u "(JZ)J"), (2, u "constrain"), (0, u "(IIJ)Z"), (1, .class_ 70), (1, u "com/example/utu/utu/check/Zone$Part"), (1, u "J"), (30, .class_ 105), (1, u "com/example/utu/utu/check/Zone$1"), (29, u "INFINITY"), (1, u "LE_ZERO"), (2, u "(I)V"), (7, u "write"), (0, u "([JI)V"), (6, u "up"), (1, u "reset"), (0, u "(II)V")] 27

def k2c0 : Code := { maxStack := 3, maxLocals := 2, code := prog_27_method_1_code, exceptionTable := #[], attributes := #[] }
def k2m0 : Method := { name := "<init>", desc := "(I)V", sig := { parameters := [.int], returnType := none }, accessFlags := 0, code := some k2c0 }
def k2c1 : Code := { maxStack := 4, maxLocals := 3, code := prog_27_method_3_code, exceptionTable := #[], attributes := #[] }
def k2m1 : Method := { name := "bound", desc := "(JZ)J", sig := { parameters := [.long, .boolean], returnType := some .long }, accessFlags := 8, code := some k2c1 }
def k2c2 : Code := { maxStack := 3, maxLocals := 2, code := prog_27_method_4_code, exceptionTable := #[], attributes := #[] }
def k2m2 : Method := { name := "constant", desc := "(J)J", sig := { parameters := [.long], returnType := some .long }, accessFlags := 8, code := some k2c2 }
def k2c3 : Code := { maxStack := 6, maxLocals := 4, code := prog_27_method_6_code, exceptionTable := #[], attributes := #[] }
def k2m3 : Method := { name := "add", desc := "(JJ)J", sig := { parameters := [.long, .long], returnType := some .long }, accessFlags := 8, code := some k2c3 }
def k2c4 : Code := { maxStack := 5, maxLocals := 3, code := prog_27_method_10_code, exceptionTable := #[], attributes := #[] }
def k2m4 : Method := { name := "write", desc := "([JI)V", sig := { parameters := [(.array .long), .int], returnType := none }, accessFlags := 0, code := some k2c4 }
def k2c5 : Code := { maxStack := 3, maxLocals := 3, code := prog_27_method_12_code, exceptionTable := #[], attributes := #[] }
def k2m5 : Method := { name := "get", desc := "(II)J", sig := { parameters := [.int, .int], returnType := some .long }, accessFlags := 0, code := some k2c5 }
def k2c6 : Code := { maxStack := 4, maxLocals := 1, code := prog_27_method_13_code, exceptionTable := #[], attributes := #[] }
def k2m6 : Method := { name := "isEmpty", desc := "()Z", sig := { parameters := [], returnType := some .boolean }, accessFlags := 0, code := some k2c6 }
def k2c7 : Code := { maxStack := 5, maxLocals := 13, code := prog_27_method_14_code, exceptionTable := #[], attributes := #[] }
def k2m7 : Method := { name := "constrain", desc := "(IIJ)Z", sig := { parameters := [.int, .int, .long], returnType := some .boolean }, accessFlags := 0, code := some k2c7 }
def k2c8 : Code := { maxStack := 4, maxLocals := 2, code := prog_27_method_18_code, exceptionTable := #[], attributes := #[] }
def k2m8 : Method := { name := "up", desc := "()V", sig := { parameters := [], returnType := none }, accessFlags := 0, code := some k2c8 }
def k2c9 : Code := { maxStack := 7, maxLocals := 8, code := prog_27_method_20_code, exceptionTable := #[], attributes := #[] }
def k2m9 : Method := { name := "reset", desc := "(II)V", sig := { parameters := [.int, .int], returnType := none }, accessFlags := 0, code := some k2c9 }
/-- com/example/utu/utu/check/Zone -/
def k2 : Class := { plain "com/example/utu/utu/check/Zone" (some 0) with
  accessFlags := 48
  interfaces := #[]
  cf := some (fileOf pool2 10 #[.nestMembers #[103, 68]] #[{ accessFlags := 0, nameIndex := 7, descriptorIndex := 140, attributes := #[] }, { accessFlags := 8, nameIndex := 61, descriptorIndex := 62, attributes := #[] }, { accessFlags := 8, nameIndex := 34, descriptorIndex := 35, attributes := #[] }, { accessFlags := 8, nameIndex := 55, descriptorIndex := 56, attributes := #[] }, { accessFlags := 0, nameIndex := 148, descriptorIndex := 149, attributes := #[] }, { accessFlags := 0, nameIndex := 51, descriptorIndex := 52, attributes := #[] }, { accessFlags := 0, nameIndex := 47, descriptorIndex := 48, attributes := #[] }, { accessFlags := 0, nameIndex := 65, descriptorIndex := 66, attributes := #[] }, { accessFlags := 0, nameIndex := 156, descriptorIndex := 8, attributes := #[] }, { accessFlags := 0, nameIndex := 158, descriptorIndex := 159, attributes := #[] }] 48 4 #[] #[{ accessFlags := 24, nameIndex := 135, descriptorIndex := 72, attributes := #[] }, { accessFlags := 24, nameIndex := 137, descriptorIndex := 72, attributes := #[] }, { accessFlags := 18, nameIndex := 13, descriptorIndex := 14, attributes := #[] }, { accessFlags := 18, nameIndex := 17, descriptorIndex := 18, attributes := #[] }])
  fields := #[{ name := "INFINITY", type := .long, accessFlags := 24, slot := 0, constantValue := 0 }, { name := "LE_ZERO", type := .long, accessFlags := 24, slot := 1, constantValue := 0 }, { name := "dimension", type := .int, accessFlags := 18, slot := 0, constantValue := 0 }, { name := "bounds", type := (.array .long), accessFlags := 18, slot := 1, constantValue := 0 }]
  methods := #[k2m0, k2m1, k2m2, k2m3, k2m4, k2m5, k2m6, k2m7, k2m8, k2m9]
  instanceTypes := #[.int, (.array .long)]
  staticTypes := #[.long, .long]
  resolved := Array.replicate 187 none
  statics := none }

def pool3 : Array CpInfo := pool [(2, .class_ 4), (1, u "java/lang/Object"), (0, u "<init>"), (0, u "()V"), (7, .class_ 16), (1, u "java/util/Arrays"), (57, .class_ 76), (1, u "java/util/Arrays$NaturalOrder"), (36, .class_ 115), (1, u "java/util/Arrays$LegacyMergeSort"), (1, u "Z"), (257, .class_ 376), (0, u "java/util/Arrays$ArrayList"), (68, u "$assertionsDisabled"), (269, u "MIN_ARRAY_SORT_GRAN"), (0, u "I"), (2, u "INSERTIONSORT_THRESHOLD"), (120, u "fill"), (0, u "([JJ)V"), (133, .class_ 976), (0, u "java/util/Arrays$ArrayItr")] 52

def k3m0 : Method := { name := "<init>", desc := "()V", sig := { parameters := [], returnType := none }, accessFlags := 2, code := none }
def k3c1 : Code := { maxStack := 4, maxLocals := 5, code := jdk_65_method_101_code, exceptionTable := #[], attributes := #[] }
def k3m1 : Method := { name := "fill", desc := "([JJ)V", sig := { parameters := [(.array .long), .long], returnType := none }, accessFlags := 9, code := some k3c1 }
/-- java/util/Arrays -/
def k3 : Class := { plain "java/util/Arrays" (some 0) with
  accessFlags := 49
  interfaces := #[]
  cf := some (fileOf pool3 14 #[.nestMembers #[975, 375, 113, 74]] #[{ accessFlags := 2, nameIndex := 5, descriptorIndex := 6, attributes := #[] }, { accessFlags := 9, nameIndex := 840, descriptorIndex := 841, attributes := #[] }] 49 2 #[] #[{ accessFlags := 26, nameIndex := 715, descriptorIndex := 716, attributes := #[] }, { accessFlags := 26, nameIndex := 719, descriptorIndex := 716, attributes := #[] }, { accessFlags := 4120, nameIndex := 445, descriptorIndex := 117, attributes := #[] }])
  fields := #[{ name := "MIN_ARRAY_SORT_GRAN", type := .int, accessFlags := 26, slot := 0, constantValue := 0 }, { name := "INSERTIONSORT_THRESHOLD", type := .int, accessFlags := 26, slot := 1, constantValue := 0 }, { name := "$assertionsDisabled", type := .boolean, accessFlags := 4120, slot := 2, constantValue := 0 }]
  methods := #[k3m0, k3m1]
  instanceTypes := #[]
  staticTypes := #[.int, .int, .boolean]
  resolved := Array.replicate 1029 none
  statics := none }

def pool4 : Array CpInfo := pool [(2, .class_ 4), (1, u "java/lang/Object"), (0, u "<init>"), (0, u "()V"), (1, .class_ 10), (1, u "java/lang/System"), (0, u "allowSecurityManager"), (0, u "I"), (16, u "cons"), (0, u "Ljava/io/Console;"), (77, .class_ 110), (1, u "java/lang/System$CallersHolder"), (43, u "initialErrStream"), (0, u "Ljava/io/PrintStream;"), (19, u "security"), (0, u "Ljava/lang/SecurityManager;"), (31, .class_ 209), (0, u "java/lang/System$1"), (7, u "props"), (0, u "Ljava/util/Properties;"), (2, u "lineSeparator"), (0, u "Ljava/lang/String;"), (96, .class_ 321), (1, u "java/lang/System$LoggerFinder"), (5, .class_ 328), (0, u "java/lang/System$Logger"), (67, u "err"), (2, u "out"), (91, u "notSupportedJnuEncoding"), (15, u "in"), (17, u "initialIn"), (0, u "Ljava/io/InputStream;"), (35, u "bootLayer"), (0, u "Ljava/lang/ModuleLayer;"), (99, .class_ 664), (0, u "java/lang/System$2"), (9, u "NEVER"), (2, u "MAYBE"), (49, u "arraycopy"), (0, u "(Ljava/lang/Object;ILjava/lang/Object;II)V"), (72, .class_ 802), (0, u "java/lang/System$Logger$Level")] 31

def k4m0 : Method := { name := "<init>", desc := "()V", sig := { parameters := [], returnType := none }, accessFlags := 2, code := none }
def k4m1 : Method := { name := "arraycopy", desc := "(Ljava/lang/Object;ILjava/lang/Object;II)V", sig := { parameters := [(.object "java/lang/Object"), .int, (.object "java/lang/Object"), .int, .int], returnType := none }, accessFlags := 265, code := none }
/-- java/lang/System -/
def k4 : Class := { plain "java/lang/System" (some 0) with
  accessFlags := 49
  interfaces := #[]
  cf := some (fileOf pool4 8 #[.nestMembers #[319, 327, 801, 108, 663, 208]] #[{ accessFlags := 2, nameIndex := 5, descriptorIndex := 6, attributes := #[] }, { accessFlags := 265, nameIndex := 727, descriptorIndex := 728, attributes := #[] }] 49 2 #[] #[{ accessFlags := 25, nameIndex := 507, descriptorIndex := 526, attributes := #[] }, { accessFlags := 25, nameIndex := 399, descriptorIndex := 155, attributes := #[] }, { accessFlags := 25, nameIndex := 396, descriptorIndex := 155, attributes := #[] }, { accessFlags := 10, nameIndex := 525, descriptorIndex := 526, attributes := #[] }, { accessFlags := 26, nameIndex := 674, descriptorIndex := 12, attributes := #[] }, { accessFlags := 26, nameIndex := 677, descriptorIndex := 12, attributes := #[] }, { accessFlags := 10, nameIndex := 11, descriptorIndex := 12, attributes := #[] }, { accessFlags := 74, nameIndex := 175, descriptorIndex := 176, attributes := #[] }, { accessFlags := 10, nameIndex := 491, descriptorIndex := 222, attributes := #[] }, { accessFlags := 74, nameIndex := 29, descriptorIndex := 30, attributes := #[] }, { accessFlags := 74, nameIndex := 154, descriptorIndex := 155, attributes := #[] }, { accessFlags := 10, nameIndex := 217, descriptorIndex := 218, attributes := #[] }, { accessFlags := 10, nameIndex := 221, descriptorIndex := 222, attributes := #[] }, { accessFlags := 8, nameIndex := 562, descriptorIndex := 563, attributes := #[] }])
  fields := #[{ name := "in", type := (.object "java/io/InputStream"), accessFlags := 25, slot := 0, constantValue := 0 }, { name := "out", type := (.object "java/io/PrintStream"), accessFlags := 25, slot := 1, constantValue := 0 }, { name := "err", type := (.object "java/io/PrintStream"), accessFlags := 25, slot := 2, constantValue := 0 }, { name := "initialIn", type := (.object "java/io/InputStream"), accessFlags := 10, slot := 3, constantValue := 0 }, { name := "NEVER", type := .int, accessFlags := 26, slot := 4, constantValue := 0 }, { name := "MAYBE", type := .int, accessFlags := 26, slot := 5, constantValue := 0 }, { name := "allowSecurityManager", type := .int, accessFlags := 10, slot := 6, constantValue := 0 }, { name := "security", type := (.object "java/lang/SecurityManager"), accessFlags := 74, slot := 7, constantValue := 0 }, { name := "notSupportedJnuEncoding", type := (.object "java/lang/String"), accessFlags := 10, slot := 8, constantValue := 0 }, { name := "cons", type := (.object "java/io/Console"), accessFlags := 74, slot := 9, constantValue := 0 }, { name := "initialErrStream", type := (.object "java/io/PrintStream"), accessFlags := 74, slot := 10, constantValue := 0 }, { name := "props", type := (.object "java/util/Properties"), accessFlags := 10, slot := 11, constantValue := 0 }, { name := "lineSeparator", type := (.object "java/lang/String"), accessFlags := 10, slot := 12, constantValue := 0 }, { name := "bootLayer", type := (.object "java/lang/ModuleLayer"), accessFlags := 8, slot := 13, constantValue := 0 }]
  methods := #[k4m0, k4m1]
  instanceTypes := #[]
  staticTypes := #[(.object "java/io/InputStream"), (.object "java/io/PrintStream"), (.object "java/io/PrintStream"), (.object "java/io/InputStream"), .int, .int, .int, (.object "java/lang/SecurityManager"), (.object "java/lang/String"), (.object "java/io/Console"), (.object "java/io/PrintStream"), (.object "java/util/Properties"), (.object "java/lang/String"), (.object "java/lang/ModuleLayer")]
  resolved := Array.replicate 834 none
  statics := none }

def pool5 : Array CpInfo := pool [(1, u "java/lang/Cloneable"), (0, .class_ 1), (0, u "java/lang/Object"), (0, .class_ 3)] 3

/-- java/lang/Cloneable -/
def k5 : Class := { plain "java/lang/Cloneable" (some 0) with
  accessFlags := 1537
  interfaces := #[]
  cf := some (fileOf pool5 2 #[] #[] 1537 4 #[] #[])
  fields := #[]
  methods := #[]
  instanceTypes := #[]
  staticTypes := #[]
  resolved := Array.replicate 8 none
  statics := none }

def pool6 : Array CpInfo := pool [(1, u "java/io/Serializable"), (0, .class_ 1), (0, u "java/lang/Object"), (0, .class_ 3)] 3

/-- java/io/Serializable -/
def k6 : Class := { plain "java/io/Serializable" (some 0) with
  accessFlags := 1537
  interfaces := #[]
  cf := some (fileOf pool6 2 #[] #[] 1537 4 #[] #[])
  fields := #[]
  methods := #[]
  instanceTypes := #[]
  staticTypes := #[]
  resolved := Array.replicate 8 none
  statics := none }

/-- the primitive byte -/
def k7 : Class := { plain "byte" none with kind := .primitive 'B', accessFlags := 0x411 }
/-- [B -/
def k8 : Class := { plain "[B" (some 0) with kind := .array 7 .byte, interfaces := #[5, 6], accessFlags := 1041 }

/-- the primitive int -/
def k9 : Class := { plain "int" none with kind := .primitive 'I', accessFlags := 0x411 }
/-- [I -/
def k10 : Class := { plain "[I" (some 0) with kind := .array 9 .int, interfaces := #[5, 6], accessFlags := 1041 }

/-- the primitive long -/
def k11 : Class := { plain "long" none with kind := .primitive 'J', accessFlags := 0x411 }
/-- [J -/
def k12 : Class := { plain "[J" (some 0) with kind := .array 11 .long, interfaces := #[5, 6], accessFlags := 1041 }

def heap : Heap := #[]
def classes : Array Class := #[k0, k1, k2, k3, k4, k5, k6, k7, k8, k9, k10, k11, k12]
def interned : List (Array UInt16 × Addr) := []
def slotsUsed : Nat := 0
def theMethod : MethodId := ⟨1, 1⟩
def args0 : Array Value := #[.int 5, .int 1, .int 1, .int 1, .int 1]
def aboutOver (below : List Frame) : State where
  vm := { classes := classes, interned := interned.toArray }
  heap := heap
  slotsUsed := slotsUsed
  threads := #[{ frames := .invoking theMethod args0 :: below }]
def below0 : List Frame := [.native { method := ⟨0, 0⟩, args := #[] }]
def about1 : State := aboutOver below0
def p0 : Program := .bare "" "" ""
def e0 : Env := launch0.env 0 0 0
theorem w_frames : about1.frames = Frame.invoking theMethod args0 :: below0 := rfl
set_option maxRecDepth 65536 in
theorem w_args : argsFit about1.vm theMethod args0 = true := by decide +kernel
set_option maxRecDepth 65536 in
theorem w_heap : heapFits about1 = true := by decide +kernel
set_option maxRecDepth 65536 in
theorem w_runnable : about1.curStatus? = some .runnable := by decide +kernel
set_option maxRecDepth 65536 in
theorem w_alone : about1.alone = true := by decide +kernel
set_option maxRecDepth 65536 in
theorem w_named : about1.methodNamed? x = some theMethod := by decide +kernel
set_option maxRecDepth 65536 in
theorem w_hears : about1.hears theMethod below0 = true := by decide +kernel
set_option maxRecDepth 65536 in
theorem w_ripe : about1.ripe theMethod args0 below0 = true := by decide +kernel
theorem w_running : about1.status = .running := rfl
set_option maxRecDepth 65536 in
theorem w_room : about1.hasRoom e0.platform room_1 = true :=
  launch0.hasRoom_least _ room_1 (by decide +kernel) (by decide +kernel) (by decide +kernel) (by decide +kernel) (by decide +kernel) (by decide +kernel)
theorem allAtoms_all (ts : List Jvm.Cond) (a : Array Jvm.Value) (st : Jvm.State) : (allAtoms ts).before a st = ts.all (fun c => c.before a st) := by
  induction ts with
  | nil => rfl
  | cons c t ih =>
    show (Jvm.Cond.and c (allAtoms t)).before a st = _
    rw [Jvm.Cond.before_and, ih, List.all_cons]
def words1 : List Jvm.Cond := Jvm.Cond.code x code maxLocals ret :: tables_1
/-- a 'code' word, met by the world's own term for the bytes: nothing is compared byte by byte -/
theorem code_word {y : MethodName} {bytes : ByteArray} {mx : Nat} {rt : Option FieldType} {a : Array Value} {s : State} {m : MethodId} {meth : Method} {c : Code} (h1 : s.methodNamed? y = some m) (h2 : s.vm.method? m = some meth) (h3 : meth.code = some c) (h4 : c.code = bytes)
    (h5 : (c.maxLocals == mx && c.exceptionTable.isEmpty && decide (c.maxStack ≤ mostOperands) && decide (meth.sig.returnType = rt) && !meth.locks && decide (parseMethodDescriptor y.desc = some meth.sig)) = true) : (Jvm.Cond.code y bytes mx rt).before a s = true := by
  simp only [Bool.and_eq_true, beq_iff_eq, Bool.not_eq_true', decide_eq_true_eq] at h5
  obtain ⟨⟨⟨⟨⟨g1, g2⟩, g3⟩, g4⟩, g5⟩, g6⟩ := h5
  simp [Cond.before, Cond.holds, Cond.value, h1, h2, h3, h4, g1, g2, g3, g4, g5, g6]
def isCode : Jvm.Cond → Bool
  | .code _ _ _ _ => true
  | _ => false
theorem all_split {L : List Jvm.Cond} {P : Jvm.Cond → Bool} (h1 : L.all (fun c => isCode c || P c) = true) (h2 : ∀ c ∈ L.filter isCode, P c = true) : L.all P = true := by
  refine List.all_eq_true.mpr fun c hc => ?_
  have h := List.all_eq_true.mp h1 c hc
  rcases Bool.eq_false_or_eq_true (isCode c) with hi | hi
  · exact h2 c (List.mem_filter.mpr ⟨hc, hi⟩)
  · simpa [hi] using h
set_option maxRecDepth 65536 in
theorem w_c0 : (Jvm.Cond.code x code maxLocals ret).before args0 about1 = true := code_word (m := ⟨1, 1⟩) (meth := k1m1) (c := k1c1) (by decide +kernel) rfl rfl rfl (by decide +kernel)
set_option maxRecDepth 65536 in
theorem w_c1 : (Jvm.Cond.code ({ cls := "com/example/utu/utu/check/Zone", name := "<init>", desc := "(I)V" } : Jvm.MethodName) prog_27_method_1_code (2 : Nat) (Option.none : Option Jvm.ClassFile.FieldType)).before args0 about1 = true := code_word (m := ⟨2, 0⟩) (meth := k2m0) (c := k2c0) (by decide +kernel) rfl rfl rfl (by decide +kernel)
set_option maxRecDepth 65536 in
theorem w_c2 : (Jvm.Cond.code ({ cls := "java/lang/Object", name := "<init>", desc := "()V" } : Jvm.MethodName) object_method_1_code (1 : Nat) (Option.none : Option Jvm.ClassFile.FieldType)).before args0 about1 = true := code_word (m := ⟨0, 0⟩) (meth := k0m0) (c := k0c0) (by decide +kernel) rfl rfl rfl (by decide +kernel)
set_option maxRecDepth 65536 in
theorem w_c3 : (Jvm.Cond.code ({ cls := "java/util/Arrays", name := "fill", desc := "([JJ)V" } : Jvm.MethodName) jdk_65_method_101_code (5 : Nat) (Option.none : Option Jvm.ClassFile.FieldType)).before args0 about1 = true := code_word (m := ⟨3, 1⟩) (meth := k3m1) (c := k3c1) (by decide +kernel) rfl rfl rfl (by decide +kernel)
set_option maxRecDepth 65536 in
theorem w_c4 : (Jvm.Cond.code ({ cls := "com/example/utu/utu/check/Zone", name := "bound", desc := "(JZ)J" } : Jvm.MethodName) prog_27_method_3_code (3 : Nat) (Option.some Jvm.ClassFile.FieldType.long)).before args0 about1 = true := code_word (m := ⟨2, 1⟩) (meth := k2m1) (c := k2c1) (by decide +kernel) rfl rfl rfl (by decide +kernel)
set_option maxRecDepth 65536 in
theorem w_c5 : (Jvm.Cond.code ({ cls := "com/example/utu/utu/check/Zone", name := "constrain", desc := "(IIJ)Z" } : Jvm.MethodName) prog_27_method_14_code (13 : Nat) (Option.some Jvm.ClassFile.FieldType.boolean)).before args0 about1 = true := code_word (m := ⟨2, 7⟩) (meth := k2m7) (c := k2c7) (by decide +kernel) rfl rfl rfl (by decide +kernel)
set_option maxRecDepth 65536 in
theorem w_c6 : (Jvm.Cond.code ({ cls := "com/example/utu/utu/check/Zone", name := "isEmpty", desc := "()Z" } : Jvm.MethodName) prog_27_method_13_code (1 : Nat) (Option.some Jvm.ClassFile.FieldType.boolean)).before args0 about1 = true := code_word (m := ⟨2, 6⟩) (meth := k2m6) (c := k2c6) (by decide +kernel) rfl rfl rfl (by decide +kernel)
set_option maxRecDepth 65536 in
theorem w_c7 : (Jvm.Cond.code ({ cls := "com/example/utu/utu/check/Zone", name := "get", desc := "(II)J" } : Jvm.MethodName) prog_27_method_12_code (3 : Nat) (Option.some Jvm.ClassFile.FieldType.long)).before args0 about1 = true := code_word (m := ⟨2, 5⟩) (meth := k2m5) (c := k2c5) (by decide +kernel) rfl rfl rfl (by decide +kernel)
set_option maxRecDepth 65536 in
theorem w_c8 : (Jvm.Cond.code ({ cls := "com/example/utu/utu/check/Zone", name := "write", desc := "([JI)V" } : Jvm.MethodName) prog_27_method_10_code (3 : Nat) (Option.none : Option Jvm.ClassFile.FieldType)).before args0 about1 = true := code_word (m := ⟨2, 4⟩) (meth := k2m4) (c := k2c4) (by decide +kernel) rfl rfl rfl (by decide +kernel)
set_option maxRecDepth 65536 in
theorem w_c9 : (Jvm.Cond.code ({ cls := "com/example/utu/utu/check/Zone", name := "up", desc := "()V" } : Jvm.MethodName) prog_27_method_18_code (2 : Nat) (Option.none : Option Jvm.ClassFile.FieldType)).before args0 about1 = true := code_word (m := ⟨2, 8⟩) (meth := k2m8) (c := k2c8) (by decide +kernel) rfl rfl rfl (by decide +kernel)
set_option maxRecDepth 65536 in
theorem w_c10 : (Jvm.Cond.code ({ cls := "com/example/utu/utu/check/ZoneUpPinLaw", name := "ok", desc := "([J[JII)Z" } : Jvm.MethodName) method_3_code (5 : Nat) (Option.some Jvm.ClassFile.FieldType.boolean)).before args0 about1 = true := code_word (m := ⟨1, 2⟩) (meth := k1m2) (c := k1c2) (by decide +kernel) rfl rfl rfl (by decide +kernel)
set_option maxRecDepth 65536 in
theorem w_c11 : (Jvm.Cond.code ({ cls := "com/example/utu/utu/check/Zone", name := "reset", desc := "(II)V" } : Jvm.MethodName) prog_27_method_20_code (8 : Nat) (Option.none : Option Jvm.ClassFile.FieldType)).before args0 about1 = true := code_word (m := ⟨2, 9⟩) (meth := k2m9) (c := k2c9) (by decide +kernel) rfl rfl rfl (by decide +kernel)
set_option maxRecDepth 65536 in
theorem w_c12 : (Jvm.Cond.code ({ cls := "com/example/utu/utu/check/Zone", name := "add", desc := "(JJ)J" } : Jvm.MethodName) prog_27_method_6_code (4 : Nat) (Option.some Jvm.ClassFile.FieldType.long)).before args0 about1 = true := code_word (m := ⟨2, 3⟩) (meth := k2m3) (c := k2c3) (by decide +kernel) rfl rfl rfl (by decide +kernel)
set_option maxRecDepth 65536 in
theorem w_c13 : (Jvm.Cond.code ({ cls := "com/example/utu/utu/check/Zone", name := "constant", desc := "(J)J" } : Jvm.MethodName) prog_27_method_4_code (2 : Nat) (Option.some Jvm.ClassFile.FieldType.long)).before args0 about1 = true := code_word (m := ⟨2, 2⟩) (meth := k2m2) (c := k2c2) (by decide +kernel) rfl rfl rfl (by decide +kernel)
def codes1 : List Jvm.Cond := [Jvm.Cond.code x code maxLocals ret, Jvm.Cond.code ({ cls := "com/example/utu/utu/check/Zone", name := "<init>", desc := "(I)V" } : Jvm.MethodName) prog_27_method_1_code (2 : Nat) (Option.none : Option Jvm.ClassFile.FieldType), Jvm.Cond.code ({ cls := "java/lang/Object", name := "<init>", desc := "()V" } : Jvm.MethodName) object_method_1_code (1 : Nat) (Option.none : Option Jvm.ClassFile.FieldType), Jvm.Cond.code ({ cls := "java/util/Arrays", name := "fill", desc := "([JJ)V" } : Jvm.MethodName) jdk_65_method_101_code (5 : Nat) (Option.none : Option Jvm.ClassFile.FieldType), Jvm.Cond.code ({ cls := "com/example/utu/utu/check/Zone", name := "bound", desc := "(JZ)J" } : Jvm.MethodName) prog_27_method_3_code (3 : Nat) (Option.some Jvm.ClassFile.FieldType.long), Jvm.Cond.code ({ cls := "com/example/utu/utu/check/Zone", name := "constrain", desc := "(IIJ)Z" } : Jvm.MethodName) prog_27_method_14_code (13 : Nat) (Option.some Jvm.ClassFile.FieldType.boolean), Jvm.Cond.code ({ cls := "com/example/utu/utu/check/Zone", name := "isEmpty", desc := "()Z" } : Jvm.MethodName) prog_27_method_13_code (1 : Nat) (Option.some Jvm.ClassFile.FieldType.boolean), Jvm.Cond.code ({ cls := "com/example/utu/utu/check/Zone", name := "get", desc := "(II)J" } : Jvm.MethodName) prog_27_method_12_code (3 : Nat) (Option.some Jvm.ClassFile.FieldType.long), Jvm.Cond.code ({ cls := "com/example/utu/utu/check/Zone", name := "write", desc := "([JI)V" } : Jvm.MethodName) prog_27_method_10_code (3 : Nat) (Option.none : Option Jvm.ClassFile.FieldType), Jvm.Cond.code ({ cls := "com/example/utu/utu/check/Zone", name := "up", desc := "()V" } : Jvm.MethodName) prog_27_method_18_code (2 : Nat) (Option.none : Option Jvm.ClassFile.FieldType), Jvm.Cond.code ({ cls := "com/example/utu/utu/check/ZoneUpPinLaw", name := "ok", desc := "([J[JII)Z" } : Jvm.MethodName) method_3_code (5 : Nat) (Option.some Jvm.ClassFile.FieldType.boolean), Jvm.Cond.code ({ cls := "com/example/utu/utu/check/Zone", name := "reset", desc := "(II)V" } : Jvm.MethodName) prog_27_method_20_code (8 : Nat) (Option.none : Option Jvm.ClassFile.FieldType), Jvm.Cond.code ({ cls := "com/example/utu/utu/check/Zone", name := "add", desc := "(JJ)J" } : Jvm.MethodName) prog_27_method_6_code (4 : Nat) (Option.some Jvm.ClassFile.FieldType.long), Jvm.Cond.code ({ cls := "com/example/utu/utu/check/Zone", name := "constant", desc := "(J)J" } : Jvm.MethodName) prog_27_method_4_code (2 : Nat) (Option.some Jvm.ClassFile.FieldType.long)]
set_option maxRecDepth 65536 in
theorem codes_eq : words1.filter isCode = codes1 := rfl
theorem w_codes : ∀ c ∈ words1.filter isCode, c.before args0 about1 = true := by
  rw [codes_eq]
  intro c hc
  simp only [codes1, List.mem_cons, List.not_mem_nil, or_false] at hc
  rcases hc with rfl | rfl | rfl | rfl | rfl | rfl | rfl | rfl | rfl | rfl | rfl | rfl | rfl | rfl
  · exact w_c0
  · exact w_c1
  · exact w_c2
  · exact w_c3
  · exact w_c4
  · exact w_c5
  · exact w_c6
  · exact w_c7
  · exact w_c8
  · exact w_c9
  · exact w_c10
  · exact w_c11
  · exact w_c12
  · exact w_c13
set_option maxRecDepth 65536 in
theorem w_t1 : (words1.take 24).all (fun c => isCode c || c.before args0 about1) = true := by decide +kernel
set_option maxRecDepth 65536 in
theorem w_t2 : ((words1.drop 24).take 24).all (fun c => isCode c || c.before args0 about1) = true := by decide +kernel
set_option maxRecDepth 65536 in
theorem w_t3 : ((words1.drop 24).drop 24).all (fun c => isCode c || c.before args0 about1) = true := by decide +kernel
theorem w_tables : (allAtoms (Jvm.Cond.code x code maxLocals ret :: tables_1)).before args0 about1 = true := by
  rw [allAtoms_all]
  show words1.all (fun c => c.before args0 about1) = true
  refine all_split ?_ w_codes
  rw [← List.take_append_drop 24 words1, List.all_append, w_t1, ← List.take_append_drop 24 (words1.drop 24), List.all_append, w_t2, w_t3]
  rfl
set_option maxRecDepth 65536 in
theorem w_case : (Jvm.Cond.and given_1 narrow_1).before args0 about1 = true := by decide +kernel
theorem w_applies : (headSpec (Jvm.Cond.code x code maxLocals ret :: tables_1) room_1).applies x e0.platform about1 = true :=
  (Spec.applies_iff w_frames).mpr ⟨w_running, w_runnable, w_alone, w_named, w_hears, w_ripe, w_room, w_tables⟩
theorem atStart : AtStart classFile x code maxLocals ret World_1 tables_1 room_1 Calls_1 rest_1 Pre_1 launch0 p0 e0 about1 theMethod args0 below0 :=
  ⟨lists_1, trivial, launch0.admits_env _ _ _, launch0.least_env, fairChoices_fair.cas, fairChoices_fair.clock, w_frames, w_args, w_heap, w_applies, trivial, trivial, w_case⟩
end start1
theorem witness_1 : WitnessClaimed_1 := ⟨start1.p0, start1.e0, start1.about1, start1.theMethod, start1.args0, start1.below0, start1.atStart⟩
end Jvm.Pilot.@@N@@

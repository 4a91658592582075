import JvmDerived
import JvmDerived.Pilot.@@N@@Statement
import JvmDerived.Pilot.@@N@@Code
set_option linter.unusedVariables false
set_option linter.unusedSimpArgs false
@@BLOCK:NumsL.lean.txt@@
namespace Jvm.RoadKit
open Sem ClassFile Op Lib Jvm.Stand Jvm.Free Jvm.LawKit
section New
variable {p : Program} {l : Launch} {e : Env} {R : Room} {s : State} {m : MethodId} {args : Array Value} {below : List Frame} {meth : Method} {c : Code} {T : State} {locs : List Loc} {cells slots : Nat}
theorem retI (X : Stand p l e R s m args below meth c T locs cells slots) (hx : p.tables.exec = Jvm.exec) {pc : Nat} {Ls : Array Slot} {z : Int32} {rest : List Value} (hret : meth.sig.returnType = some .int) (hd : decode c.code pc = .ok (.ireturn, 1)) {fs : List Frame}
    (hl : ∀ (f : JFrame) (acts : List Action), f.method = m → f.locked = none → f.entered = [] → (doReturn e (T.setTop f) acts (some (.int z))).1 = T.setFrames fs) : Steps p.tables e below (T.setTop (mkF m pc Ls (.int z :: rest))) (T.setFrames fs) := by
  have hm' : T.vm.method? m = some meth := X.method'
  have hn : narrow .int (.int z) = .int z := rfl
  show Steps p.tables e below (T.setTop { method := m, pc := pc, locals := Ls, stack := _ :: rest, locked := none }) _
  jvm_step X.here [X.here.top, hx, hd, hm', hret, hn]
  first | (intro acts; rw [hl _ acts rfl rfl rfl]) | rw [hl _ _ rfl rfl rfl]
  exact Steps.refl _
end New
end Jvm.RoadKit
namespace Jvm.Pilot.@@N@@
open Jvm Jvm.ClassFile Sem Op Lib Jvm.Free Jvm.Stand Jvm.LawKit Jvm.RoadKit Bundle Jvm.Pilot.@@N@@.Jvm.D
section OwnLayer
variable {p : Program} {l : Launch} {e : Env} {R : Room} {s : State} {m : MethodId} {args : Array Value} {below : List Frame} {meth : Method} {c : Code} {T T' : State} {h h' : Heap} {n0 ck sk ck' sk' : Nat} {Z : State} {a0 : Array Value} {Post : Outcome → State → Prop} {g g' : JFrame}
/-- from this state and frame the run comes to an end of the invocation of which Post holds -/
def Go (p : Program) (e : Env) (below : List Frame) (Post : Outcome → State → Prop) (T : State) (g : JFrame) : Prop :=
  ∃ s₂ o, Steps p.tables e below (T.setTop g) s₂ ∧ s₂.status = .running ∧ Ended s₂ below o ∧ Post o s₂
theorem Go.st (hs : ∀ t, Steps p.tables e below (T'.setTop g') t → Steps p.tables e below (T.setTop g) t) (k : Go p e below Post T' g') : Go p e below Post T g := by
  obtain ⟨s2, o, h1, h2⟩ := k
  exact ⟨s2, o, hs _ h1, h2⟩
/-- where the walk stands: the heap is h; what was written lies at or above n0; at most ck cells and sk slots were made -/
def Stn (p : Program) (l : Launch) (e : Env) (R : Room) (s : State) (m : MethodId) (args : Array Value) (below : List Frame) (meth : Method) (c : Code) (n0 : Nat) (T : State) (h : Heap) (ck sk : Nat) : Prop :=
  T.heap = h ∧ ∃ locs, Fr n0 locs ∧ Stand p l e R s m args below meth c T locs ck sk
theorem Stn.here (X : Stn p l e R s m args below meth c n0 T h ck sk) : At T m c below := by
  obtain ⟨_, _, _, Y⟩ := X
  exact Y.here
theorem Stn.mono (X : Stn p l e R s m args below meth c n0 T h ck sk) (h1 : ck ≤ ck') (h2 : sk ≤ sk') : Stn p l e R s m args below meth c n0 T h ck' sk' := by
  obtain ⟨e1, L, N, Y⟩ := X
  exact ⟨e1, L, N, Y.more h1 h2⟩
/-- what a body's end says -/
def PostW (s : State) (n0 C S : Nat) (Q : Option Value → Heap → Prop) (o : Outcome) (U : State) : Prop :=
  ∃ v L, o = .returned v ∧ (Fr n0 L ∧ Q v U.heap) ∧ FrameEnd s o U L C S
/-- a body's contract -/
def Con (l : Launch) (y : MethodName) (bytes : ByteArray) (maxL : Nat) (ret : Option FieldType) (rm : Room) (ws : List Jvm.Cond) (Z : State) (n0 : Nat) (as' : Array Value) (h : Heap) (Q : Option Value → Heap → Prop) : Prop :=
  MetFree l y (head1 (Jvm.Cond.code y bytes maxL ret :: ws) rm) (fun a U => a = as' ∧ Z.Warmed39 U.vm ∧ U.heap = h) (fun _ _ _ _ _ => True) (fun _ U o U' => ∃ v L, o = .returned v ∧ (Fr n0 L ∧ Q v U'.heap) ∧ FrameEnd U o U' L rm.cells rm.slots)
theorem Con.body {y : MethodName} {bytes : ByteArray} {maxL : Nat} {ret : Option FieldType} {rm : Room} {ws : List Jvm.Cond} {as' : Array Value} {Q : Option Value → Heap → Prop} (hp : plainFor y = true)
    (k : ∀ (p : Program) (e : Env) (s : State) (m : MethodId) (below : List Frame) (meth : Method) (c : Code) (s₁ : State), p.tables.exec = Jvm.exec → c.code = bytes → c.maxLocals = maxL → s.vm.findClass y.cls = some m.cls → meth.name = y.name → meth.sig.returnType = ret → meth.locks = false → Z.Warmed39 s.vm →
      Stn p l e rm s m as' below meth c n0 s₁ h 0 0 → Go p e below (PostW s n0 rm.cells rm.slots Q) s₁ (entryFrame m as' maxL)) : Con l y bytes maxL ret rm ws Z n0 as' h Q := by
  refine MetFree.of_bodySF hp hisR ?_
  intro p e s m args below meth c s₁ Bd hml0 hP hK
  obtain ⟨rfl, hZ, hh⟩ := hP
  have e0 : s₁.heap = h := by rw [← hh, Bd.state]; rfl
  exact k p e s m below meth c s₁ Bd.exec Bd.bytes hml0 (findClass_of_methodNamed Bd.named) (name_of_methodNamed Bd.named Bd.method).1 Bd.returns Bd.notSynchronized hZ ⟨e0, [], Fr.nil n0, Stand.of_body Bd⟩
theorem Con.mono {y : MethodName} {bytes : ByteArray} {maxL : Nat} {ret : Option FieldType} {rm : Room} {ws : List Jvm.Cond} {as' : Array Value} {Q Q' : Option Value → Heap → Prop} (hM : Con l y bytes maxL ret rm ws Z n0 as' h Q) (hq : ∀ v h', Q v h' → Q' v h') : Con l y bytes maxL ret rm ws Z n0 as' h Q' := by
  intro p e ha hc hk s m args below hf happ hP hK
  obtain ⟨n, o, h1, h2, h3, v, L, h4, ⟨h5, h6⟩, h7⟩ := hM p e ha hc hk s m args below hf happ hP hK
  exact ⟨n, o, h1, h2, h3, v, L, h4, ⟨h5, hq _ _ h6⟩, h7⟩
/-! a long's comparison -/
theorem lcTlt {a b : Int64} (h : a < b) : ifCond.holds .lt (lcmpW a b) = true ∧ ifCond.holds .ge (lcmpW a b) = false := by
  have q : lcmpW a b < 0 := by rw [lcW]; exact (lc_lt a b).mpr h
  exact ⟨(if0 _ _).trans (tlt q).1, (if0 _ _).trans (tlt q).2.1⟩
theorem lcFlt {a b : Int64} (h : ¬ a < b) : ifCond.holds .lt (lcmpW a b) = false ∧ ifCond.holds .ge (lcmpW a b) = true := by
  have q : ¬ lcmpW a b < 0 := fun z => h ((lc_lt a b).mp (by rw [← lcW]; exact z))
  exact ⟨(if0 _ _).trans (flt q).1, (if0 _ _).trans (flt q).2.1⟩
theorem lcTgt {a b : Int64} (h : b < a) : ifCond.holds .gt (lcmpW a b) = true ∧ ifCond.holds .le (lcmpW a b) = false := by
  have q : 0 < lcmpW a b := by rw [lcW]; exact (lc_gt a b).mpr h
  exact ⟨(if0 _ _).trans (tlt q).2.2.1, (if0 _ _).trans (tlt q).2.2.2⟩
theorem lcFgt {a b : Int64} (h : ¬ b < a) : ifCond.holds .gt (lcmpW a b) = false ∧ ifCond.holds .le (lcmpW a b) = true := by
  have q : ¬ 0 < lcmpW a b := fun z => h ((lc_gt a b).mp (by rw [← lcW]; exact z))
  exact ⟨(if0 _ _).trans (flt q).2.2.1, (if0 _ _).trans (flt q).2.2.2⟩
theorem lcTeq {a b : Int64} (h : a = b) : ifCond.holds .eq (lcmpW a b) = true ∧ ifCond.holds .ne (lcmpW a b) = false := by
  have q : lcmpW a b = 0 := by rw [lcW]; exact (lc_eq a b).mpr h
  exact ⟨(if0 _ _).trans (teq q).1, (if0 _ _).trans (teq q).2⟩
theorem lcFeq {a b : Int64} (h : ¬ a = b) : ifCond.holds .eq (lcmpW a b) = false ∧ ifCond.holds .ne (lcmpW a b) = true := by
  have q : ¬ lcmpW a b = 0 := fun z => h ((lc_eq a b).mp (by rw [← lcW]; exact z))
  exact ⟨(if0 _ _).trans (feq q).1, (if0 _ _).trans (feq q).2⟩
theorem acT {a b : Addr} (h : a = b) : if_acmp.holds .eq (some a) (some b) = true ∧ if_acmp.holds .ne (some a) (some b) = false := by subst h; simp [if_acmp.holds]
theorem acF {a b : Addr} (h : ¬ a = b) : if_acmp.holds .eq (some a) (some b) = false ∧ if_acmp.holds .ne (some a) (some b) = true := by simp [if_acmp.holds, h]
/-! returns -/
theorem goRet {v : Option Value} {Q : Option Value → Heap → Prop} {C S : Nat} (X : Stn p l e R s m args below meth c n0 T h ck sk) (hlk : meth.locks = false) (hv : meth.sig.returnType = none → v = none)
    (hst : ∀ locs fs, Stand p l e R s m args below meth c T locs ck sk → (∀ (f : JFrame) (acts : List Action), f.method = m → f.locked = none → f.entered = [] → (doReturn e (T.setTop f) acts v).1 = T.setFrames fs) → Steps p.tables e below (T.setTop g) (T.setFrames fs))
    (hq : Q v h) (h1 : ck ≤ C) (h2 : sk ≤ S) : Go p e below (PostW s n0 C S Q) T g := by
  obtain ⟨eT, locs, N, Y⟩ := X
  obtain ⟨fs, hr, hrun, hended, hW, hsame⟩ := Y.leave hv hlk
  exact ⟨_, _, hst locs fs Y hr, hrun, hended, _, _, rfl, ⟨N, (by show Q v T.heap; rw [eT]; exact hq)⟩, ⟨_, rfl⟩, hW, hsame.mono h1 h2⟩
theorem goRetI {pc : Nat} {Ls : Array Slot} {z : Int32} {rest : List Value} {Q : Option Value → Heap → Prop} {C S : Nat} (X : Stn p l e R s m args below meth c n0 T h ck sk) (hx : p.tables.exec = Jvm.exec) (hlk : meth.locks = false) (hret : meth.sig.returnType = some .int)
    (hd : decode c.code pc = .ok (.ireturn, 1)) (h1 : ck ≤ C) (h2 : sk ≤ S) (hq : Q (some (.int z)) h) : Go p e below (PostW s n0 C S Q) T (mkF m pc Ls (.int z :: rest)) :=
  goRet X hlk (fun h => by rw [hret] at h; cases h) (fun _ _ Y hr => retI Y hx hret hd hr) hq h1 h2
theorem goRetZ {pc : Nat} {Ls : Array Slot} {z : Int32} {rest : List Value} {Q : Option Value → Heap → Prop} {C S : Nat} (X : Stn p l e R s m args below meth c n0 T h ck sk) (hx : p.tables.exec = Jvm.exec) (hlk : meth.locks = false) (hret : meth.sig.returnType = some .boolean)
    (hd : decode c.code pc = .ok (.ireturn, 1)) (h1 : ck ≤ C) (h2 : sk ≤ S) (hz : z = 0 ∨ z = 1) (hq : Q (some (.int z)) h) : Go p e below (PostW s n0 C S Q) T (mkF m pc Ls (.int z :: rest)) := by
  rcases hz with rfl | rfl
  · exact goRet X hlk (fun h => by rw [hret] at h; cases h) (fun _ _ Y hr => retN Y hx (t := .boolean) hret (by simp) hd hr) hq h1 h2
  · exact goRet X hlk (fun h => by rw [hret] at h; cases h) (fun _ _ Y hr => retN Y hx (t := .boolean) hret (by simp) hd hr) hq h1 h2
theorem goRetV {pc : Nat} {Ls : Array Slot} {Q : Option Value → Heap → Prop} {C S : Nat} (X : Stn p l e R s m args below meth c n0 T h ck sk) (hx : p.tables.exec = Jvm.exec) (hlk : meth.locks = false) (hret : meth.sig.returnType = none)
    (hd : decode c.code pc = .ok (.return_, 1)) (h1 : ck ≤ C) (h2 : sk ≤ S) (hq : Q none h) : Go p e below (PostW s n0 C S Q) T (mkF m pc Ls []) :=
  goRet X hlk (fun _ => rfl) (fun _ _ Y hr => Y.returnOut hx hret hd hr) hq h1 h2
theorem goRetL {pc : Nat} {Ls : Array Slot} {z : Int64} {rest : List Value} {Q : Option Value → Heap → Prop} {C S : Nat} (X : Stn p l e R s m args below meth c n0 T h ck sk) (hx : p.tables.exec = Jvm.exec) (hlk : meth.locks = false) (hret : meth.sig.returnType = some .long)
    (hd : decode c.code pc = .ok (.lreturn, 1)) (h1 : ck ≤ C) (h2 : sk ≤ S) (hq : Q (some (.long z)) h) : Go p e below (PostW s n0 C S Q) T (mkF m pc Ls (.long z :: rest)) :=
  goRet X hlk (fun h => by rw [hret] at h; cases h) (fun _ _ Y hr => by
    jvm_step Y.here [Y.here.top, hx, hd, Y.method', hret, narrow]
    first | (intro acts; rw [hr _ acts rfl rfl rfl]) | rw [hr _ _ rfl rfl rfl]
    exact Steps.refl _) hq h1 h2
theorem goRetA {pc : Nat} {Ls : Array Slot} {z : Addr} {rest : List Value} {t : FieldType} {Q : Option Value → Heap → Prop} {C S : Nat} (X : Stn p l e R s m args below meth c n0 T h ck sk) (hx : p.tables.exec = Jvm.exec) (hlk : meth.locks = false) (hret : meth.sig.returnType = some t) (ht : t.isReference = true)
    (hd : decode c.code pc = .ok (.areturn, 1)) (h1 : ck ≤ C) (h2 : sk ≤ S) (hq : Q (some (.ref z)) h) : Go p e below (PostW s n0 C S Q) T (mkF m pc Ls (.ref z :: rest)) :=
  goRet X hlk (fun h => by rw [hret] at h; cases h) (fun _ _ Y hr => by
    jvm_step Y.here [Y.here.top, hx, hd, Y.method', hret, Value.isRef, ht]
    first | (intro acts; rw [hr _ acts rfl rfl rfl]) | rw [hr _ _ rfl rfl rfl]
    exact Steps.refl _) hq h1 h2
/-! fields, objects -/
theorem goGet (X : Stn p l e R s m args below meth c n0 T h ck sk) (hx : p.tables.exec = Jvm.exec) (hZ : Z.Warmed39 s.vm) {own R0 O n d host : String} {index : Nat} (hown : s.vm.findClass own = some m.cls) (w : (Cond.fieldLink own index R0 n d).before a0 Z = true ∨ (Cond.fieldLinkNest own index R0 n d host).before a0 Z = true) (via : Via Z R0 O n d)
    {a : Addr} {v : Value} (F : Fld Z h a O n d v) {pc : Nat} {ls : Array Slot} {rest : List Value} (hd : decode c.code pc = .ok (.getfield index, 3))
    (k : ∀ T', Stn p l e R s m args below meth c n0 T' h ck sk → Go p e below Post T' (mkF m (pc + 3) ls (v :: rest))) : Go p e below Post T (mkF m pc ls (.ref a :: rest)) := by
  obtain ⟨eT, locs, N, Y⟩ := X
  obtain ⟨T', X', e', st⟩ := getF Y hx hZ hown w via eT F (g := mkF m pc ls (.ref a :: rest)) rfl rfl hd
  exact Go.st st (k T' ⟨e', locs, N, X'⟩)
theorem goPut (X : Stn p l e R s m args below meth c n0 T h ck sk) (hx : p.tables.exec = Jvm.exec) (hZ : Z.Warmed39 s.vm) {own R0 O n d host C : String} {index kk : Nat} {ty : FieldType} (hown : s.vm.findClass own = some m.cls) (w : (Cond.fieldLink own index R0 n d).before a0 Z = true ∨ (Cond.fieldLinkNest own index R0 n d host).before a0 Z = true) (via : Via Z R0 O n d)
    {a : Addr} {v old : Value} (F : Fld Z h a O n d old) (E : Exa Z h a C) (L : (Cond.lays C O n d).before a0 Z = true ∨ ((Cond.laysFinal C O n d).before a0 Z = true ∧ own = O ∧ meth.name = "<init>")) (wi : (Cond.instantiable C kk).before a0 Z = true)
    (hty : parseFieldDescriptor d = some ty) (hn : narrow ty v = v) (hf : fits ty v = true) (ha : n0 ≤ a) {pc : Nat} {ls : Array Slot} {rest : List Value} (hd : decode c.code pc = .ok (.putfield index, 3))
    (k : ∀ T' h', Stn p l e R s m args below meth c n0 T' h' ck sk → Wr h h' a (Jvm.RoadKit.slotOf Z O n d) v → Go p e below Post T' (mkF m (pc + 3) ls rest)) : Go p e below Post T (mkF m pc ls (v :: .ref a :: rest)) := by
  obtain ⟨eT, locs, N, Y⟩ := X
  obtain ⟨T', h', X', e', W, st⟩ := putF Y hx hZ hown w via eT F E L wi hty hn hf (g := mkF m pc ls (v :: .ref a :: rest)) rfl rfl hd
  exact Go.st st (k T' h' ⟨e', _, Fr.snoc X' N ha, X'⟩ W)
theorem goPutN (X : Stn p l e R s m args below meth c n0 T h ck sk) (hx : p.tables.exec = Jvm.exec) (hZ : Z.Warmed39 s.vm) {own R0 O n d C : String} {index kk : Nat} {ty : FieldType} (hown : s.vm.findClass own = some m.cls) (w : (Cond.fieldLink own index R0 n d).before a0 Z = true) (via : Via Z R0 O n d)
    {a : Addr} {v v' old : Value} (F : Fld Z h a O n d old) (E : Exa Z h a C) (L : (Cond.lays C O n d).before a0 Z = true ∨ ((Cond.laysFinal C O n d).before a0 Z = true ∧ own = O ∧ meth.name = "<init>")) (wi : (Cond.instantiable C kk).before a0 Z = true)
    (hty : parseFieldDescriptor d = some ty) (hn : narrow ty v = v') (hf : fits ty v' = true) (ha : n0 ≤ a) {pc : Nat} {ls : Array Slot} {rest : List Value} (hd : decode c.code pc = .ok (.putfield index, 3))
    (k : ∀ T' h', Stn p l e R s m args below meth c n0 T' h' ck sk → Wr h h' a (Jvm.RoadKit.slotOf Z O n d) v' → Go p e below Post T' (mkF m (pc + 3) ls rest)) : Go p e below Post T (mkF m pc ls (v :: .ref a :: rest)) := by
  obtain ⟨eT, locs, N, Y⟩ := X
  obtain ⟨T', h', X', e', W, st⟩ := putFN Y hx hZ hown w via eT F E L wi hty hn hf (g := mkF m pc ls (v :: .ref a :: rest)) rfl rfl hd
  exact Go.st st (k T' h' ⟨e', _, Fr.snoc X' N ha, X'⟩ W)
theorem goNew (X : Stn p l e R s m args below meth c n0 T h ck sk) (hx : p.tables.exec = Jvm.exec) (hZ : Z.Warmed39 s.vm) {own C : String} {index n : Nat} (hown : s.vm.findClass own = some m.cls) (w : (Cond.classLink own index C).before a0 Z = true) (wi : (Cond.instantiable C n).before a0 Z = true) (wz : (Cond.initialized C).before a0 Z = true)
    {pc : Nat} {ls : Array Slot} {st : List Value} (hd : decode c.code pc = .ok (.new index, 3)) (hc : ck + 1 ≤ R.cells) (hl : sk + n ≤ R.slots)
    (k : ∀ T' h' a, a = h.size → Stn p l e R s m args below meth c n0 T' h' (ck + 1) (sk + n) → Ext h h' → Exa Z h' a C → (∀ {O nm d : String} {ty : FieldType}, Laid Z a0 C O nm d → parseFieldDescriptor d = some ty → Fld Z h' a O nm d (defaultValue ty)) → Go p e below Post T' (mkF m (pc + 3) ls (.ref a :: st))) : Go p e below Post T (mkF m pc ls st) := by
  obtain ⟨eT, locs, N, Y⟩ := X
  obtain ⟨T', h', X', e', E, A, D, -, stp⟩ := newO Y hx hZ hown w wi wz eT (g := mkF m pc ls st) rfl hd hc hl
  exact Go.st stp (k T' h' _ rfl ⟨e', locs, N, X'⟩ E A D)
theorem Stn.ldcI (X : Stn p l e R s m args below meth c n0 T h ck sk) (hx : p.tables.exec = Jvm.exec) (hZ : Z.Warmed39 s.vm) {own : String} {index : Nat} {v : Int32} (hown : s.vm.findClass own = some m.cls) (w : (Cond.constant own index v).before a0 Z = true)
    {pc : Nat} {ls : Array Slot} {st : List Value} (hd : decode c.code pc = .ok (.ldc index, 2)) {t : State} (k : Steps p.tables e below (T.setTop (mkF m (pc + 2) ls (.int v :: st))) t) : Steps p.tables e below (T.setTop (mkF m pc ls st)) t := by
  obtain ⟨eT, locs, N, Y⟩ := X
  exact Y.ldcInt hx hown (mvT hZ w) (g := mkF m pc ls st) rfl hd t k
theorem Stn.ldcJ (X : Stn p l e R s m args below meth c n0 T h ck sk) (hx : p.tables.exec = Jvm.exec) (hZ : Z.Warmed39 s.vm) {own : String} {index : Nat} {v : Int64} (hown : s.vm.findClass own = some m.cls) (w : (Cond.constantLong own index v).before a0 Z = true)
    {pc : Nat} {ls : Array Slot} {st : List Value} (hd : decode c.code pc = .ok (.ldc2_w index, 3)) {t : State} (k : Steps p.tables e below (T.setTop (mkF m (pc + 3) ls (.long v :: st))) t) : Steps p.tables e below (T.setTop (mkF m pc ls st)) t := by
  obtain ⟨eT, locs, N, Y⟩ := X
  exact Y.ldc2Long hx hown (mvT hZ w) (g := mkF m pc ls st) rfl hd t k
/-! arrays: of kind ty, length n, whose places hold f -/
def Ary (Z : State) (h : Heap) (a : Addr) (ty : FieldType) (n : Nat) (f : Nat → Value) : Prop := ∃ cl : Cell, Arr Z h a cl ty ∧ cl.slots.size = n ∧ ∀ i, i < n → cl.slots[i]? = some (f i)
theorem Ary.lt {a : Addr} {ty : FieldType} {n : Nat} {f : Nat → Value} (A : Ary Z h a ty n f) : a < h.size := by obtain ⟨cl, A, -⟩ := A; exact A.lt
theorem Ary.ext {a : Addr} {ty : FieldType} {n : Nat} {f : Nat → Value} (E : Ext h h') (A : Ary Z h a ty n f) : Ary Z h' a ty n f := by obtain ⟨cl, A, r⟩ := A; exact ⟨cl, A.ext E, r⟩
theorem Ary.other {a b : Addr} {ty : FieldType} {n sl : Nat} {f : Nat → Value} {v : Value} (W : Wr h h' b sl v) (A : Ary Z h a ty n f) (q : a ≠ b) : Ary Z h' a ty n f := by obtain ⟨cl, A, r⟩ := A; exact ⟨cl, A.other W q, r⟩
theorem Ary.keep {a : Addr} {ty : FieldType} {n : Nat} {f : Nat → Value} {ws : List Addr} (A : Ary Z h a ty n f) (K : Keep h h' ws) (q : a ∉ ws) : Ary Z h' a ty n f := by obtain ⟨cl, A, r⟩ := A; exact ⟨cl, ⟨K.2.1 a cl A.1 q, A.2⟩, r⟩
theorem Ary.congr {a : Addr} {ty : FieldType} {n : Nat} {f f' : Nat → Value} (A : Ary Z h a ty n f) (q : ∀ i, i < n → f i = f' i) : Ary Z h a ty n f' := by obtain ⟨cl, A, r1, r2⟩ := A; exact ⟨cl, A, r1, fun i hi => by rw [← q i hi]; exact r2 i hi⟩
theorem Ary.set {a : Addr} {ty : FieldType} {n j : Nat} {f : Nat → Value} {v : Value} (A : Ary Z h a ty n f) (W : Wr h h' a j v) : Ary Z h' a ty n (fun i => if i = j then v else f i) := by
  obtain ⟨cl, A, r1, r2⟩ := A
  have A' := A.same W
  obtain ⟨c1, q1, -, q2, -⟩ := W
  cases q1.symm.trans A.1
  refine ⟨_, A', by rw [sz_set]; exact r1, fun i hi => ?_⟩
  by_cases hij : i = j
  · subst hij
    simp [Cell.setSlot, q2]
  · have : j ≠ i := fun z => hij z.symm
    simp [Cell.setSlot, hij, Array.getElem?_setIfInBounds_ne this, r2 i hi]
theorem Ary.new {k : ClassId} {a : Addr} {ty : FieldType} {z : Int32} (A : Arr Z h a (newA k ty z) ty) : Ary Z h a ty z.toNatClampNeg (fun _ => defaultValue ty) :=
  ⟨_, A, sz_new _ _ _, fun i hi => by simp [newA, hi]⟩
theorem ne_ary {a b : Addr} {C : String} {kk n : Nat} {ty : FieldType} {f : Nat → Value} (F : Exa Z h a C) (wi : (Cond.instantiable C kk).before a0 Z = true) (G : Ary Z h b ty n f) : a ≠ b := by
  obtain ⟨cl, A, -⟩ := G
  exact ne_arr F wi A
theorem goNewA (X : Stn p l e R s m args below meth c n0 T h ck sk) (hx : p.tables.exec = Jvm.exec) (hZ : Z.Warmed39 s.vm) {aty : ArrayType} (w : (Cond.arrayClass (newarray.typeOf aty)).before a0 Z = true)
    {pc : Nat} {ls : Array Slot} {n : Int32} {rest : List Value} (hd : decode c.code pc = .ok (.newarray aty, 2)) (hn : ¬ n < 0) {cap : Nat} (hcap : n.toNatClampNeg ≤ cap) (hb : cap * 8 ≤ 536870912) (hc : ck + 1 ≤ R.cells) (hl : sk + cap ≤ R.slots) {ad : String} (had : "[" ++ (newarray.typeOf aty).toString = ad)
    (k : ∀ T' h' a, a = h.size → Stn p l e R s m args below meth c n0 T' h' (ck + 1) (sk + cap) → Ext h h' → Exa Z h' a ad → Ary Z h' a (newarray.typeOf aty) n.toNatClampNeg (fun _ => defaultValue (newarray.typeOf aty)) → Go p e below Post T' (mkF m (pc + 2) ls (.ref a :: rest))) : Go p e below Post T (mkF m pc ls (.int n :: rest)) := by
  obtain ⟨eT, locs, N, Y⟩ := X
  obtain ⟨T', h', cA, X', e', E, A, Ex, st⟩ := newPE Y hx hZ w eT (g := mkF m pc ls (.int n :: rest)) rfl hd rfl hn hcap hb hc hl had
  exact Go.st st (k T' h' _ rfl ⟨e', locs, N, X'⟩ E Ex (Ary.new A))
theorem goClone (X : Stn p l e R s m args below meth c n0 T h ck sk) (hx : p.tables.exec = Jvm.exec) (hZ : Z.Warmed39 s.vm) {own ad : String} {index : Nat} (hown : s.vm.findClass own = some m.cls)
    (w1 : (Cond.methodLink own index ⟨ad, "clone", "()Ljava/lang/Object;"⟩).before a0 Z = true) (w2 : (Cond.sameMethod ad "java/lang/Object" "clone" "()Ljava/lang/Object;").before a0 Z = true) (w3 : (Cond.native ⟨"java/lang/Object", "clone", "()Ljava/lang/Object;"⟩).before a0 Z = true)
    (w4 : (Cond.instanceMethod ⟨"java/lang/Object", "clone", "()Ljava/lang/Object;"⟩).before a0 Z = true) (w5 : (Cond.selects ad ⟨ad, "clone", "()Ljava/lang/Object;"⟩ ⟨"java/lang/Object", "clone", "()Ljava/lang/Object;"⟩).before a0 Z = true) (w6 : (Cond.castable ad "java/lang/Cloneable").before a0 Z = true)
    {a : Addr} {ty : FieldType} {n : Nat} {f : Nat → Value} (A : Ary Z h a ty n f) (E : Exa Z h a ad) (hfit : ∀ i, i < n → fits ty (f i) = true) {pc : Nat} {ls : Array Slot} {rest : List Value} (hsize : ls.size = c.maxLocals) (hd : decode c.code pc = .ok (.invokevirtual index, 3))
    (hf : 1 ≤ R.frames) {W cap : Nat} (hW : (rest.map fun v => v.category).sum = W) (hl : W + 14 ≤ R.locals) (hcap : n ≤ cap) (hc : ck + 1 ≤ R.cells) (hsl : sk + cap ≤ R.slots)
    (k : ∀ T' h' b, b = h.size → Stn p l e R s m args below meth c n0 T' h' (ck + 1) (sk + cap) → Ext h h' → Exa Z h' b ad → Ary Z h' b ty n f → Go p e below Post T' (mkF m (pc + 3) ls (.ref b :: rest))) : Go p e below Post T (mkF m pc ls (.ref a :: rest)) := by
  obtain ⟨eT, locs, N, Y⟩ := X
  obtain ⟨cl, A, r1, r2⟩ := A
  have FC : FitC Z cl := fitC_of A fun i hi v hv => by
    rw [r2 i (r1 ▸ hi)] at hv
    cases hv
    exact hfit i (r1 ▸ hi)
  obtain ⟨T', h', X', e', Ex, A', E', st⟩ := cloneA Y hx hZ hown w1 w2 w3 w4 w5 w6 eT A E FC (g := mkF m pc ls (.ref a :: rest)) rfl hsize rfl hd hf (W := W) (cap := cap) (by show 2 * 0 + _ ≤ _; omega) hl (by rw [r1]; exact hcap) hc hsl
  exact Go.st st (k T' h' _ rfl ⟨e', locs, N, X'⟩ Ex E' ⟨_, A', r1, r2⟩)
theorem goCast (X : Stn p l e R s m args below meth c n0 T h ck sk) (hx : p.tables.exec = Jvm.exec) (hZ : Z.Warmed39 s.vm) {own K : String} {index : Nat} (hown : s.vm.findClass own = some m.cls) (w : (Cond.classLink own index K).before a0 Z = true) {a : Addr} (F : Ins Z h a K true)
    {pc : Nat} {ls : Array Slot} {rest : List Value} (hd : decode c.code pc = .ok (.checkcast index, 3)) (k : ∀ T', Stn p l e R s m args below meth c n0 T' h ck sk → Go p e below Post T' (mkF m (pc + 3) ls (.ref a :: rest))) : Go p e below Post T (mkF m pc ls (.ref a :: rest)) := by
  obtain ⟨eT, locs, N, Y⟩ := X
  obtain ⟨T', X', e', st⟩ := castY Y hx hZ hown w eT F (g := mkF m pc ls (.ref a :: rest)) rfl rfl hd
  exact Go.st st (k T' ⟨e', locs, N, X'⟩)
theorem goLen (X : Stn p l e R s m args below meth c n0 T h ck sk) (hx : p.tables.exec = Jvm.exec) (hZ : Z.Warmed39 s.vm) {a : Addr} {ty : FieldType} {n : Nat} {f : Nat → Value} (A : Ary Z h a ty n f) {pc : Nat} {ls : Array Slot} {rest : List Value} (hd : decode c.code pc = .ok (.arraylength, 1))
    (k : Go p e below Post T (mkF m (pc + 1) ls (.int n.toInt32 :: rest))) : Go p e below Post T (mkF m pc ls (.ref a :: rest)) := by
  obtain ⟨eT, locs, N, Y⟩ := X
  obtain ⟨cl, A, r1, -⟩ := A
  subst r1
  exact Go.st (fun t q => Y.arraylength hx (by rw [eT]; exact A.1) (State.isArrayOf_alike hZ.alike A.2.1) (g := mkF m pc ls (.ref a :: rest)) rfl rfl hd t q) k
theorem goLdI (X : Stn p l e R s m args below meth c n0 T h ck sk) (hx : p.tables.exec = Jvm.exec) (hZ : Z.Warmed39 s.vm) {a : Addr} {n : Nat} {f : Nat → Int32} (A : Ary Z h a .int n (fun i => .int (f i))) {j : Int32} (hj : ¬ (j < 0 ∨ n ≤ j.toNatClampNeg)) {pc : Nat} {ls : Array Slot} {rest : List Value} (hd : decode c.code pc = .ok (.iaload, 1))
    (k : Go p e below Post T (mkF m (pc + 1) ls (.int (f j.toNatClampNeg) :: rest))) : Go p e below Post T (mkF m pc ls (.int j :: .ref a :: rest)) := by
  obtain ⟨eT, locs, N, Y⟩ := X
  obtain ⟨cl, A, r1, r2⟩ := A
  subst r1
  exact Go.st (fun t q => Y.iaload hx (j := j) (v := .int (f j.toNatClampNeg)) (by rw [eT]; exact A.1) (State.isArrayOf_alike hZ.alike A.2.1) A.2.2 hj (r2 _ (by omega)) (g := mkF m pc ls (.int j :: .ref a :: rest)) rfl rfl hd t q) k
theorem goLdJ (X : Stn p l e R s m args below meth c n0 T h ck sk) (hx : p.tables.exec = Jvm.exec) (hZ : Z.Warmed39 s.vm) {a : Addr} {n : Nat} {f : Nat → Int64} (A : Ary Z h a .long n (fun i => .long (f i))) {j : Int32} (hj : ¬ (j < 0 ∨ n ≤ j.toNatClampNeg)) {pc : Nat} {ls : Array Slot} {rest : List Value} (hd : decode c.code pc = .ok (.laload, 1))
    (k : Go p e below Post T (mkF m (pc + 1) ls (.long (f j.toNatClampNeg) :: rest))) : Go p e below Post T (mkF m pc ls (.int j :: .ref a :: rest)) := by
  obtain ⟨eT, locs, N, Y⟩ := X
  obtain ⟨cl, A, r1, r2⟩ := A
  subst r1
  exact Go.st (fun t q => Y.laload hx (j := j) (v := .long (f j.toNatClampNeg)) (by rw [eT]; exact A.1) (State.isArrayOf_alike hZ.alike A.2.1) A.2.2 hj (r2 _ (by omega)) (g := mkF m pc ls (.int j :: .ref a :: rest)) rfl rfl hd t q) k
theorem goStI (X : Stn p l e R s m args below meth c n0 T h ck sk) (hx : p.tables.exec = Jvm.exec) (hZ : Z.Warmed39 s.vm) {a : Addr} {n : Nat} {f : Nat → Int32} (A : Ary Z h a .int n (fun i => .int (f i))) {j x : Int32} (hj : ¬ (j < 0 ∨ n ≤ j.toNatClampNeg)) (ha : n0 ≤ a) {pc : Nat} {ls : Array Slot} {rest : List Value} (hd : decode c.code pc = .ok (.iastore, 1))
    (k : ∀ T' h', Stn p l e R s m args below meth c n0 T' h' ck sk → Wr h h' a j.toNatClampNeg (.int x) → Ary Z h' a .int n (fun i => .int (if i = j.toNatClampNeg then x else f i)) → Go p e below Post T' (mkF m (pc + 1) ls rest)) : Go p e below Post T (mkF m pc ls (.int x :: .int j :: .ref a :: rest)) := by
  obtain ⟨eT, locs, N, Y⟩ := X
  have A0 := A
  obtain ⟨cl, A, r1, r2⟩ := A
  subst r1
  obtain ⟨T', h', X', e', W, st⟩ := stI Y hx hZ eT A hj (g := mkF m pc ls (.int x :: .int j :: .ref a :: rest)) rfl rfl hd
  exact Go.st st (k T' h' ⟨e', _, Fr.snoc X' N ha, X'⟩ W ((A0.set W).congr fun i _ => by split <;> rfl))
theorem goStJ (X : Stn p l e R s m args below meth c n0 T h ck sk) (hx : p.tables.exec = Jvm.exec) (hZ : Z.Warmed39 s.vm) {a : Addr} {n : Nat} {f : Nat → Int64} (A : Ary Z h a .long n (fun i => .long (f i))) {j : Int32} {x : Int64} (hj : ¬ (j < 0 ∨ n ≤ j.toNatClampNeg)) (ha : n0 ≤ a) {pc : Nat} {ls : Array Slot} {rest : List Value} (hd : decode c.code pc = .ok (.lastore, 1))
    (k : ∀ T' h', Stn p l e R s m args below meth c n0 T' h' ck sk → Wr h h' a j.toNatClampNeg (.long x) → Ary Z h' a .long n (fun i => .long (if i = j.toNatClampNeg then x else f i)) → Go p e below Post T' (mkF m (pc + 1) ls rest)) : Go p e below Post T (mkF m pc ls (.long x :: .int j :: .ref a :: rest)) := by
  obtain ⟨eT, locs, N, Y⟩ := X
  have A0 := A
  obtain ⟨cl, A, r1, r2⟩ := A
  subst r1
  obtain ⟨T', h', X', e', W, st⟩ := stJ Y hx hZ eT A hj (g := mkF m pc ls (.long x :: .int j :: .ref a :: rest)) rfl rfl hd
  exact Go.st st (k T' h' ⟨e', _, Fr.snoc X' N ha, X'⟩ W ((A0.set W).congr fun i _ => by split <;> rfl))
/-! calls -/
theorem goStatic (X : Stn p l e R s m args below meth c n0 T h ck sk) (hx : p.tables.exec = Jvm.exec) (hZ : Z.Warmed39 s.vm) {own : String} {index : Nat} {y : MethodName} {bytes : ByteArray} {maxL : Nat} {ret : Option FieldType} {rm : Room} {as' : Array Value} {Q : Option Value → Heap → Prop}
    (hown : s.vm.findClass own = some m.cls) (w1 : (Cond.methodLink own index y).before a0 Z = true) (w2 : (Cond.static y).before a0 Z = true) (w3 : (Cond.initialized y.cls).before a0 Z = true) (w4 : (Cond.code y bytes maxL ret).before a0 Z = true)
    (hy : y.cls ≠ "java/lang/invoke/MethodHandle" ∧ y.cls ≠ "java/lang/invoke/VarHandle") (hM : Con l y bytes maxL ret rm [] Z n0 as' h Q) (W : Nat) (hf : rm.frames + 1 ≤ R.frames) (hl : W + (maxL + 11) + rm.locals ≤ R.locals)
    {pc : Nat} {ls : Array Slot} {stk : List Value} (hsize : ls.size = c.maxLocals) (argsL rest : List Value) (hlen : ∀ sig, parseMethodDescriptor y.desc = some sig → argsL.length = sig.parameters.length) (has : argsL.toArray = as') (hstk : stk = argsL.reverse ++ rest) (hW : (rest.map fun v => v.category).sum = W)
    (hd : decode c.code pc = .ok (.invokestatic index, 3)) (hc : ck + rm.cells ≤ R.cells) (hs : sk + rm.slots ≤ R.slots)
    (k : ∀ v T' h', Stn p l e R s m args below meth c n0 T' h' (ck + rm.cells) (sk + rm.slots) → Q v h' → Go p e below Post T' (mkF m (pc + 3) ls (v.toList ++ rest))) : Go p e below Post T (mkF m pc ls stk) := by
  obtain ⟨eT, locs, N, Y⟩ := X
  obtain ⟨v, _, ⟨T', L', k', n'⟩, -, X', ⟨Lc, ⟨hN, hQ⟩, l', y', z'⟩, st⟩ := Jvm.LawKit.callS Y hx (y := y) hown (mvT hZ w1) (mvT hZ w2) (mvT hZ w3) (mvT hZ w4) hy (backOf (W := W) (Q := fun v h' L => Fr n0 L ∧ Q v h') hM hZ w4 w3 hf hl) (g := mkF m pc ls stk) rfl hsize (argsL := argsL) (rest := rest) hlen hstk (by show 2 * 0 + _ ≤ _; omega) hd (fun _ _ => ⟨has, eT, hc, hs⟩)
  dsimp only [Pt.U, Pt.locs, Pt.cells, Pt.slots] at X' l' y' z' st hQ
  subst l' y' z'
  exact Go.st st (k v T' T'.heap ⟨rfl, _, Fr.app N hN, X'⟩ hQ)
theorem goCtor (X : Stn p l e R s m args below meth c n0 T h ck sk) (hx : p.tables.exec = Jvm.exec) (hZ : Z.Warmed39 s.vm) {own : String} {index : Nat} {y : MethodName} {bytes : ByteArray} {maxL : Nat} {rm : Room} {as' : Array Value} {Q : Option Value → Heap → Prop} (hy1 : y.name = "<init>")
    (hown : s.vm.findClass own = some m.cls) (w1 : (Cond.methodLink own index y).before a0 Z = true) (w2 : (Cond.instanceMethod y).before a0 Z = true) (w3 : (Cond.initialized y.cls).before a0 Z = true) (w4 : (Cond.code y bytes maxL none).before a0 Z = true)
    (hy : y.cls ≠ "java/lang/invoke/MethodHandle" ∧ y.cls ≠ "java/lang/invoke/VarHandle") (hM : Con l y bytes maxL none rm [] Z n0 as' h Q) (W : Nat) (hf : rm.frames + 1 ≤ R.frames) (hl : W + (maxL + 11) + rm.locals ≤ R.locals)
    {pc : Nat} {ls : Array Slot} {stk : List Value} (hsize : ls.size = c.maxLocals) (a : Addr) (argsL rest : List Value) (hlen : ∀ sig, parseMethodDescriptor y.desc = some sig → argsL.length = sig.parameters.length) (has : (.ref a :: argsL).toArray = as') (hstk : stk = argsL.reverse ++ .ref a :: rest) (hW : (rest.map fun v => v.category).sum = W)
    (hd : decode c.code pc = .ok (.invokespecial index, 3)) (hc : ck + rm.cells ≤ R.cells) (hs : sk + rm.slots ≤ R.slots)
    (k : ∀ v T' h', Stn p l e R s m args below meth c n0 T' h' (ck + rm.cells) (sk + rm.slots) → Q v h' → Go p e below Post T' (mkF m (pc + 3) ls (v.toList ++ rest))) : Go p e below Post T (mkF m pc ls stk) := by
  obtain ⟨eT, locs, N, Y⟩ := X
  obtain ⟨v, _, ⟨T', L', k', n'⟩, -, X', ⟨Lc, ⟨hN, hQ⟩, l', y', z'⟩, st⟩ := Y.specialBack hx (y := y) hy1 hown (mvT hZ w1) (mvT hZ w2) (mvT hZ w4) hy (backOf (W := W) (Q := fun v h' L => Fr n0 L ∧ Q v h') hM hZ w4 w3 hf hl) (g := mkF m pc ls stk) rfl hsize (Steps.refl _) (a := a) (argsL := argsL) (rest := rest) hlen hstk (by show 2 * 0 + _ ≤ _; omega) hd (fun _ _ => ⟨has, eT, hc, hs⟩)
  dsimp only [Pt.U, Pt.locs, Pt.cells, Pt.slots] at X' l' y' z' st hQ
  subst l' y' z'
  exact Go.st (fun t q => st.trans q) (k v T' T'.heap ⟨rfl, _, Fr.app N hN, X'⟩ hQ)
theorem goVirt (X : Stn p l e R s m args below meth c n0 T h ck sk) (hx : p.tables.exec = Jvm.exec) (hZ : Z.Warmed39 s.vm) {own C : String} {index : Nat} {y z : MethodName} {bytes : ByteArray} {maxL : Nat} {ret : Option FieldType} {rm : Room} {as' : Array Value} {Q : Option Value → Heap → Prop}
    (hown : s.vm.findClass own = some m.cls) (w1 : (Cond.methodLink own index y).before a0 Z = true) (w2 : (Cond.declares y).before a0 Z = true) (nf : NotFace s y) (w5 : (Cond.selects C y z).before a0 Z = true) (w6 : (Cond.instanceMethod z).before a0 Z = true) (w3 : (Cond.initialized z.cls).before a0 Z = true) (w4 : (Cond.code z bytes maxL ret).before a0 Z = true)
    (hy : y.cls ≠ "java/lang/invoke/MethodHandle" ∧ y.cls ≠ "java/lang/invoke/VarHandle") {a : Addr} (E : Exa Z h a C) (hM : Con l z bytes maxL ret rm [] Z n0 as' h Q) (W : Nat) (hf : rm.frames + 1 ≤ R.frames) (hl : W + (maxL + 11) + rm.locals ≤ R.locals)
    {pc : Nat} {ls : Array Slot} {stk : List Value} (hsize : ls.size = c.maxLocals) (argsL rest : List Value) (hlen : ∀ sig, parseMethodDescriptor y.desc = some sig → argsL.length = sig.parameters.length) (has : (.ref a :: argsL).toArray = as') (hstk : stk = argsL.reverse ++ .ref a :: rest) (hW : (rest.map fun v => v.category).sum = W)
    (hd : decode c.code pc = .ok (.invokevirtual index, 3)) (hc : ck + rm.cells ≤ R.cells) (hs : sk + rm.slots ≤ R.slots)
    (k : ∀ v T' h', Stn p l e R s m args below meth c n0 T' h' (ck + rm.cells) (sk + rm.slots) → Q v h' → Go p e below Post T' (mkF m (pc + 3) ls (v.toList ++ rest))) : Go p e below Post T (mkF m pc ls stk) := by
  obtain ⟨eT, locs, N, Y⟩ := X
  obtain ⟨cq, kq, q1, q2, q3⟩ := isOf hZ eT E
  obtain ⟨v, _, ⟨T', L', k', n'⟩, -, X', ⟨Lc, ⟨hN, hQ⟩, l', y', z'⟩, st⟩ := Y.virtualBack hx (y := y) (z := z) hown (mvT hZ w1) (mvT hZ w2) nf (mvT hZ w5) (mvT hZ w6) hy (backOf (W := W) (Q := fun v h' L => Fr n0 L ∧ Q v h') hM hZ w4 w3 hf hl) q1 q3 (g := mkF m pc ls stk) rfl hsize (Steps.refl _) (argsL := argsL) (rest := rest) hlen hstk (by show 2 * 0 + _ ≤ _; omega) hd (fun _ _ => ⟨has, eT, hc, hs⟩)
  dsimp only [Pt.U, Pt.locs, Pt.cells, Pt.slots] at X' l' y' z' st hQ
  subst l' y' z'
  exact Go.st (fun t q => st.trans q) (k v T' T'.heap ⟨rfl, _, Fr.app N hN, X'⟩ hQ)
theorem goVirtS (X : Stn p l e R s m args below meth c n0 T h ck sk) (hx : p.tables.exec = Jvm.exec) (hZ : Z.Warmed39 s.vm) {own : String} {index : Nat} {y : MethodName} {bytes : ByteArray} {maxL : Nat} {ret : Option FieldType} {rm : Room} {as' : Array Value} {Q : Option Value → Heap → Prop}
    (hown : s.vm.findClass own = some m.cls) (w1 : (Cond.methodLink own index y).before a0 Z = true) (w2 : (Cond.declares y).before a0 Z = true) (w5 : (Cond.selects y.cls y y).before a0 Z = true) (w6 : (Cond.instanceMethod y).before a0 Z = true) (w3 : (Cond.initialized y.cls).before a0 Z = true) (w4 : (Cond.code y bytes maxL ret).before a0 Z = true)
    (hy : y.cls ≠ "java/lang/invoke/MethodHandle" ∧ y.cls ≠ "java/lang/invoke/VarHandle") {a : Addr} (E : Exa Z h a y.cls) (hM : Con l y bytes maxL ret rm [] Z n0 as' h Q) (W : Nat) (hf : rm.frames + 1 ≤ R.frames) (hl : W + (maxL + 11) + rm.locals ≤ R.locals)
    {pc : Nat} {ls : Array Slot} {stk : List Value} (hsize : ls.size = c.maxLocals) (argsL rest : List Value) (hlen : ∀ sig, parseMethodDescriptor y.desc = some sig → argsL.length = sig.parameters.length) (has : (.ref a :: argsL).toArray = as') (hstk : stk = argsL.reverse ++ .ref a :: rest) (hW : (rest.map fun v => v.category).sum = W)
    (hd : decode c.code pc = .ok (.invokevirtual index, 3)) (hc : ck + rm.cells ≤ R.cells) (hs : sk + rm.slots ≤ R.slots)
    (k : ∀ v T' h', Stn p l e R s m args below meth c n0 T' h' (ck + rm.cells) (sk + rm.slots) → Q v h' → Go p e below Post T' (mkF m (pc + 3) ls (v.toList ++ rest))) : Go p e below Post T (mkF m pc ls stk) :=
  goVirt X hx hZ hown w1 w2 (notFace_of_selects (args := #[]) (mvT hZ w5)) w5 w6 w3 w4 hy E hM W hf hl hsize argsL rest hlen has hstk hW hd hc hs k
theorem goPriv (X : Stn p l e R s m args below meth c n0 T h ck sk) (hx : p.tables.exec = Jvm.exec) (hZ : Z.Warmed39 s.vm) {own C : String} {index : Nat} {y : MethodName} {bytes : ByteArray} {maxL : Nat} {ret : Option FieldType} {rm : Room} {as' : Array Value} {Q : Option Value → Heap → Prop}
    (hown : s.vm.findClass own = some m.cls) (w1 : (Cond.methodLink own index y).before a0 Z = true) (w6 : (Cond.instanceMethod y).before a0 Z = true) {kk : Nat} (wi : (Cond.instantiable y.cls kk).before a0 Z = true) (w7 : (Cond.privateMethod y).before a0 Z = true) (w3 : (Cond.initialized y.cls).before a0 Z = true) (w4 : (Cond.code y bytes maxL ret).before a0 Z = true)
    (hy : y.cls ≠ "java/lang/invoke/MethodHandle" ∧ y.cls ≠ "java/lang/invoke/VarHandle") {a : Addr} (E : Exa Z h a C) (hM : Con l y bytes maxL ret rm [] Z n0 as' h Q) (W : Nat) (hf : rm.frames + 1 ≤ R.frames) (hl : W + (maxL + 11) + rm.locals ≤ R.locals)
    {pc : Nat} {ls : Array Slot} {stk : List Value} (hsize : ls.size = c.maxLocals) (argsL rest : List Value) (hlen : ∀ sig, parseMethodDescriptor y.desc = some sig → argsL.length = sig.parameters.length) (has : (.ref a :: argsL).toArray = as') (hstk : stk = argsL.reverse ++ .ref a :: rest) (hW : (rest.map fun v => v.category).sum = W)
    (hd : decode c.code pc = .ok (.invokevirtual index, 3)) (hc : ck + rm.cells ≤ R.cells) (hs : sk + rm.slots ≤ R.slots)
    (k : ∀ v T' h', Stn p l e R s m args below meth c n0 T' h' (ck + rm.cells) (sk + rm.slots) → Q v h' → Go p e below Post T' (mkF m (pc + 3) ls (v.toList ++ rest))) : Go p e below Post T (mkF m pc ls stk) := by
  obtain ⟨eT, locs, N, Y⟩ := X
  obtain ⟨cq, q1, q2⟩ := E.cell
  have hi : (Cond.instantiable y.cls kk).before args s = true := mvT hZ wi
  obtain ⟨ci, ki, i1, i2, -, i4, -⟩ := Cond.instantiable_spec hi
  have i7 : ki.isInterface = false := by
    cases q : ki.isInterface
    · rfl
    · rw [q] at i4; cases i4
  have hsel : (Cond.selects y.cls y y).before args s = true := selects_self_of_private i1 i2 i7 (Cond.privateMethod_at (mvP hZ w7 (args := #[]))) (mvT hZ w6) hy
  obtain ⟨v, _, ⟨T', L', k', n'⟩, -, X', ⟨Lc, ⟨hN, hQ⟩, l', y', z'⟩, st⟩ := Y.privateBack hx (y := y) hown (mvT hZ w1) (mvT hZ w6) hsel (Cond.privateMethod_at (mvP hZ w7 (args := #[]))) (mvT hZ w4) hy (backOf (W := W) (Q := fun v h' L => Fr n0 L ∧ Q v h') hM hZ w4 w3 hf hl) (g := mkF m pc ls stk) rfl hsize (Steps.refl _) (a := a) (by rw [eT]; exact q1) q2 (argsL := argsL) (rest := rest) hlen hstk (by show 2 * 0 + _ ≤ _; omega) hd (fun _ _ => ⟨has, eT, hc, hs⟩)
  dsimp only [Pt.U, Pt.locs, Pt.cells, Pt.slots] at X' l' y' z' st hQ
  subst l' y' z'
  exact Go.st (fun t q => st.trans q) (k v T' T'.heap ⟨rfl, _, Fr.app N hN, X'⟩ hQ)
theorem own_i32_rem (x y : Int32) : x - (x / y) * y = x % y := by
  apply Int32.toInt_inj.mp
  rw [Int32.toInt_mod, Int32.toInt_sub, Int32.toInt_mul, Int32.toInt_div]
  have hb : x.toInt.tmod y.toInt = (x.toInt.tmod y.toInt).bmod (2 ^ 32) := by
    rw [← Int32.toInt_mod]
    exact (Int32.toInt_bmod _).symm
  rw [hb, Int.tmod_def]
  simp [Int.mul_comm]
theorem own_irem {T target : State} (X : At T m c below) (hx : p.tables.exec = Jvm.exec) {pc : Nat} {ls : Array Slot} {x y : Int32} {rest : List Value} (hd : decode c.code pc = .ok (.irem, 1)) (hy : y ≠ 0)
    (hr : Steps p.tables e below (T.setTop (mkF m (pc + 1) ls (.int (x % y) :: rest))) target) : Steps p.tables e below (T.setTop (mkF m pc ls (.int y :: .int x :: rest))) target :=
  XS.irem X hx (g := mkF m pc ls (.int y :: .int x :: rest)) rfl hd rfl hy (by rw [own_i32_rem]; exact hr)
end OwnLayer

/-- an ASCII letter or digit -/
def own_LD (u : Int32) : Prop := (65 ≤ u.toInt ∧ u.toInt ≤ 90) ∨ (97 ≤ u.toInt ∧ u.toInt ≤ 122) ∨ (48 ≤ u.toInt ∧ u.toInt ≤ 57)
theorem own_lo : ∀ n : Fin 64, (((((287948901175001088 : Int64).toUInt64 >>> ((Int32.ofNat n.val) &&& 0x3f).toInt64.toUInt64).toInt64) &&& (1 : Int64)) = (0 : Int64)) ↔ ¬ (48 ≤ n.val ∧ n.val ≤ 57) := by decide +kernel
theorem own_hi : ∀ n : Fin 64, (((((576460743847706622 : Int64).toUInt64 >>> ((Int32.ofNat n.val) &&& 0x3f).toInt64.toUInt64).toInt64) &&& (1 : Int64)) = (0 : Int64)) ↔ ¬ ((1 ≤ n.val ∧ n.val ≤ 26) ∨ (33 ≤ n.val ∧ n.val ≤ 58)) := by decide +kernel
theorem own_nat {u : Int32} (h0 : 0 ≤ u.toInt) : ∃ n : Nat, u = Int32.ofNat n ∧ u.toInt = n := by
  refine ⟨u.toInt.toNat, ?_, by omega⟩
  apply Int32.toInt_inj.mp
  rw [Int32.toInt_ofNat_of_lt (by have := u.toInt_lt; omega)]
  omega
theorem own_lo' {u : Int32} (h0 : 0 ≤ u.toInt) (h1 : u < 64) : (((((287948901175001088 : Int64).toUInt64 >>> (u &&& 0x3f).toInt64.toUInt64).toInt64) &&& (1 : Int64)) = (0 : Int64)) ↔ ¬ own_LD u := by
  obtain ⟨n, rfl, hn⟩ := own_nat h0
  have h2 : n < 64 := by
    rw [Int32.lt_iff_toInt_lt, hn] at h1
    have h1' : (n : Int) < 64 := h1
    omega
  have q := own_lo ⟨n, h2⟩
  simp only at q
  rw [q]
  simp only [own_LD, hn]
  omega
theorem own_hi' {u : Int32} (h0 : ¬ u < 64) (h1 : u < 128) : (((((576460743847706622 : Int64).toUInt64 >>> ((u - (64 : Int32)) &&& 0x3f).toInt64.toUInt64).toInt64) &&& (1 : Int64)) = (0 : Int64)) ↔ ¬ own_LD u := by
  have h0' : 64 ≤ u.toInt := by rw [Int32.lt_iff_toInt_lt] at h0; simpa using h0
  have h1' : u.toInt < 128 := by rw [Int32.lt_iff_toInt_lt] at h1; simpa using h1
  have e1 : (u - 64).toInt = u.toInt - 64 := by rw [Jvm.Kit.i32_sub (by simp; omega) (by simp; omega)]; rfl
  obtain ⟨n, en, hn⟩ := own_nat (u := u - 64) (by omega)
  have h2 : n < 64 := by omega
  have q := own_hi ⟨n, h2⟩
  simp only at q
  rw [en, q]
  simp only [own_LD]
  omega
theorem own_char (u : Int32) : 0 ≤ (u.toUInt32.toUInt16.toUInt32.toInt32).toInt := by
  have h : (u.toUInt32.toUInt16.toUInt32.toInt32).toInt = (u.toUInt32.toUInt16.toNat : Int) := by
    have hb := u.toUInt32.toUInt16.toNat_lt
    generalize u.toUInt32.toUInt16 = w at *
    rw [← Int32.toInt_toBitVec]
    simp [BitVec.toInt_eq_toNat_cond]
    omega
  omega

theorem d1_0 : decode prog_17_method_7_code 0 = .ok (.iload_n 0, 1) := by decide +kernel
theorem d1_1 : decode prog_17_method_7_code 1 = .ok (.bipush 65, 2) := by decide +kernel
theorem d1_3 : decode prog_17_method_7_code 3 = .ok (.if_icmp .lt 9, 3) := by decide +kernel
theorem d1_6 : decode prog_17_method_7_code 6 = .ok (.iload_n 0, 1) := by decide +kernel
theorem d1_7 : decode prog_17_method_7_code 7 = .ok (.bipush 90, 2) := by decide +kernel
theorem d1_9 : decode prog_17_method_7_code 9 = .ok (.if_icmp .le 27, 3) := by decide +kernel
theorem d1_12 : decode prog_17_method_7_code 12 = .ok (.iload_n 0, 1) := by decide +kernel
theorem d1_13 : decode prog_17_method_7_code 13 = .ok (.bipush 97, 2) := by decide +kernel
theorem d1_15 : decode prog_17_method_7_code 15 = .ok (.if_icmp .lt 9, 3) := by decide +kernel
theorem d1_18 : decode prog_17_method_7_code 18 = .ok (.iload_n 0, 1) := by decide +kernel
theorem d1_19 : decode prog_17_method_7_code 19 = .ok (.bipush 122, 2) := by decide +kernel
theorem d1_21 : decode prog_17_method_7_code 21 = .ok (.if_icmp .le 15, 3) := by decide +kernel
theorem d1_24 : decode prog_17_method_7_code 24 = .ok (.iload_n 0, 1) := by decide +kernel
theorem d1_25 : decode prog_17_method_7_code 25 = .ok (.bipush 48, 2) := by decide +kernel
theorem d1_27 : decode prog_17_method_7_code 27 = .ok (.if_icmp .lt 13, 3) := by decide +kernel
theorem d1_30 : decode prog_17_method_7_code 30 = .ok (.iload_n 0, 1) := by decide +kernel
theorem d1_31 : decode prog_17_method_7_code 31 = .ok (.bipush 57, 2) := by decide +kernel
theorem d1_33 : decode prog_17_method_7_code 33 = .ok (.if_icmp .gt 7, 3) := by decide +kernel
theorem d1_36 : decode prog_17_method_7_code 36 = .ok (.iconst 1, 1) := by decide +kernel
theorem d1_37 : decode prog_17_method_7_code 37 = .ok (.goto 4, 3) := by decide +kernel
theorem d1_40 : decode prog_17_method_7_code 40 = .ok (.iconst 0, 1) := by decide +kernel
theorem d1_41 : decode prog_17_method_7_code 41 = .ok (.ireturn, 1) := by decide +kernel
theorem pn_1 : plainFor (⟨"com/example/security_target_reader/securitytargetreader/IdWord", "isLetterOrDigit", "(C)Z"⟩ : MethodName) = true := plainFor_of_name (by first | (simp [plainName, overriddenIn]; done) | decide +kernel)
theorem ef_rm1 (m : MethodId) (x0 : Int32) : entryFrame m #[(.int x0)] 1 = mkF m 0 #[.val (.int x0)] [] := by first | (simp [entryFrame, mkF, argsToLocals, Value.category]; done) | rfl
def Q1 (Z : State) (n0 : Nat) (h0 : Heap) (u : Int32) (v : Option Value) (h : Heap) : Prop := ∃ (r : Int32), v = some (.int r) ∧ h = h0 ∧ ((r = 1 ∧ own_LD u) ∨ (r = 0 ∧ ¬ own_LD u))
set_option maxRecDepth 65536 in
set_option maxHeartbeats 40000000 in
theorem rm1 (l : Launch) (Z : State) (a0 : Array Value) (hw : ∀ d ∈ tables_1, d.before a0 Z = true) (ws : List Jvm.Cond) (n0 : Nat) (h0 : Heap) (u : Int32) (sz0 : n0 ≤ h0.size) :
    Con l (⟨"com/example/security_target_reader/securitytargetreader/IdWord", "isLetterOrDigit", "(C)Z"⟩ : MethodName) prog_17_method_7_code 1 (some .boolean) ({ frames := 0, cells := 0, slots := 0, locals := 0 } : Room) ws Z n0 #[(.int u)] h0 (Q1 Z n0 h0 u) := by
  refine Con.body pn_1 ?_
  intro p e s m below meth c s₁ hx hby hml hown hnm hret hlk hZ X0
  have hown : s.vm.findClass "com/example/security_target_reader/securitytargetreader/IdWord" = some m.cls := hown
  have hnm : meth.name = "isLetterOrDigit" := hnm
  rw [show entryFrame m #[(.int u)] 1 = mkF m 0 #[.val (.int u)] [] from ef_rm1 m u]
  show Go p e below (PostW s n0 (0 : Nat) (0 : Nat) (Q1 Z n0 h0 u)) s₁ (mkF m 0 #[.val (.int u)] [])
  refine Go.st (T' := s₁) (g' := (mkF m 1 #[.val (.int u)] [(.int u)])) (fun t_ k_ => XS.iloadN X0.here hx rfl (hb hby d1_0) rfl k_) ?_
  refine Go.st (T' := s₁) (g' := (mkF m 3 #[.val (.int u)] [(.int (65 : Int32)), (.int u)])) (fun t_ k_ => XS.bipush X0.here hx rfl (hb hby d1_1) k_) ?_
  by_cases hc3 : u < (65 : Int32)
  · skip
    refine Go.st (T' := s₁) (g' := (mkF m 12 #[.val (.int u)] [])) (fun t_ k_ => XS.icmpYes X0.here hx rfl (pc0 := 3) (pc' := 12) rfl (hb hby d1_3) rfl (tlt hc3).1 (by decide) (by decide) k_) ?_
    refine Go.st (T' := s₁) (g' := (mkF m 13 #[.val (.int u)] [(.int u)])) (fun t_ k_ => XS.iloadN X0.here hx rfl (hb hby d1_12) rfl k_) ?_
    refine Go.st (T' := s₁) (g' := (mkF m 15 #[.val (.int u)] [(.int (97 : Int32)), (.int u)])) (fun t_ k_ => XS.bipush X0.here hx rfl (hb hby d1_13) k_) ?_
    by_cases hc15 : u < (97 : Int32)
    · skip
      refine Go.st (T' := s₁) (g' := (mkF m 24 #[.val (.int u)] [])) (fun t_ k_ => XS.icmpYes X0.here hx rfl (pc0 := 15) (pc' := 24) rfl (hb hby d1_15) rfl (tlt hc15).1 (by decide) (by decide) k_) ?_
      refine Go.st (T' := s₁) (g' := (mkF m 25 #[.val (.int u)] [(.int u)])) (fun t_ k_ => XS.iloadN X0.here hx rfl (hb hby d1_24) rfl k_) ?_
      refine Go.st (T' := s₁) (g' := (mkF m 27 #[.val (.int u)] [(.int (48 : Int32)), (.int u)])) (fun t_ k_ => XS.bipush X0.here hx rfl (hb hby d1_25) k_) ?_
      by_cases hc27 : u < (48 : Int32)
      · skip
        refine Go.st (T' := s₁) (g' := (mkF m 40 #[.val (.int u)] [])) (fun t_ k_ => XS.icmpYes X0.here hx rfl (pc0 := 27) (pc' := 40) rfl (hb hby d1_27) rfl (tlt hc27).1 (by decide) (by decide) k_) ?_
        refine Go.st (T' := s₁) (g' := (mkF m 41 #[.val (.int u)] [(.int (0 : Int32))])) (fun t_ k_ => XS.iconst X0.here hx rfl (hb hby d1_40) k_) ?_
        refine goRetZ X0 hx hlk hret (hb hby d1_41) (by decide) (by decide) (Or.inl rfl) ?_
        refine ⟨(0 : Int32), rfl, rfl, ?_⟩
        · first | exact Or.inl ⟨rfl, by simp only [own_LD, Int32.lt_iff_toInt_lt, Int32.reduceToInt] at *; omega⟩ | exact Or.inr ⟨rfl, by simp only [own_LD, Int32.lt_iff_toInt_lt, Int32.reduceToInt] at *; omega⟩
      · skip
        refine Go.st (T' := s₁) (g' := (mkF m 30 #[.val (.int u)] [])) (fun t_ k_ => XS.icmpNo X0.here hx rfl (hb hby d1_27) rfl (flt hc27).1 k_) ?_
        refine Go.st (T' := s₁) (g' := (mkF m 31 #[.val (.int u)] [(.int u)])) (fun t_ k_ => XS.iloadN X0.here hx rfl (hb hby d1_30) rfl k_) ?_
        refine Go.st (T' := s₁) (g' := (mkF m 33 #[.val (.int u)] [(.int (57 : Int32)), (.int u)])) (fun t_ k_ => XS.bipush X0.here hx rfl (hb hby d1_31) k_) ?_
        by_cases hc33 : (57 : Int32) < u
        · skip
          refine Go.st (T' := s₁) (g' := (mkF m 40 #[.val (.int u)] [])) (fun t_ k_ => XS.icmpYes X0.here hx rfl (pc0 := 33) (pc' := 40) rfl (hb hby d1_33) rfl (tlt hc33).2.2.1 (by decide) (by decide) k_) ?_
          refine Go.st (T' := s₁) (g' := (mkF m 41 #[.val (.int u)] [(.int (0 : Int32))])) (fun t_ k_ => XS.iconst X0.here hx rfl (hb hby d1_40) k_) ?_
          refine goRetZ X0 hx hlk hret (hb hby d1_41) (by decide) (by decide) (Or.inl rfl) ?_
          refine ⟨(0 : Int32), rfl, rfl, ?_⟩
          · first | exact Or.inl ⟨rfl, by simp only [own_LD, Int32.lt_iff_toInt_lt, Int32.reduceToInt] at *; omega⟩ | exact Or.inr ⟨rfl, by simp only [own_LD, Int32.lt_iff_toInt_lt, Int32.reduceToInt] at *; omega⟩
        · skip
          refine Go.st (T' := s₁) (g' := (mkF m 36 #[.val (.int u)] [])) (fun t_ k_ => XS.icmpNo X0.here hx rfl (hb hby d1_33) rfl (flt hc33).2.2.1 k_) ?_
          refine Go.st (T' := s₁) (g' := (mkF m 37 #[.val (.int u)] [(.int (1 : Int32))])) (fun t_ k_ => XS.iconst X0.here hx rfl (hb hby d1_36) k_) ?_
          refine Go.st (T' := s₁) (g' := (mkF m 41 #[.val (.int u)] [(.int (1 : Int32))])) (fun t_ k_ => XS.goto X0.here hx rfl (pc0 := 37) (pc' := 41) rfl (hb hby d1_37) (by decide) (by decide) k_) ?_
          refine goRetZ X0 hx hlk hret (hb hby d1_41) (by decide) (by decide) (Or.inr rfl) ?_
          refine ⟨(1 : Int32), rfl, rfl, ?_⟩
          · first | exact Or.inl ⟨rfl, by simp only [own_LD, Int32.lt_iff_toInt_lt, Int32.reduceToInt] at *; omega⟩ | exact Or.inr ⟨rfl, by simp only [own_LD, Int32.lt_iff_toInt_lt, Int32.reduceToInt] at *; omega⟩
    · skip
      refine Go.st (T' := s₁) (g' := (mkF m 18 #[.val (.int u)] [])) (fun t_ k_ => XS.icmpNo X0.here hx rfl (hb hby d1_15) rfl (flt hc15).1 k_) ?_
      refine Go.st (T' := s₁) (g' := (mkF m 19 #[.val (.int u)] [(.int u)])) (fun t_ k_ => XS.iloadN X0.here hx rfl (hb hby d1_18) rfl k_) ?_
      refine Go.st (T' := s₁) (g' := (mkF m 21 #[.val (.int u)] [(.int (122 : Int32)), (.int u)])) (fun t_ k_ => XS.bipush X0.here hx rfl (hb hby d1_19) k_) ?_
      by_cases hc21 : (122 : Int32) < u
      · skip
        refine Go.st (T' := s₁) (g' := (mkF m 24 #[.val (.int u)] [])) (fun t_ k_ => XS.icmpNo X0.here hx rfl (hb hby d1_21) rfl (tlt hc21).2.2.2 k_) ?_
        refine Go.st (T' := s₁) (g' := (mkF m 25 #[.val (.int u)] [(.int u)])) (fun t_ k_ => XS.iloadN X0.here hx rfl (hb hby d1_24) rfl k_) ?_
        refine Go.st (T' := s₁) (g' := (mkF m 27 #[.val (.int u)] [(.int (48 : Int32)), (.int u)])) (fun t_ k_ => XS.bipush X0.here hx rfl (hb hby d1_25) k_) ?_
        by_cases hc27 : u < (48 : Int32)
        · skip
          refine Go.st (T' := s₁) (g' := (mkF m 40 #[.val (.int u)] [])) (fun t_ k_ => XS.icmpYes X0.here hx rfl (pc0 := 27) (pc' := 40) rfl (hb hby d1_27) rfl (tlt hc27).1 (by decide) (by decide) k_) ?_
          refine Go.st (T' := s₁) (g' := (mkF m 41 #[.val (.int u)] [(.int (0 : Int32))])) (fun t_ k_ => XS.iconst X0.here hx rfl (hb hby d1_40) k_) ?_
          refine goRetZ X0 hx hlk hret (hb hby d1_41) (by decide) (by decide) (Or.inl rfl) ?_
          refine ⟨(0 : Int32), rfl, rfl, ?_⟩
          · first | exact Or.inl ⟨rfl, by simp only [own_LD, Int32.lt_iff_toInt_lt, Int32.reduceToInt] at *; omega⟩ | exact Or.inr ⟨rfl, by simp only [own_LD, Int32.lt_iff_toInt_lt, Int32.reduceToInt] at *; omega⟩
        · skip
          refine Go.st (T' := s₁) (g' := (mkF m 30 #[.val (.int u)] [])) (fun t_ k_ => XS.icmpNo X0.here hx rfl (hb hby d1_27) rfl (flt hc27).1 k_) ?_
          refine Go.st (T' := s₁) (g' := (mkF m 31 #[.val (.int u)] [(.int u)])) (fun t_ k_ => XS.iloadN X0.here hx rfl (hb hby d1_30) rfl k_) ?_
          refine Go.st (T' := s₁) (g' := (mkF m 33 #[.val (.int u)] [(.int (57 : Int32)), (.int u)])) (fun t_ k_ => XS.bipush X0.here hx rfl (hb hby d1_31) k_) ?_
          by_cases hc33 : (57 : Int32) < u
          · skip
            refine Go.st (T' := s₁) (g' := (mkF m 40 #[.val (.int u)] [])) (fun t_ k_ => XS.icmpYes X0.here hx rfl (pc0 := 33) (pc' := 40) rfl (hb hby d1_33) rfl (tlt hc33).2.2.1 (by decide) (by decide) k_) ?_
            refine Go.st (T' := s₁) (g' := (mkF m 41 #[.val (.int u)] [(.int (0 : Int32))])) (fun t_ k_ => XS.iconst X0.here hx rfl (hb hby d1_40) k_) ?_
            refine goRetZ X0 hx hlk hret (hb hby d1_41) (by decide) (by decide) (Or.inl rfl) ?_
            refine ⟨(0 : Int32), rfl, rfl, ?_⟩
            · first | exact Or.inl ⟨rfl, by simp only [own_LD, Int32.lt_iff_toInt_lt, Int32.reduceToInt] at *; omega⟩ | exact Or.inr ⟨rfl, by simp only [own_LD, Int32.lt_iff_toInt_lt, Int32.reduceToInt] at *; omega⟩
          · skip
            refine Go.st (T' := s₁) (g' := (mkF m 36 #[.val (.int u)] [])) (fun t_ k_ => XS.icmpNo X0.here hx rfl (hb hby d1_33) rfl (flt hc33).2.2.1 k_) ?_
            refine Go.st (T' := s₁) (g' := (mkF m 37 #[.val (.int u)] [(.int (1 : Int32))])) (fun t_ k_ => XS.iconst X0.here hx rfl (hb hby d1_36) k_) ?_
            refine Go.st (T' := s₁) (g' := (mkF m 41 #[.val (.int u)] [(.int (1 : Int32))])) (fun t_ k_ => XS.goto X0.here hx rfl (pc0 := 37) (pc' := 41) rfl (hb hby d1_37) (by decide) (by decide) k_) ?_
            refine goRetZ X0 hx hlk hret (hb hby d1_41) (by decide) (by decide) (Or.inr rfl) ?_
            refine ⟨(1 : Int32), rfl, rfl, ?_⟩
            · first | exact Or.inl ⟨rfl, by simp only [own_LD, Int32.lt_iff_toInt_lt, Int32.reduceToInt] at *; omega⟩ | exact Or.inr ⟨rfl, by simp only [own_LD, Int32.lt_iff_toInt_lt, Int32.reduceToInt] at *; omega⟩
      · skip
        refine Go.st (T' := s₁) (g' := (mkF m 36 #[.val (.int u)] [])) (fun t_ k_ => XS.icmpYes X0.here hx rfl (pc0 := 21) (pc' := 36) rfl (hb hby d1_21) rfl (flt hc21).2.2.2 (by decide) (by decide) k_) ?_
        refine Go.st (T' := s₁) (g' := (mkF m 37 #[.val (.int u)] [(.int (1 : Int32))])) (fun t_ k_ => XS.iconst X0.here hx rfl (hb hby d1_36) k_) ?_
        refine Go.st (T' := s₁) (g' := (mkF m 41 #[.val (.int u)] [(.int (1 : Int32))])) (fun t_ k_ => XS.goto X0.here hx rfl (pc0 := 37) (pc' := 41) rfl (hb hby d1_37) (by decide) (by decide) k_) ?_
        refine goRetZ X0 hx hlk hret (hb hby d1_41) (by decide) (by decide) (Or.inr rfl) ?_
        refine ⟨(1 : Int32), rfl, rfl, ?_⟩
        · first | exact Or.inl ⟨rfl, by simp only [own_LD, Int32.lt_iff_toInt_lt, Int32.reduceToInt] at *; omega⟩ | exact Or.inr ⟨rfl, by simp only [own_LD, Int32.lt_iff_toInt_lt, Int32.reduceToInt] at *; omega⟩
  · skip
    refine Go.st (T' := s₁) (g' := (mkF m 6 #[.val (.int u)] [])) (fun t_ k_ => XS.icmpNo X0.here hx rfl (hb hby d1_3) rfl (flt hc3).1 k_) ?_
    refine Go.st (T' := s₁) (g' := (mkF m 7 #[.val (.int u)] [(.int u)])) (fun t_ k_ => XS.iloadN X0.here hx rfl (hb hby d1_6) rfl k_) ?_
    refine Go.st (T' := s₁) (g' := (mkF m 9 #[.val (.int u)] [(.int (90 : Int32)), (.int u)])) (fun t_ k_ => XS.bipush X0.here hx rfl (hb hby d1_7) k_) ?_
    by_cases hc9 : (90 : Int32) < u
    · skip
      refine Go.st (T' := s₁) (g' := (mkF m 12 #[.val (.int u)] [])) (fun t_ k_ => XS.icmpNo X0.here hx rfl (hb hby d1_9) rfl (tlt hc9).2.2.2 k_) ?_
      refine Go.st (T' := s₁) (g' := (mkF m 13 #[.val (.int u)] [(.int u)])) (fun t_ k_ => XS.iloadN X0.here hx rfl (hb hby d1_12) rfl k_) ?_
      refine Go.st (T' := s₁) (g' := (mkF m 15 #[.val (.int u)] [(.int (97 : Int32)), (.int u)])) (fun t_ k_ => XS.bipush X0.here hx rfl (hb hby d1_13) k_) ?_
      by_cases hc15 : u < (97 : Int32)
      · skip
        refine Go.st (T' := s₁) (g' := (mkF m 24 #[.val (.int u)] [])) (fun t_ k_ => XS.icmpYes X0.here hx rfl (pc0 := 15) (pc' := 24) rfl (hb hby d1_15) rfl (tlt hc15).1 (by decide) (by decide) k_) ?_
        refine Go.st (T' := s₁) (g' := (mkF m 25 #[.val (.int u)] [(.int u)])) (fun t_ k_ => XS.iloadN X0.here hx rfl (hb hby d1_24) rfl k_) ?_
        refine Go.st (T' := s₁) (g' := (mkF m 27 #[.val (.int u)] [(.int (48 : Int32)), (.int u)])) (fun t_ k_ => XS.bipush X0.here hx rfl (hb hby d1_25) k_) ?_
        by_cases hc27 : u < (48 : Int32)
        · skip
          refine Go.st (T' := s₁) (g' := (mkF m 40 #[.val (.int u)] [])) (fun t_ k_ => XS.icmpYes X0.here hx rfl (pc0 := 27) (pc' := 40) rfl (hb hby d1_27) rfl (tlt hc27).1 (by decide) (by decide) k_) ?_
          refine Go.st (T' := s₁) (g' := (mkF m 41 #[.val (.int u)] [(.int (0 : Int32))])) (fun t_ k_ => XS.iconst X0.here hx rfl (hb hby d1_40) k_) ?_
          refine goRetZ X0 hx hlk hret (hb hby d1_41) (by decide) (by decide) (Or.inl rfl) ?_
          refine ⟨(0 : Int32), rfl, rfl, ?_⟩
          · first | exact Or.inl ⟨rfl, by simp only [own_LD, Int32.lt_iff_toInt_lt, Int32.reduceToInt] at *; omega⟩ | exact Or.inr ⟨rfl, by simp only [own_LD, Int32.lt_iff_toInt_lt, Int32.reduceToInt] at *; omega⟩
        · skip
          refine Go.st (T' := s₁) (g' := (mkF m 30 #[.val (.int u)] [])) (fun t_ k_ => XS.icmpNo X0.here hx rfl (hb hby d1_27) rfl (flt hc27).1 k_) ?_
          refine Go.st (T' := s₁) (g' := (mkF m 31 #[.val (.int u)] [(.int u)])) (fun t_ k_ => XS.iloadN X0.here hx rfl (hb hby d1_30) rfl k_) ?_
          refine Go.st (T' := s₁) (g' := (mkF m 33 #[.val (.int u)] [(.int (57 : Int32)), (.int u)])) (fun t_ k_ => XS.bipush X0.here hx rfl (hb hby d1_31) k_) ?_
          by_cases hc33 : (57 : Int32) < u
          · skip
            refine Go.st (T' := s₁) (g' := (mkF m 40 #[.val (.int u)] [])) (fun t_ k_ => XS.icmpYes X0.here hx rfl (pc0 := 33) (pc' := 40) rfl (hb hby d1_33) rfl (tlt hc33).2.2.1 (by decide) (by decide) k_) ?_
            refine Go.st (T' := s₁) (g' := (mkF m 41 #[.val (.int u)] [(.int (0 : Int32))])) (fun t_ k_ => XS.iconst X0.here hx rfl (hb hby d1_40) k_) ?_
            refine goRetZ X0 hx hlk hret (hb hby d1_41) (by decide) (by decide) (Or.inl rfl) ?_
            refine ⟨(0 : Int32), rfl, rfl, ?_⟩
            · first | exact Or.inl ⟨rfl, by simp only [own_LD, Int32.lt_iff_toInt_lt, Int32.reduceToInt] at *; omega⟩ | exact Or.inr ⟨rfl, by simp only [own_LD, Int32.lt_iff_toInt_lt, Int32.reduceToInt] at *; omega⟩
          · skip
            refine Go.st (T' := s₁) (g' := (mkF m 36 #[.val (.int u)] [])) (fun t_ k_ => XS.icmpNo X0.here hx rfl (hb hby d1_33) rfl (flt hc33).2.2.1 k_) ?_
            refine Go.st (T' := s₁) (g' := (mkF m 37 #[.val (.int u)] [(.int (1 : Int32))])) (fun t_ k_ => XS.iconst X0.here hx rfl (hb hby d1_36) k_) ?_
            refine Go.st (T' := s₁) (g' := (mkF m 41 #[.val (.int u)] [(.int (1 : Int32))])) (fun t_ k_ => XS.goto X0.here hx rfl (pc0 := 37) (pc' := 41) rfl (hb hby d1_37) (by decide) (by decide) k_) ?_
            refine goRetZ X0 hx hlk hret (hb hby d1_41) (by decide) (by decide) (Or.inr rfl) ?_
            refine ⟨(1 : Int32), rfl, rfl, ?_⟩
            · first | exact Or.inl ⟨rfl, by simp only [own_LD, Int32.lt_iff_toInt_lt, Int32.reduceToInt] at *; omega⟩ | exact Or.inr ⟨rfl, by simp only [own_LD, Int32.lt_iff_toInt_lt, Int32.reduceToInt] at *; omega⟩
      · skip
        refine Go.st (T' := s₁) (g' := (mkF m 18 #[.val (.int u)] [])) (fun t_ k_ => XS.icmpNo X0.here hx rfl (hb hby d1_15) rfl (flt hc15).1 k_) ?_
        refine Go.st (T' := s₁) (g' := (mkF m 19 #[.val (.int u)] [(.int u)])) (fun t_ k_ => XS.iloadN X0.here hx rfl (hb hby d1_18) rfl k_) ?_
        refine Go.st (T' := s₁) (g' := (mkF m 21 #[.val (.int u)] [(.int (122 : Int32)), (.int u)])) (fun t_ k_ => XS.bipush X0.here hx rfl (hb hby d1_19) k_) ?_
        by_cases hc21 : (122 : Int32) < u
        · skip
          refine Go.st (T' := s₁) (g' := (mkF m 24 #[.val (.int u)] [])) (fun t_ k_ => XS.icmpNo X0.here hx rfl (hb hby d1_21) rfl (tlt hc21).2.2.2 k_) ?_
          refine Go.st (T' := s₁) (g' := (mkF m 25 #[.val (.int u)] [(.int u)])) (fun t_ k_ => XS.iloadN X0.here hx rfl (hb hby d1_24) rfl k_) ?_
          refine Go.st (T' := s₁) (g' := (mkF m 27 #[.val (.int u)] [(.int (48 : Int32)), (.int u)])) (fun t_ k_ => XS.bipush X0.here hx rfl (hb hby d1_25) k_) ?_
          by_cases hc27 : u < (48 : Int32)
          · skip
            refine Go.st (T' := s₁) (g' := (mkF m 40 #[.val (.int u)] [])) (fun t_ k_ => XS.icmpYes X0.here hx rfl (pc0 := 27) (pc' := 40) rfl (hb hby d1_27) rfl (tlt hc27).1 (by decide) (by decide) k_) ?_
            refine Go.st (T' := s₁) (g' := (mkF m 41 #[.val (.int u)] [(.int (0 : Int32))])) (fun t_ k_ => XS.iconst X0.here hx rfl (hb hby d1_40) k_) ?_
            refine goRetZ X0 hx hlk hret (hb hby d1_41) (by decide) (by decide) (Or.inl rfl) ?_
            refine ⟨(0 : Int32), rfl, rfl, ?_⟩
            · first | exact Or.inl ⟨rfl, by simp only [own_LD, Int32.lt_iff_toInt_lt, Int32.reduceToInt] at *; omega⟩ | exact Or.inr ⟨rfl, by simp only [own_LD, Int32.lt_iff_toInt_lt, Int32.reduceToInt] at *; omega⟩
          · skip
            refine Go.st (T' := s₁) (g' := (mkF m 30 #[.val (.int u)] [])) (fun t_ k_ => XS.icmpNo X0.here hx rfl (hb hby d1_27) rfl (flt hc27).1 k_) ?_
            refine Go.st (T' := s₁) (g' := (mkF m 31 #[.val (.int u)] [(.int u)])) (fun t_ k_ => XS.iloadN X0.here hx rfl (hb hby d1_30) rfl k_) ?_
            refine Go.st (T' := s₁) (g' := (mkF m 33 #[.val (.int u)] [(.int (57 : Int32)), (.int u)])) (fun t_ k_ => XS.bipush X0.here hx rfl (hb hby d1_31) k_) ?_
            by_cases hc33 : (57 : Int32) < u
            · skip
              refine Go.st (T' := s₁) (g' := (mkF m 40 #[.val (.int u)] [])) (fun t_ k_ => XS.icmpYes X0.here hx rfl (pc0 := 33) (pc' := 40) rfl (hb hby d1_33) rfl (tlt hc33).2.2.1 (by decide) (by decide) k_) ?_
              refine Go.st (T' := s₁) (g' := (mkF m 41 #[.val (.int u)] [(.int (0 : Int32))])) (fun t_ k_ => XS.iconst X0.here hx rfl (hb hby d1_40) k_) ?_
              refine goRetZ X0 hx hlk hret (hb hby d1_41) (by decide) (by decide) (Or.inl rfl) ?_
              refine ⟨(0 : Int32), rfl, rfl, ?_⟩
              · first | exact Or.inl ⟨rfl, by simp only [own_LD, Int32.lt_iff_toInt_lt, Int32.reduceToInt] at *; omega⟩ | exact Or.inr ⟨rfl, by simp only [own_LD, Int32.lt_iff_toInt_lt, Int32.reduceToInt] at *; omega⟩
            · skip
              refine Go.st (T' := s₁) (g' := (mkF m 36 #[.val (.int u)] [])) (fun t_ k_ => XS.icmpNo X0.here hx rfl (hb hby d1_33) rfl (flt hc33).2.2.1 k_) ?_
              refine Go.st (T' := s₁) (g' := (mkF m 37 #[.val (.int u)] [(.int (1 : Int32))])) (fun t_ k_ => XS.iconst X0.here hx rfl (hb hby d1_36) k_) ?_
              refine Go.st (T' := s₁) (g' := (mkF m 41 #[.val (.int u)] [(.int (1 : Int32))])) (fun t_ k_ => XS.goto X0.here hx rfl (pc0 := 37) (pc' := 41) rfl (hb hby d1_37) (by decide) (by decide) k_) ?_
              refine goRetZ X0 hx hlk hret (hb hby d1_41) (by decide) (by decide) (Or.inr rfl) ?_
              refine ⟨(1 : Int32), rfl, rfl, ?_⟩
              · first | exact Or.inl ⟨rfl, by simp only [own_LD, Int32.lt_iff_toInt_lt, Int32.reduceToInt] at *; omega⟩ | exact Or.inr ⟨rfl, by simp only [own_LD, Int32.lt_iff_toInt_lt, Int32.reduceToInt] at *; omega⟩
        · skip
          refine Go.st (T' := s₁) (g' := (mkF m 36 #[.val (.int u)] [])) (fun t_ k_ => XS.icmpYes X0.here hx rfl (pc0 := 21) (pc' := 36) rfl (hb hby d1_21) rfl (flt hc21).2.2.2 (by decide) (by decide) k_) ?_
          refine Go.st (T' := s₁) (g' := (mkF m 37 #[.val (.int u)] [(.int (1 : Int32))])) (fun t_ k_ => XS.iconst X0.here hx rfl (hb hby d1_36) k_) ?_
          refine Go.st (T' := s₁) (g' := (mkF m 41 #[.val (.int u)] [(.int (1 : Int32))])) (fun t_ k_ => XS.goto X0.here hx rfl (pc0 := 37) (pc' := 41) rfl (hb hby d1_37) (by decide) (by decide) k_) ?_
          refine goRetZ X0 hx hlk hret (hb hby d1_41) (by decide) (by decide) (Or.inr rfl) ?_
          refine ⟨(1 : Int32), rfl, rfl, ?_⟩
          · first | exact Or.inl ⟨rfl, by simp only [own_LD, Int32.lt_iff_toInt_lt, Int32.reduceToInt] at *; omega⟩ | exact Or.inr ⟨rfl, by simp only [own_LD, Int32.lt_iff_toInt_lt, Int32.reduceToInt] at *; omega⟩
    · skip
      refine Go.st (T' := s₁) (g' := (mkF m 36 #[.val (.int u)] [])) (fun t_ k_ => XS.icmpYes X0.here hx rfl (pc0 := 9) (pc' := 36) rfl (hb hby d1_9) rfl (flt hc9).2.2.2 (by decide) (by decide) k_) ?_
      refine Go.st (T' := s₁) (g' := (mkF m 37 #[.val (.int u)] [(.int (1 : Int32))])) (fun t_ k_ => XS.iconst X0.here hx rfl (hb hby d1_36) k_) ?_
      refine Go.st (T' := s₁) (g' := (mkF m 41 #[.val (.int u)] [(.int (1 : Int32))])) (fun t_ k_ => XS.goto X0.here hx rfl (pc0 := 37) (pc' := 41) rfl (hb hby d1_37) (by decide) (by decide) k_) ?_
      refine goRetZ X0 hx hlk hret (hb hby d1_41) (by decide) (by decide) (Or.inr rfl) ?_
      refine ⟨(1 : Int32), rfl, rfl, ?_⟩
      · first | exact Or.inl ⟨rfl, by simp only [own_LD, Int32.lt_iff_toInt_lt, Int32.reduceToInt] at *; omega⟩ | exact Or.inr ⟨rfl, by simp only [own_LD, Int32.lt_iff_toInt_lt, Int32.reduceToInt] at *; omega⟩
theorem d2_0 : decode method_2_code 0 = .ok (.iload_n 0, 1) := by decide +kernel
theorem d2_1 : decode method_2_code 1 = .ok (.bipush 64, 2) := by decide +kernel
theorem d2_3 : decode method_2_code 3 = .ok (.if_icmp .ge 21, 3) := by decide +kernel
theorem d2_6 : decode method_2_code 6 = .ok (.ldc2_w 7, 3) := by decide +kernel
theorem d2_9 : decode method_2_code 9 = .ok (.iload_n 0, 1) := by decide +kernel
theorem d2_10 : decode method_2_code 10 = .ok (.lushr, 1) := by decide +kernel
theorem d2_11 : decode method_2_code 11 = .ok (.lconst 1, 1) := by decide +kernel
theorem d2_12 : decode method_2_code 12 = .ok (.land, 1) := by decide +kernel
theorem d2_13 : decode method_2_code 13 = .ok (.lconst 0, 1) := by decide +kernel
theorem d2_14 : decode method_2_code 14 = .ok (.lcmp, 1) := by decide +kernel
theorem d2_15 : decode method_2_code 15 = .ok (.ifCond .eq 7, 3) := by decide +kernel
theorem d2_18 : decode method_2_code 18 = .ok (.iconst 1, 1) := by decide +kernel
theorem d2_19 : decode method_2_code 19 = .ok (.goto 4, 3) := by decide +kernel
theorem d2_22 : decode method_2_code 22 = .ok (.iconst 0, 1) := by decide +kernel
theorem d2_23 : decode method_2_code 23 = .ok (.ireturn, 1) := by decide +kernel
theorem d2_24 : decode method_2_code 24 = .ok (.iload_n 0, 1) := by decide +kernel
theorem d2_25 : decode method_2_code 25 = .ok (.sipush 128, 3) := by decide +kernel
theorem d2_28 : decode method_2_code 28 = .ok (.if_icmp .ge 24, 3) := by decide +kernel
theorem d2_31 : decode method_2_code 31 = .ok (.ldc2_w 9, 3) := by decide +kernel
theorem d2_34 : decode method_2_code 34 = .ok (.iload_n 0, 1) := by decide +kernel
theorem d2_35 : decode method_2_code 35 = .ok (.bipush 64, 2) := by decide +kernel
theorem d2_37 : decode method_2_code 37 = .ok (.isub, 1) := by decide +kernel
theorem d2_38 : decode method_2_code 38 = .ok (.lushr, 1) := by decide +kernel
theorem d2_39 : decode method_2_code 39 = .ok (.lconst 1, 1) := by decide +kernel
theorem d2_40 : decode method_2_code 40 = .ok (.land, 1) := by decide +kernel
theorem d2_41 : decode method_2_code 41 = .ok (.lconst 0, 1) := by decide +kernel
theorem d2_42 : decode method_2_code 42 = .ok (.lcmp, 1) := by decide +kernel
theorem d2_43 : decode method_2_code 43 = .ok (.ifCond .eq 7, 3) := by decide +kernel
theorem d2_46 : decode method_2_code 46 = .ok (.iconst 1, 1) := by decide +kernel
theorem d2_47 : decode method_2_code 47 = .ok (.goto 4, 3) := by decide +kernel
theorem d2_50 : decode method_2_code 50 = .ok (.iconst 0, 1) := by decide +kernel
theorem d2_51 : decode method_2_code 51 = .ok (.ireturn, 1) := by decide +kernel
theorem d2_52 : decode method_2_code 52 = .ok (.iconst 0, 1) := by decide +kernel
theorem d2_53 : decode method_2_code 53 = .ok (.ireturn, 1) := by decide +kernel
theorem pn_2 : plainFor (⟨"com/example/security_target_reader/securitytargetreader/IdWordIsLetterOrDigitPinLaw", "reference", "(C)Z"⟩ : MethodName) = true := plainFor_of_name (by first | (simp [plainName, overriddenIn]; done) | decide +kernel)
theorem ef_rm2 (m : MethodId) (x0 : Int32) : entryFrame m #[(.int x0)] 1 = mkF m 0 #[.val (.int x0)] [] := by first | (simp [entryFrame, mkF, argsToLocals, Value.category]; done) | rfl
def Q2 (Z : State) (n0 : Nat) (h0 : Heap) (u : Int32) (v : Option Value) (h : Heap) : Prop := ∃ (r : Int32), v = some (.int r) ∧ h = h0 ∧ ((r = 1 ∧ own_LD u) ∨ (r = 0 ∧ ¬ own_LD u))
set_option maxRecDepth 65536 in
set_option maxHeartbeats 40000000 in
theorem rm2 (l : Launch) (Z : State) (a0 : Array Value) (hw : ∀ d ∈ tables_1, d.before a0 Z = true) (ws : List Jvm.Cond) (n0 : Nat) (h0 : Heap) (u : Int32) (sz0 : n0 ≤ h0.size) (hu : 0 ≤ u.toInt) :
    Con l (⟨"com/example/security_target_reader/securitytargetreader/IdWordIsLetterOrDigitPinLaw", "reference", "(C)Z"⟩ : MethodName) method_2_code 1 (some .boolean) ({ frames := 0, cells := 0, slots := 0, locals := 0 } : Room) ws Z n0 #[(.int u)] h0 (Q2 Z n0 h0 u) := by
  refine Con.body pn_2 ?_
  intro p e s m below meth c s₁ hx hby hml hown hnm hret hlk hZ X0
  have hown : s.vm.findClass "com/example/security_target_reader/securitytargetreader/IdWordIsLetterOrDigitPinLaw" = some m.cls := hown
  have hnm : meth.name = "reference" := hnm
  rw [show entryFrame m #[(.int u)] 1 = mkF m 0 #[.val (.int u)] [] from ef_rm2 m u]
  show Go p e below (PostW s n0 (0 : Nat) (0 : Nat) (Q2 Z n0 h0 u)) s₁ (mkF m 0 #[.val (.int u)] [])
  refine Go.st (T' := s₁) (g' := (mkF m 1 #[.val (.int u)] [(.int u)])) (fun t_ k_ => XS.iloadN X0.here hx rfl (hb hby d2_0) rfl k_) ?_
  refine Go.st (T' := s₁) (g' := (mkF m 3 #[.val (.int u)] [(.int (64 : Int32)), (.int u)])) (fun t_ k_ => XS.bipush X0.here hx rfl (hb hby d2_1) k_) ?_
  by_cases hc3 : u < (64 : Int32)
  · skip
    refine Go.st (T' := s₁) (g' := (mkF m 6 #[.val (.int u)] [])) (fun t_ k_ => XS.icmpNo X0.here hx rfl (hb hby d2_3) rfl (tlt hc3).2.1 k_) ?_
    refine Go.st (T' := s₁) (g' := (mkF m 9 #[.val (.int u)] [(.long (287948901175001088 : Int64))])) (fun t_ k_ => Stn.ldcJ X0 hx hZ hown (hw _ (List.mem_of_getElem? (i := 8) rfl)) (hb hby d2_6) k_) ?_
    refine Go.st (T' := s₁) (g' := (mkF m 10 #[.val (.int u)] [(.int u), (.long (287948901175001088 : Int64))])) (fun t_ k_ => XS.iloadN X0.here hx rfl (hb hby d2_9) rfl k_) ?_
    refine Go.st (T' := s₁) (g' := (mkF m 11 #[.val (.int u)] [(.long (((287948901175001088 : Int64).toUInt64 >>> (u &&& 0x3f).toInt64.toUInt64).toInt64))])) (fun t_ k_ => XS.lushr X0.here hx rfl (hb hby d2_10) rfl k_) ?_
    refine Go.st (T' := s₁) (g' := (mkF m 12 #[.val (.int u)] [(.long (1 : Int64)), (.long (((287948901175001088 : Int64).toUInt64 >>> (u &&& 0x3f).toInt64.toUInt64).toInt64))])) (fun t_ k_ => XS.lconst X0.here hx rfl (hb hby d2_11) k_) ?_
    refine Go.st (T' := s₁) (g' := (mkF m 13 #[.val (.int u)] [(.long ((((287948901175001088 : Int64).toUInt64 >>> (u &&& 0x3f).toInt64.toUInt64).toInt64) &&& (1 : Int64)))])) (fun t_ k_ => XS.land X0.here hx rfl (hb hby d2_12) rfl k_) ?_
    refine Go.st (T' := s₁) (g' := (mkF m 14 #[.val (.int u)] [(.long (0 : Int64)), (.long ((((287948901175001088 : Int64).toUInt64 >>> (u &&& 0x3f).toInt64.toUInt64).toInt64) &&& (1 : Int64)))])) (fun t_ k_ => XS.lconst X0.here hx rfl (hb hby d2_13) k_) ?_
    refine Go.st (T' := s₁) (g' := (mkF m 15 #[.val (.int u)] [(.int (lcmpW ((((287948901175001088 : Int64).toUInt64 >>> (u &&& 0x3f).toInt64.toUInt64).toInt64) &&& (1 : Int64)) (0 : Int64)))])) (fun t_ k_ => XS.lcmp X0.here hx rfl (hb hby d2_14) rfl k_) ?_
    by_cases hc15 : ((((287948901175001088 : Int64).toUInt64 >>> (u &&& 0x3f).toInt64.toUInt64).toInt64) &&& (1 : Int64)) = (0 : Int64)
    · skip
      refine Go.st (T' := s₁) (g' := (mkF m 22 #[.val (.int u)] [])) (fun t_ k_ => XS.ifYes X0.here hx rfl (pc0 := 15) (pc' := 22) rfl (hb hby d2_15) rfl (lcTeq hc15).1 (by decide) (by decide) k_) ?_
      refine Go.st (T' := s₁) (g' := (mkF m 23 #[.val (.int u)] [(.int (0 : Int32))])) (fun t_ k_ => XS.iconst X0.here hx rfl (hb hby d2_22) k_) ?_
      refine goRetZ X0 hx hlk hret (hb hby d2_23) (by decide) (by decide) (Or.inl rfl) ?_
      refine ⟨(0 : Int32), rfl, rfl, ?_⟩
      · first | exact Or.inr ⟨rfl, (own_lo' hu hc3).mp hc15⟩ | exact Or.inl ⟨rfl, Classical.not_not.mp fun z => hc15 ((own_lo' hu hc3).mpr z)⟩
    · skip
      refine Go.st (T' := s₁) (g' := (mkF m 18 #[.val (.int u)] [])) (fun t_ k_ => XS.ifNo X0.here hx rfl (hb hby d2_15) rfl (lcFeq hc15).1 k_) ?_
      refine Go.st (T' := s₁) (g' := (mkF m 19 #[.val (.int u)] [(.int (1 : Int32))])) (fun t_ k_ => XS.iconst X0.here hx rfl (hb hby d2_18) k_) ?_
      refine Go.st (T' := s₁) (g' := (mkF m 23 #[.val (.int u)] [(.int (1 : Int32))])) (fun t_ k_ => XS.goto X0.here hx rfl (pc0 := 19) (pc' := 23) rfl (hb hby d2_19) (by decide) (by decide) k_) ?_
      refine goRetZ X0 hx hlk hret (hb hby d2_23) (by decide) (by decide) (Or.inr rfl) ?_
      refine ⟨(1 : Int32), rfl, rfl, ?_⟩
      · first | exact Or.inr ⟨rfl, (own_lo' hu hc3).mp hc15⟩ | exact Or.inl ⟨rfl, Classical.not_not.mp fun z => hc15 ((own_lo' hu hc3).mpr z)⟩
  · skip
    refine Go.st (T' := s₁) (g' := (mkF m 24 #[.val (.int u)] [])) (fun t_ k_ => XS.icmpYes X0.here hx rfl (pc0 := 3) (pc' := 24) rfl (hb hby d2_3) rfl (flt hc3).2.1 (by decide) (by decide) k_) ?_
    refine Go.st (T' := s₁) (g' := (mkF m 25 #[.val (.int u)] [(.int u)])) (fun t_ k_ => XS.iloadN X0.here hx rfl (hb hby d2_24) rfl k_) ?_
    refine Go.st (T' := s₁) (g' := (mkF m 28 #[.val (.int u)] [(.int (128 : Int32)), (.int u)])) (fun t_ k_ => XS.sipush X0.here hx rfl (hb hby d2_25) k_) ?_
    by_cases hc28 : u < (128 : Int32)
    · skip
      refine Go.st (T' := s₁) (g' := (mkF m 31 #[.val (.int u)] [])) (fun t_ k_ => XS.icmpNo X0.here hx rfl (hb hby d2_28) rfl (tlt hc28).2.1 k_) ?_
      refine Go.st (T' := s₁) (g' := (mkF m 34 #[.val (.int u)] [(.long (576460743847706622 : Int64))])) (fun t_ k_ => Stn.ldcJ X0 hx hZ hown (hw _ (List.mem_of_getElem? (i := 9) rfl)) (hb hby d2_31) k_) ?_
      refine Go.st (T' := s₁) (g' := (mkF m 35 #[.val (.int u)] [(.int u), (.long (576460743847706622 : Int64))])) (fun t_ k_ => XS.iloadN X0.here hx rfl (hb hby d2_34) rfl k_) ?_
      refine Go.st (T' := s₁) (g' := (mkF m 37 #[.val (.int u)] [(.int (64 : Int32)), (.int u), (.long (576460743847706622 : Int64))])) (fun t_ k_ => XS.bipush X0.here hx rfl (hb hby d2_35) k_) ?_
      refine Go.st (T' := s₁) (g' := (mkF m 38 #[.val (.int u)] [(.int (u - (64 : Int32))), (.long (576460743847706622 : Int64))])) (fun t_ k_ => XS.isub X0.here hx rfl (hb hby d2_37) rfl k_) ?_
      refine Go.st (T' := s₁) (g' := (mkF m 39 #[.val (.int u)] [(.long (((576460743847706622 : Int64).toUInt64 >>> ((u - (64 : Int32)) &&& 0x3f).toInt64.toUInt64).toInt64))])) (fun t_ k_ => XS.lushr X0.here hx rfl (hb hby d2_38) rfl k_) ?_
      refine Go.st (T' := s₁) (g' := (mkF m 40 #[.val (.int u)] [(.long (1 : Int64)), (.long (((576460743847706622 : Int64).toUInt64 >>> ((u - (64 : Int32)) &&& 0x3f).toInt64.toUInt64).toInt64))])) (fun t_ k_ => XS.lconst X0.here hx rfl (hb hby d2_39) k_) ?_
      refine Go.st (T' := s₁) (g' := (mkF m 41 #[.val (.int u)] [(.long ((((576460743847706622 : Int64).toUInt64 >>> ((u - (64 : Int32)) &&& 0x3f).toInt64.toUInt64).toInt64) &&& (1 : Int64)))])) (fun t_ k_ => XS.land X0.here hx rfl (hb hby d2_40) rfl k_) ?_
      refine Go.st (T' := s₁) (g' := (mkF m 42 #[.val (.int u)] [(.long (0 : Int64)), (.long ((((576460743847706622 : Int64).toUInt64 >>> ((u - (64 : Int32)) &&& 0x3f).toInt64.toUInt64).toInt64) &&& (1 : Int64)))])) (fun t_ k_ => XS.lconst X0.here hx rfl (hb hby d2_41) k_) ?_
      refine Go.st (T' := s₁) (g' := (mkF m 43 #[.val (.int u)] [(.int (lcmpW ((((576460743847706622 : Int64).toUInt64 >>> ((u - (64 : Int32)) &&& 0x3f).toInt64.toUInt64).toInt64) &&& (1 : Int64)) (0 : Int64)))])) (fun t_ k_ => XS.lcmp X0.here hx rfl (hb hby d2_42) rfl k_) ?_
      by_cases hc43 : ((((576460743847706622 : Int64).toUInt64 >>> ((u - (64 : Int32)) &&& 0x3f).toInt64.toUInt64).toInt64) &&& (1 : Int64)) = (0 : Int64)
      · skip
        refine Go.st (T' := s₁) (g' := (mkF m 50 #[.val (.int u)] [])) (fun t_ k_ => XS.ifYes X0.here hx rfl (pc0 := 43) (pc' := 50) rfl (hb hby d2_43) rfl (lcTeq hc43).1 (by decide) (by decide) k_) ?_
        refine Go.st (T' := s₁) (g' := (mkF m 51 #[.val (.int u)] [(.int (0 : Int32))])) (fun t_ k_ => XS.iconst X0.here hx rfl (hb hby d2_50) k_) ?_
        refine goRetZ X0 hx hlk hret (hb hby d2_51) (by decide) (by decide) (Or.inl rfl) ?_
        refine ⟨(0 : Int32), rfl, rfl, ?_⟩
        · first | exact Or.inr ⟨rfl, (own_hi' hc3 hc28).mp hc43⟩ | exact Or.inl ⟨rfl, Classical.not_not.mp fun z => hc43 ((own_hi' hc3 hc28).mpr z)⟩
      · skip
        refine Go.st (T' := s₁) (g' := (mkF m 46 #[.val (.int u)] [])) (fun t_ k_ => XS.ifNo X0.here hx rfl (hb hby d2_43) rfl (lcFeq hc43).1 k_) ?_
        refine Go.st (T' := s₁) (g' := (mkF m 47 #[.val (.int u)] [(.int (1 : Int32))])) (fun t_ k_ => XS.iconst X0.here hx rfl (hb hby d2_46) k_) ?_
        refine Go.st (T' := s₁) (g' := (mkF m 51 #[.val (.int u)] [(.int (1 : Int32))])) (fun t_ k_ => XS.goto X0.here hx rfl (pc0 := 47) (pc' := 51) rfl (hb hby d2_47) (by decide) (by decide) k_) ?_
        refine goRetZ X0 hx hlk hret (hb hby d2_51) (by decide) (by decide) (Or.inr rfl) ?_
        refine ⟨(1 : Int32), rfl, rfl, ?_⟩
        · first | exact Or.inr ⟨rfl, (own_hi' hc3 hc28).mp hc43⟩ | exact Or.inl ⟨rfl, Classical.not_not.mp fun z => hc43 ((own_hi' hc3 hc28).mpr z)⟩
    · skip
      refine Go.st (T' := s₁) (g' := (mkF m 52 #[.val (.int u)] [])) (fun t_ k_ => XS.icmpYes X0.here hx rfl (pc0 := 28) (pc' := 52) rfl (hb hby d2_28) rfl (flt hc28).2.1 (by decide) (by decide) k_) ?_
      refine Go.st (T' := s₁) (g' := (mkF m 53 #[.val (.int u)] [(.int (0 : Int32))])) (fun t_ k_ => XS.iconst X0.here hx rfl (hb hby d2_52) k_) ?_
      refine goRetZ X0 hx hlk hret (hb hby d2_53) (by decide) (by decide) (Or.inl rfl) ?_
      refine ⟨(0 : Int32), rfl, rfl, ?_⟩
      · exact Or.inr ⟨rfl, by simp only [own_LD, Int32.lt_iff_toInt_lt, Int32.reduceToInt] at *; omega⟩
theorem pn_0 : plainFor x = true := plainFor_of_name (by first | (simp [plainName, overriddenIn]; done) | decide +kernel)
theorem pd_f9e64c55 : parseMethodDescriptor "(C)Z" = some ⟨[.char], some .boolean⟩ := by decide +kernel
theorem ef_rm0 (m : MethodId) (x0 : Int32) : entryFrame m #[(.int x0)] maxLocals = mkF m 0 #[.val (.int x0), .unset] [] := by first | (simp [entryFrame, mkF, argsToLocals, Value.category, maxLocals]; done) | rfl
def Q0 (Z : State) (n0 : Nat) (h0 : Heap) (u : Int32) (v : Option Value) (h : Heap) : Prop := v = some (.int (1 : Int32))
set_option maxRecDepth 65536 in
set_option maxHeartbeats 40000000 in
theorem rm0 (l : Launch) (Z : State) (a0 : Array Value) (hw : ∀ d ∈ tables_1, d.before a0 Z = true) (ws : List Jvm.Cond) (n0 : Nat) (h0 : Heap) (u : Int32) (sz0 : n0 ≤ h0.size) :
    Con l x code maxLocals ret room_1 ws Z n0 #[(.int u)] h0 (Q0 Z n0 h0 u) := by
  refine Con.body pn_0 ?_
  intro p e s m below meth c s₁ hx hby hml hown hnm hret hlk hZ X0
  have hown : s.vm.findClass "com/example/security_target_reader/securitytargetreader/IdWordIsLetterOrDigitPinLaw" = some m.cls := hown
  have hnm : meth.name = "law" := hnm
  have hml : c.maxLocals = 2 := hml
  have hret : meth.sig.returnType = some .boolean := hret
  rw [show entryFrame m #[(.int u)] maxLocals = mkF m 0 #[.val (.int u), .unset] [] from ef_rm0 m u]
  show Go p e below (PostW s n0 room_1.cells room_1.slots (Q0 Z n0 h0 u)) s₁ (mkF m 0 #[.val (.int u), .unset] [])
  refine Go.st (T' := s₁) (g' := (mkF m 1 #[.val (.int u), .unset] [(.int u)])) (fun t_ k_ => XS.iloadN X0.here hx rfl (hb hby at_0) rfl k_) ?_
  refine Go.st (T' := s₁) (g' := (mkF m 2 #[.val (.int u), .unset] [(.int (u.toUInt32.toUInt16.toUInt32.toInt32))])) (fun t_ k_ => XS.i2c X0.here hx rfl (hb hby at_1) rfl k_) ?_
  refine Go.st (T' := s₁) (g' := (mkF m 3 #[.val (.int u), .val (.int (u.toUInt32.toUInt16.toUInt32.toInt32))] [])) (fun t_ k_ => XS.istoreN X0.here hx rfl (hb hby at_2) rfl (l' := #[.val (.int u), .val (.int (u.toUInt32.toUInt16.toUInt32.toInt32))]) rfl k_) ?_
  refine Go.st (T' := s₁) (g' := (mkF m 4 #[.val (.int u), .val (.int (u.toUInt32.toUInt16.toUInt32.toInt32))] [(.int (u.toUInt32.toUInt16.toUInt32.toInt32))])) (fun t_ k_ => XS.iloadN X0.here hx rfl (hb hby at_3) rfl k_) ?_
  refine goStatic X0 hx hZ (y := (⟨"com/example/security_target_reader/securitytargetreader/IdWord", "isLetterOrDigit", "(C)Z"⟩ : MethodName)) hown (hw _ (List.mem_of_getElem? (i := 0) rfl)) (hw _ (List.mem_of_getElem? (i := 1) rfl)) (hw _ (List.mem_of_getElem? (i := 2) rfl)) (hw _ (List.mem_of_getElem? (i := 3) rfl)) (by decide) (rm1 l Z a0 hw [] n0 h0 (u.toUInt32.toUInt16.toUInt32.toInt32) sz0) 0 (by decide) (by decide) (by rw [hml]; rfl) [(.int (u.toUInt32.toUInt16.toUInt32.toInt32))] [] (lenOf pd_f9e64c55 rfl) rfl rfl rfl (hb hby at_4) (by decide) (by decide) fun v1 T1 h1 X1 hq1 => ?_
  obtain ⟨ra, rfl, eh1, hra⟩ := hq1
  rw [eh1] at X1
  show Go p e below _ T1 (mkF m 7 #[.val (.int u), .val (.int (u.toUInt32.toUInt16.toUInt32.toInt32))] [(.int ra)])
  refine Go.st (T' := T1) (g' := (mkF m 8 #[.val (.int u), .val (.int (u.toUInt32.toUInt16.toUInt32.toInt32))] [(.int (u.toUInt32.toUInt16.toUInt32.toInt32)), (.int ra)])) (fun t_ k_ => XS.iloadN X1.here hx rfl (hb hby at_7) rfl k_) ?_
  refine goStatic X1 hx hZ (y := (⟨"com/example/security_target_reader/securitytargetreader/IdWordIsLetterOrDigitPinLaw", "reference", "(C)Z"⟩ : MethodName)) hown (hw _ (List.mem_of_getElem? (i := 4) rfl)) (hw _ (List.mem_of_getElem? (i := 5) rfl)) (hw _ (List.mem_of_getElem? (i := 6) rfl)) (hw _ (List.mem_of_getElem? (i := 7) rfl)) (by decide) (rm2 l Z a0 hw [] n0 h0 (u.toUInt32.toUInt16.toUInt32.toInt32) sz0 (own_char _)) 1 (by decide) (by decide) (by rw [hml]; rfl) [(.int (u.toUInt32.toUInt16.toUInt32.toInt32))] [(.int ra)] (lenOf pd_f9e64c55 rfl) rfl rfl rfl (hb hby at_8) (by decide) (by decide) fun v2 T2 h2 X2 hq2 => ?_
  obtain ⟨rb, rfl, eh2, hrb⟩ := hq2
  rw [eh2] at X2
  show Go p e below _ T2 (mkF m 11 #[.val (.int u), .val (.int (u.toUInt32.toUInt16.toUInt32.toInt32))] [(.int rb), (.int ra)])
  have hc11 : ra = rb := by rcases hra with ⟨q1, q2⟩ | ⟨q1, q2⟩ <;> rcases hrb with ⟨q3, q4⟩ | ⟨q3, q4⟩ <;> first | (rw [q1, q3]; done) | exact absurd q2 q4 | exact absurd q4 q2
  refine Go.st (T' := T2) (g' := (mkF m 14 #[.val (.int u), .val (.int (u.toUInt32.toUInt16.toUInt32.toInt32))] [])) (fun t_ k_ => XS.icmpNo X2.here hx rfl (hb hby at_11) rfl (teq hc11).2 k_) ?_
  refine Go.st (T' := T2) (g' := (mkF m 15 #[.val (.int u), .val (.int (u.toUInt32.toUInt16.toUInt32.toInt32))] [(.int (1 : Int32))])) (fun t_ k_ => XS.iconst X2.here hx rfl (hb hby at_14) k_) ?_
  refine Go.st (T' := T2) (g' := (mkF m 19 #[.val (.int u), .val (.int (u.toUInt32.toUInt16.toUInt32.toInt32))] [(.int (1 : Int32))])) (fun t_ k_ => XS.goto X2.here hx rfl (pc0 := 15) (pc' := 19) rfl (hb hby at_15) (by decide) (by decide) k_) ?_
  refine goRetZ X2 hx hlk hret (hb hby at_19) (by decide) (by decide) (Or.inr rfl) ?_
  exact rfl
set_option maxRecDepth 65536 in
set_option maxHeartbeats 40000000 in
theorem comes_1 {Post : Tables → Env → Array Value → State → Outcome → State → Prop} (hpost : ∀ tb e args s v u, (limb_1_1.after args s (.returned v) u = true ∧ limb_1_2.after args s (.returned v) u = true ∧ True) → FrameEnd s (.returned v) u (Jvm.fieldLocs frame_1_writes args s ++ Jvm.arrayLocs frame_1_arrays args s ++ Jvm.staticLocs frame_1_statics s) 0 0 → Post tb e args s (.returned v) u) :
    ArmFor flags0 classFile x code maxLocals ret World_1 tables_1 room_1 Calls_1 rest_1 Pre_1 Post := by
  intro l hfl _ _ p e ha hc hk s m args below hf hA hF happ hP
  obtain ⟨hcalls, hrest, hpre⟩ := hP
  obtain ⟨-, -, -, hnamed, -, -, -, hat⟩ := (Spec.applies_iff hf).mp happ
  obtain ⟨hg, hn⟩ := and_e (Cond.before_iff.mp (show (Jvm.Cond.and given_1 narrow_1).before args s = true from hpre))
  obtain ⟨hcnt, hg⟩ := and_e hg
  have ha0 := hg
  obtain ⟨w0, rfl⟩ : ∃ w0 : Value, args = #[w0] := by
    have hs : args.size = 1 := by simpa [Cond.value, given_1] using hcnt
    obtain ⟨L⟩ := args
    match L, hs with
    | [w0], _ => exact ⟨w0, rfl⟩
  have hw := fun d (hd : d ∈ tables_1) => atoms_spec (ws := Jvm.Cond.code x code maxLocals ret :: tables_1) hat d (List.mem_cons_of_mem _ hd)
  have hfit : Fit s := fun {y c} hc i hi => by
    obtain ⟨ha, rfl⟩ := Array.getElem?_eq_some_iff.mp hc
    have q := List.all_eq_true.mp ((Array.all_eq_true_iff_forall_mem.mp hF) _ (Array.getElem_mem ha)) i (List.mem_range.mpr hi)
    simpa [Array.getElem?_eq_getElem hi] using q
  obtain ⟨i0, ei0⟩ := is_v ha0
  obtain rfl : w0 = (.int i0) := Option.some.inj ei0
  obtain ⟨n, o, h1, h2, h3, v, L, rfl, ⟨N, hv⟩, hq⟩ := rm0 l s _ hw tables_1 s.heap.size s.heap i0 (Nat.le_refl _) p e ha hc hk s m _ below hf ((Spec.applies_iff_loose hf).mp happ).1 ⟨rfl, State.Warmed39.refl s, rfl⟩ trivial
  obtain rfl : v = some (.int 1) := hv
  refine ⟨n, _, h1, h2, h3, hpost _ _ _ _ _ _ ⟨Cond.after_iff.mpr rfl, Cond.after_iff.mpr (eq_i res_at (Term.int_eval (1)) rfl), trivial⟩ ⟨hq.1, hq.2.1, (hq.2.2.sift fun y hy => Or.inr (N y hy)).mono (by decide) (by decide)⟩⟩
theorem main_1_1 : Claimed_1_1 := comes_1 fun _ _ _ _ _ _ h hF => ⟨h.1, hF⟩
theorem main_1_2 : Claimed_1_2 := comes_1 fun _ _ _ _ _ _ h hF => ⟨h.2.1, hF⟩
end Jvm.Pilot.@@N@@
namespace Jvm.Pilot.@@N@@
open Jvm Jvm.ClassFile Sem Op Lib Jvm.Free Jvm.Stand Jvm.Pilot.@@N@@.Jvm.D
/-! MADE BY PROGRAM (witnessworld.py) out of the Statement's table words and the real class files: 10 classes; the members and pool entries that the words name. The judged class is class 1, her method 2. -/
namespace start1
open Jvm.ClassFile
def u (s : String) : CpInfo := .utf8 (stringToUtf16 s)
/-- a pool by its gaps: so many unusable entries, then the entry; so many at the end -/
def gap : Nat → List CpInfo → List CpInfo
  | 0, r => r
  | n + 1, r => .unusable :: gap n r
def poolList (es : List (Nat × CpInfo)) (last : Nat) : List CpInfo := es.foldr (fun e r => gap e.1 (e.2 :: r)) (gap last [])
def pool (es : List (Nat × CpInfo)) (last : Nat) : Array CpInfo := ⟨poolList es last⟩
def fileOf (pool : Array CpInfo) (this : Nat) (attrs : Array Attribute := #[]) (ms : Array MethodInfo := #[]) (fl : Nat := 33) (sup : Nat := 0) (ifs : Array Nat := #[]) (fds : Array FieldInfo := #[]) : ClassFile where
  minorVersion := 0
  majorVersion := 65
  constantPool := pool
  accessFlags := fl
  thisClass := this
  superClass := sup
  interfaces := ifs
  fields := fds
  methods := ms
  attributes := attrs
def plain (name : String) (sup : Option ClassId) : Class where
  name := name
  kind := .ordinary
  loader := none
  accessFlags := 33
  super := sup
  interfaces := #[]
  cf := none
  fields := #[]
  methods := #[]
  instanceTypes := #[]
  staticTypes := #[]
  resolved := #[]
  callSites := []
  init := .initialized
  statics := none
  mirror := none

def pool0 : Array CpInfo := pool [(5, u "<init>"), (0, u "()V"), (1, .class_ 10), (1, u "java/lang/Object")] 113

def k0m0 : Method := { name := "<init>", desc := "()V", sig := { parameters := [], returnType := none }, accessFlags := 1, code := none }
/-- java/lang/Object -/
def k0 : Class := { plain "java/lang/Object" none with
  accessFlags := 33
  interfaces := #[]
  cf := some (fileOf pool0 8 #[] #[{ accessFlags := 1, nameIndex := 5, descriptorIndex := 6, attributes := #[] }] 33 0 #[] #[])
  fields := #[]
  methods := #[k0m0]
  instanceTypes := #[]
  staticTypes := #[]
  resolved := Array.replicate 124 none
  statics := none }

def pool1 : Array CpInfo := pool [(2, .class_ 4), (1, u "java/lang/Object"), (0, u "<init>"), (0, u "()V"), (0, .long 287948901175001088), (1, .long 576460743847706622), (1, .methodref 12 13), (0, .class_ 14), (0, .nameAndType 15 16), (0, u "com/example/security_target_reader/securitytargetreader/IdWord"), (0, u "isLetterOrDigit"), (0, u "(C)Z"), (0, .methodref 18 19), (0, .class_ 20), (0, .nameAndType 21 16), (0, u "com/example/security_target_reader/securitytargetreader/IdWordIsLetterOrDigitPinLaw"), (0, u "reference"), (3, u "law"), (0, u "(I)Z")] 2

def k1m0 : Method := { name := "<init>", desc := "()V", sig := { parameters := [], returnType := none }, accessFlags := 2, code := none }
def k1c1 : Code := { maxStack := 4, maxLocals := 1, code := method_2_code, exceptionTable := #[], attributes := #[] }
def k1m1 : Method := { name := "reference", desc := "(C)Z", sig := { parameters := [.char], returnType := some .boolean }, accessFlags := 10, code := some k1c1 }
def k1c2 : Code := { maxStack := 2, maxLocals := 2, code := code, exceptionTable := #[], attributes := #[] }
def k1m2 : Method := { name := "law", desc := "(I)Z", sig := { parameters := [.int], returnType := some .boolean }, accessFlags := 9, code := some k1c2 }
/-- com/example/security_target_reader/securitytargetreader/IdWordIsLetterOrDigitPinLaw -/
def k1 : Class := { plain "com/example/security_target_reader/securitytargetreader/IdWordIsLetterOrDigitPinLaw" (some 0) with
  accessFlags := 49
  interfaces := #[]
  cf := some (fileOf pool1 18 #[] #[{ accessFlags := 2, nameIndex := 5, descriptorIndex := 6, attributes := #[] }, { accessFlags := 10, nameIndex := 21, descriptorIndex := 16, attributes := #[] }, { accessFlags := 9, nameIndex := 25, descriptorIndex := 26, attributes := #[] }] 49 2 #[] #[])
  fields := #[]
  methods := #[k1m0, k1m1, k1m2]
  instanceTypes := #[]
  staticTypes := #[]
  resolved := Array.replicate 29 none
  statics := none }

def pool2 : Array CpInfo := pool [(2, .class_ 4), (1, u "java/lang/Object"), (0, u "<init>"), (0, u "()V"), (0, .class_ 8), (0, u "java/lang/Record")] 13

def k2m0 : Method := { name := "<init>", desc := "()V", sig := { parameters := [], returnType := none }, accessFlags := 4, code := none }
/-- java/lang/Record -/
def k2 : Class := { plain "java/lang/Record" (some 0) with
  accessFlags := 1057
  interfaces := #[]
  cf := some (fileOf pool2 7 #[] #[{ accessFlags := 4, nameIndex := 5, descriptorIndex := 6, attributes := #[] }] 1057 2 #[] #[])
  fields := #[]
  methods := #[k2m0]
  instanceTypes := #[]
  staticTypes := #[]
  resolved := Array.replicate 22 none
  statics := none }

def pool3 : Array CpInfo := pool [(2, .class_ 4), (1, u "java/lang/Record"), (3, .class_ 10), (1, u "com/example/security_target_reader/securitytargetreader/IdWord"), (0, u "text"), (0, u "Ljava/lang/String;"), (2, u "start"), (0, u "I"), (2, u "end"), (37, u "(C)Z"), (20, u "isLetterOrDigit"), (74, u "CLASS_LENGTH"), (2, u "ENDS_WORD")] 37

def k3c0 : Code := { maxStack := 2, maxLocals := 1, code := prog_17_method_7_code, exceptionTable := #[], attributes := #[] }
def k3m0 : Method := { name := "isLetterOrDigit", desc := "(C)Z", sig := { parameters := [.char], returnType := some .boolean }, accessFlags := 8, code := some k3c0 }
/-- com/example/security_target_reader/securitytargetreader/IdWord -/
def k3 : Class := { plain "com/example/security_target_reader/securitytargetreader/IdWord" (some 2) with
  accessFlags := 48
  interfaces := #[]
  cf := some (fileOf pool3 8 #[] #[{ accessFlags := 8, nameIndex := 78, descriptorIndex := 57, attributes := #[] }] 48 2 #[] #[{ accessFlags := 18, nameIndex := 11, descriptorIndex := 12, attributes := #[] }, { accessFlags := 18, nameIndex := 15, descriptorIndex := 16, attributes := #[] }, { accessFlags := 18, nameIndex := 19, descriptorIndex := 16, attributes := #[] }, { accessFlags := 26, nameIndex := 153, descriptorIndex := 16, attributes := #[] }, { accessFlags := 26, nameIndex := 156, descriptorIndex := 12, attributes := #[] }])
  fields := #[{ name := "text", type := (.object "java/lang/String"), accessFlags := 18, slot := 0, constantValue := 0 }, { name := "start", type := .int, accessFlags := 18, slot := 1, constantValue := 0 }, { name := "end", type := .int, accessFlags := 18, slot := 2, constantValue := 0 }, { name := "CLASS_LENGTH", type := .int, accessFlags := 26, slot := 0, constantValue := 0 }, { name := "ENDS_WORD", type := (.object "java/lang/String"), accessFlags := 26, slot := 1, constantValue := 0 }]
  methods := #[k3m0]
  instanceTypes := #[(.object "java/lang/String"), .int, .int]
  staticTypes := #[.int, (.object "java/lang/String")]
  resolved := Array.replicate 194 none
  statics := none }

def pool4 : Array CpInfo := pool [(1, u "java/lang/Cloneable"), (0, .class_ 1), (0, u "java/lang/Object"), (0, .class_ 3)] 3

/-- java/lang/Cloneable -/
def k4 : Class := { plain "java/lang/Cloneable" (some 0) with
  accessFlags := 1537
  interfaces := #[]
  cf := some (fileOf pool4 2 #[] #[] 1537 4 #[] #[])
  fields := #[]
  methods := #[]
  instanceTypes := #[]
  staticTypes := #[]
  resolved := Array.replicate 8 none
  statics := none }

def pool5 : Array CpInfo := pool [(1, u "java/io/Serializable"), (0, .class_ 1), (0, u "java/lang/Object"), (0, .class_ 3)] 3

/-- java/io/Serializable -/
def k5 : Class := { plain "java/io/Serializable" (some 0) with
  accessFlags := 1537
  interfaces := #[]
  cf := some (fileOf pool5 2 #[] #[] 1537 4 #[] #[])
  fields := #[]
  methods := #[]
  instanceTypes := #[]
  staticTypes := #[]
  resolved := Array.replicate 8 none
  statics := none }

/-- the primitive byte -/
def k6 : Class := { plain "byte" none with kind := .primitive 'B', accessFlags := 0x411 }
/-- [B -/
def k7 : Class := { plain "[B" (some 0) with kind := .array 6 .byte, interfaces := #[4, 5], accessFlags := 1041 }

/-- the primitive int -/
def k8 : Class := { plain "int" none with kind := .primitive 'I', accessFlags := 0x411 }
/-- [I -/
def k9 : Class := { plain "[I" (some 0) with kind := .array 8 .int, interfaces := #[4, 5], accessFlags := 1041 }

def heap : Heap := #[]
def classes : Array Class := #[k0, k1, k2, k3, k4, k5, k6, k7, k8, k9]
def interned : List (Array UInt16 × Addr) := []
def slotsUsed : Nat := 0
def theMethod : MethodId := ⟨1, 2⟩
def args0 : Array Value := #[.int 5]
def aboutOver (below : List Frame) : State where
  vm := { classes := classes, interned := interned.toArray }
  heap := heap
  slotsUsed := slotsUsed
  threads := #[{ frames := .invoking theMethod args0 :: below }]
def below0 : List Frame := [.native { method := ⟨0, 0⟩, args := #[] }]
def about1 : State := aboutOver below0
def p0 : Program := .bare "" "" ""
def e0 : Env := launch0.env 0 0 0
theorem w_frames : about1.frames = Frame.invoking theMethod args0 :: below0 := rfl
set_option maxRecDepth 65536 in
theorem w_args : argsFit about1.vm theMethod args0 = true := by decide +kernel
set_option maxRecDepth 65536 in
theorem w_heap : heapFits about1 = true := by decide +kernel
set_option maxRecDepth 65536 in
theorem w_runnable : about1.curStatus? = some .runnable := by decide +kernel
set_option maxRecDepth 65536 in
theorem w_alone : about1.alone = true := by decide +kernel
set_option maxRecDepth 65536 in
theorem w_named : about1.methodNamed? x = some theMethod := by decide +kernel
set_option maxRecDepth 65536 in
theorem w_hears : about1.hears theMethod below0 = true := by decide +kernel
set_option maxRecDepth 65536 in
theorem w_ripe : about1.ripe theMethod args0 below0 = true := by decide +kernel
theorem w_running : about1.status = .running := rfl
set_option maxRecDepth 65536 in
theorem w_room : about1.hasRoom e0.platform room_1 = true :=
  launch0.hasRoom_least _ room_1 (by decide +kernel) (by decide +kernel) (by decide +kernel) (by decide +kernel) (by decide +kernel) (by decide +kernel)
theorem allAtoms_all (ts : List Jvm.Cond) (a : Array Jvm.Value) (st : Jvm.State) : (allAtoms ts).before a st = ts.all (fun c => c.before a st) := by
  induction ts with
  | nil => rfl
  | cons c t ih =>
    show (Jvm.Cond.and c (allAtoms t)).before a st = _
    rw [Jvm.Cond.before_and, ih, List.all_cons]
def words1 : List Jvm.Cond := Jvm.Cond.code x code maxLocals ret :: tables_1
/-- a 'code' word, met by the world's own term for the bytes: nothing is compared byte by byte -/
theorem code_word {y : MethodName} {bytes : ByteArray} {mx : Nat} {rt : Option FieldType} {a : Array Value} {s : State} {m : MethodId} {meth : Method} {c : Code} (h1 : s.methodNamed? y = some m) (h2 : s.vm.method? m = some meth) (h3 : meth.code = some c) (h4 : c.code = bytes)
    (h5 : (c.maxLocals == mx && c.exceptionTable.isEmpty && decide (c.maxStack ≤ mostOperands) && decide (meth.sig.returnType = rt) && !meth.locks && decide (parseMethodDescriptor y.desc = some meth.sig)) = true) : (Jvm.Cond.code y bytes mx rt).before a s = true := by
  simp only [Bool.and_eq_true, beq_iff_eq, Bool.not_eq_true', decide_eq_true_eq] at h5
  obtain ⟨⟨⟨⟨⟨g1, g2⟩, g3⟩, g4⟩, g5⟩, g6⟩ := h5
  simp [Cond.before, Cond.holds, Cond.value, h1, h2, h3, h4, g1, g2, g3, g4, g5, g6]
def isCode : Jvm.Cond → Bool
  | .code _ _ _ _ => true
  | _ => false
theorem all_split {L : List Jvm.Cond} {P : Jvm.Cond → Bool} (h1 : L.all (fun c => isCode c || P c) = true) (h2 : ∀ c ∈ L.filter isCode, P c = true) : L.all P = true := by
  refine List.all_eq_true.mpr fun c hc => ?_
  have h := List.all_eq_true.mp h1 c hc
  rcases Bool.eq_false_or_eq_true (isCode c) with hi | hi
  · exact h2 c (List.mem_filter.mpr ⟨hc, hi⟩)
  · simpa [hi] using h
set_option maxRecDepth 65536 in
theorem w_c0 : (Jvm.Cond.code x code maxLocals ret).before args0 about1 = true := code_word (m := ⟨1, 2⟩) (meth := k1m2) (c := k1c2) (by decide +kernel) rfl rfl rfl (by decide +kernel)
set_option maxRecDepth 65536 in
theorem w_c1 : (Jvm.Cond.code ({ cls := "com/example/security_target_reader/securitytargetreader/IdWord", name := "isLetterOrDigit", desc := "(C)Z" } : Jvm.MethodName) prog_17_method_7_code (1 : Nat) (Option.some Jvm.ClassFile.FieldType.boolean)).before args0 about1 = true := code_word (m := ⟨3, 0⟩) (meth := k3m0) (c := k3c0) (by decide +kernel) rfl rfl rfl (by decide +kernel)
set_option maxRecDepth 65536 in
theorem w_c2 : (Jvm.Cond.code ({ cls := "com/example/security_target_reader/securitytargetreader/IdWordIsLetterOrDigitPinLaw", name := "reference", desc := "(C)Z" } : Jvm.MethodName) method_2_code (1 : Nat) (Option.some Jvm.ClassFile.FieldType.boolean)).before args0 about1 = true := code_word (m := ⟨1, 1⟩) (meth := k1m1) (c := k1c1) (by decide +kernel) rfl rfl rfl (by decide +kernel)
def codes1 : List Jvm.Cond := [Jvm.Cond.code x code maxLocals ret, Jvm.Cond.code ({ cls := "com/example/security_target_reader/securitytargetreader/IdWord", name := "isLetterOrDigit", desc := "(C)Z" } : Jvm.MethodName) prog_17_method_7_code (1 : Nat) (Option.some Jvm.ClassFile.FieldType.boolean), Jvm.Cond.code ({ cls := "com/example/security_target_reader/securitytargetreader/IdWordIsLetterOrDigitPinLaw", name := "reference", desc := "(C)Z" } : Jvm.MethodName) method_2_code (1 : Nat) (Option.some Jvm.ClassFile.FieldType.boolean)]
set_option maxRecDepth 65536 in
theorem codes_eq : words1.filter isCode = codes1 := rfl
theorem w_codes : ∀ c ∈ words1.filter isCode, c.before args0 about1 = true := by
  rw [codes_eq]
  intro c hc
  simp only [codes1, List.mem_cons, List.not_mem_nil, or_false] at hc
  rcases hc with rfl | rfl | rfl
  · exact w_c0
  · exact w_c1
  · exact w_c2
set_option maxRecDepth 65536 in
theorem w_t1 : words1.all (fun c => isCode c || c.before args0 about1) = true := by decide +kernel
theorem w_tables : (allAtoms (Jvm.Cond.code x code maxLocals ret :: tables_1)).before args0 about1 = true := by
  rw [allAtoms_all]
  show words1.all (fun c => c.before args0 about1) = true
  refine all_split ?_ w_codes
  rw [w_t1]
set_option maxRecDepth 65536 in
theorem w_case : (Jvm.Cond.and given_1 narrow_1).before args0 about1 = true := by decide +kernel
theorem w_applies : (headSpec (Jvm.Cond.code x code maxLocals ret :: tables_1) room_1).applies x e0.platform about1 = true :=
  (Spec.applies_iff w_frames).mpr ⟨w_running, w_runnable, w_alone, w_named, w_hears, w_ripe, w_room, w_tables⟩
theorem atStart : AtStart classFile x code maxLocals ret World_1 tables_1 room_1 Calls_1 rest_1 Pre_1 launch0 p0 e0 about1 theMethod args0 below0 :=
  ⟨lists_1, trivial, launch0.admits_env _ _ _, launch0.least_env, fairChoices_fair.cas, fairChoices_fair.clock, w_frames, w_args, w_heap, w_applies, trivial, trivial, w_case⟩
end start1
theorem witness_1 : WitnessClaimed_1 := ⟨start1.p0, start1.e0, start1.about1, start1.theMethod, start1.args0, start1.below0, start1.atStart⟩
end Jvm.Pilot.@@N@@

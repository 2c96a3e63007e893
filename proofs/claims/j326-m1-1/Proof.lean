import JvmDerived
import JvmDerived.Pilot.@@N@@Statement
import JvmDerived.Pilot.@@N@@Code
set_option linter.unusedVariables false
set_option linter.unusedSimpArgs false
namespace Jvm.RoadKit
open Sem ClassFile Op Lib Jvm.Stand Jvm.Free Jvm.LawKit
section New
variable {p : Program} {l : Launch} {e : Env} {R : Room} {s : State} {m : MethodId} {args : Array Value} {below : List Frame} {meth : Method} {c : Code} {T : State} {locs : List Loc} {cells slots : Nat}
theorem retI (X : Stand p l e R s m args below meth c T locs cells slots) (hx : p.tables.exec = Jvm.exec) {pc : Nat} {Ls : Array Slot} {z : Int32} {rest : List Value} (hret : meth.sig.returnType = some .int) (hd : decode c.code pc = .ok (.ireturn, 1)) {fs : List Frame}
    (hl : ∀ (f : JFrame) (acts : List Action), f.method = m → f.locked = none → f.entered = [] → (doReturn e (T.setTop f) acts (some (.int z))).1 = T.setFrames fs) : Steps p.tables e below (T.setTop (mkF m pc Ls (.int z :: rest))) (T.setFrames fs) := by
  have hm' : T.vm.method? m = some meth := X.method'
  have hn : narrow .int (.int z) = .int z := rfl
  show Steps p.tables e below (T.setTop { method := m, pc := pc, locals := Ls, stack := _ :: rest, locked := none }) _
  jvm_step X.here [X.here.top, hx, hd, hm', hret, hn]
  first | (intro acts; rw [hl _ acts rfl rfl rfl]) | rw [hl _ _ rfl rfl rfl]
  exact Steps.refl _
end New
end Jvm.RoadKit
namespace Jvm.Pilot.@@N@@
open Jvm Jvm.ClassFile Sem Op Lib Jvm.Free Jvm.Stand Jvm.LawKit Jvm.RoadKit Bundle Jvm.Pilot.@@N@@.Jvm.D
section OwnKit
variable {p : Program} {l : Launch} {e : Env} {R : Room} {s : State} {m : MethodId} {args : Array Value} {below : List Frame} {meth : Method} {c : Code} {Z : State} {own nm : String} {bytes : ByteArray} {maxL : Nat} {rt : Option FieldType} {n0 : Nat} {h0 : Heap} {ws : List Addr} {Q : Option Value → Heap → Prop} {Fe : State → List Loc → Option Value → Prop} {cells slots : Nat} {h : Heap} {pc pc' : Nat} {ls ls' : Array Slot} {st : List Value} {a0 : Array Value}
/-- what is fixed in a body -/
def Cx (p : Program) (s : State) (m : MethodId) (meth : Method) (c : Code) (Z : State) (own nm : String) (bytes : ByteArray) (maxL : Nat) (rt : Option FieldType) (n0 : Nat) (h0 : Heap) (ws : List Addr) : Prop :=
  (p.tables.exec = Jvm.exec ∧ c.code = bytes ∧ c.maxLocals = maxL ∧ s.vm.findClass own = some m.cls ∧ Z.Warmed39 s.vm) ∧ (meth.sig.returnType = rt ∧ meth.locks = false ∧ meth.name = nm ∧ n0 ≤ h0.size ∧ ∀ x ∈ ws, n0 ≤ x)
/-- from every state that stands here with the heap h at the frame g, the run returns and Q holds at the end -/
def G (p : Program) (l : Launch) (e : Env) (R : Room) (s : State) (m : MethodId) (args : Array Value) (below : List Frame) (meth : Method) (c : Code) (n0 : Nat) (h0 : Heap) (ws : List Addr) (Q : Option Value → Heap → Prop) (Fe : State → List Loc → Option Value → Prop) (cells slots : Nat) (h : Heap) (g : JFrame) : Prop :=
  ∀ (T : State) (locs : List Loc) (k n : Nat), Stand p l e R s m args below meth c T locs k n → k ≤ cells → n ≤ slots → T.heap = h → Fr n0 locs → Keep h0 h ws →
    ∃ (U : State) (v : Option Value) (L : List Loc), Steps p.tables e below (T.setTop g) U ∧ U.status = .running ∧ Ended U below (.returned v) ∧ (Fr n0 L ∧ Keep h0 U.heap ws ∧ Q v U.heap) ∧ Fe U L v
def FeN (s : State) (R : Room) : State → List Loc → Option Value → Prop := fun U L v => FrameEnd s (.returned v) U L R.cells R.slots
def FeW (s : State) (R : Room) : State → List Loc → Option Value → Prop := fun U L v => ReturnedEndW s (.returned v) U L R.cells R.slots
/-- the contract of a callee: called with these arguments at this heap it returns, writes old cells of ws alone, and Q holds -/
def Mt (l : Launch) (Z : State) (y : MethodName) (bytes : ByteArray) (maxL : Nat) (rt : Option FieldType) (cs : List Jvm.Cond) (rm : Room) (n0 : Nat) (as' : Array Value) (h : Heap) (ws : List Addr) (Q : Option Value → Heap → Prop) : Prop :=
  MetFree l y (head1 (Jvm.Cond.code y bytes maxL rt :: cs) rm) (fun a U => a = as' ∧ Z.Warmed39 U.vm ∧ U.heap = h) (fun _ _ _ _ _ => True) (fun _ U o U' => ∃ v L, o = .returned v ∧ (Fr n0 L ∧ Keep h U'.heap ws ∧ Q v U'.heap) ∧ FrameEnd U o U' L rm.cells rm.slots)
def RV (Q : Heap → Prop) : Option Value → Heap → Prop := fun v h => v = none ∧ Q h
def RI (Q : Int32 → Heap → Prop) : Option Value → Heap → Prop := fun v h => ∃ z : Int32, v = some (.int z) ∧ Q z h
def RJ (Q : Int64 → Heap → Prop) : Option Value → Heap → Prop := fun v h => ∃ z : Int64, v = some (.long z) ∧ Q z h
def RA (Q : Addr → Heap → Prop) : Option Value → Heap → Prop := fun v h => ∃ z : Addr, v = some (.ref z) ∧ Q z h
theorem G.mono {g : JFrame} {cells' slots' : Nat} (hc : cells ≤ cells') (hs : slots ≤ slots') (kk : G p l e R s m args below meth c n0 h0 ws Q Fe cells' slots' h g) : G p l e R s m args below meth c n0 h0 ws Q Fe cells slots h g := fun T locs k n X hk hn eT N K => kk T locs k n X (Nat.le_trans hk hc) (Nat.le_trans hn hs) eT N K
theorem G.stepX {g g' : JFrame} (stp : ∀ T locs k n t, Stand p l e R s m args below meth c T locs k n → T.heap = h → Steps p.tables e below (T.setTop g') t → Steps p.tables e below (T.setTop g) t) (kk : G p l e R s m args below meth c n0 h0 ws Q Fe cells slots h g') : G p l e R s m args below meth c n0 h0 ws Q Fe cells slots h g := fun T locs k n X hk hn eT N K => by
  obtain ⟨U, v, L, hs, r⟩ := kk T locs k n X hk hn eT N K
  exact ⟨U, v, L, stp T locs k n U X eT hs, r⟩
theorem G.stepT {g g' : JFrame} (stp : ∀ T locs k n, Stand p l e R s m args below meth c T locs k n → T.heap = h → ∃ T', Stand p l e R s m args below meth c T' locs k n ∧ T'.heap = h ∧ ∀ t, Steps p.tables e below (T'.setTop g') t → Steps p.tables e below (T.setTop g) t) (kk : G p l e R s m args below meth c n0 h0 ws Q Fe cells slots h g') : G p l e R s m args below meth c n0 h0 ws Q Fe cells slots h g := fun T locs k n X hk hn eT N K => by
  obtain ⟨T', X', e', stp'⟩ := stp T locs k n X eT
  obtain ⟨U, v, L, hs, r⟩ := kk T' locs k n X' hk hn e' N K
  exact ⟨U, v, L, stp' U hs, r⟩
theorem own_fr {a : Addr} (B : Cx p s m meth c Z own nm bytes maxL rt n0 h0 ws) (ha : a ∈ ws ∨ h0.size ≤ a) : n0 ≤ a := ha.elim (B.2.2.2.2.2 a) (Nat.le_trans B.2.2.2.2.1)
theorem G.wr {g g' : JFrame} {a : Addr} {sl : Nat} {v : Value} (B : Cx p s m meth c Z own nm bytes maxL rt n0 h0 ws) (ha : a ∈ ws ∨ h0.size ≤ a) (stp : ∀ T locs k n, Stand p l e R s m args below meth c T locs k n → T.heap = h → ∃ T' h', Stand p l e R s m args below meth c T' (locs ++ [⟨a, sl⟩]) k n ∧ T'.heap = h' ∧ Wr h h' a sl v ∧ ∀ t, Steps p.tables e below (T'.setTop g') t → Steps p.tables e below (T.setTop g) t) (kk : ∀ h', Wr h h' a sl v → G p l e R s m args below meth c n0 h0 ws Q Fe cells slots h' g') : G p l e R s m args below meth c n0 h0 ws Q Fe cells slots h g := fun T locs k n X hk hn eT N K => by
  obtain ⟨T', h', X', e', W, stp'⟩ := stp T locs k n X eT
  obtain ⟨U, v, L, hs, r⟩ := kk h' W T' _ k n X' hk hn e' (Fr.snoc X' N (own_fr B ha)) (K.wr W ha)
  exact ⟨U, v, L, stp' U hs, r⟩
theorem G.out {g : JFrame} {v : Option Value} (B : Cx p s m meth c Z own nm bytes maxL rt n0 h0 ws) (hv : rt = none → v = none) (hc : cells ≤ R.cells) (hs : slots ≤ R.slots) (hQ : Q v h)
    (stp : ∀ T locs k n fs, Stand p l e R s m args below meth c T locs k n → (∀ (f : JFrame) (acts : List Action), f.method = m → f.locked = none → f.entered = [] → (doReturn e (T.setTop f) acts v).1 = T.setFrames fs) → Steps p.tables e below (T.setTop g) (T.setFrames fs)) : G p l e R s m args below meth c n0 h0 ws Q (FeN s R) cells slots h g := fun T locs k n X hk hn eT N K => by
  obtain ⟨fs, hr, hrun, hended, hW, hsame⟩ := X.leave (v := v) (fun q => hv (B.2.1.symm.trans q)) B.2.2.1
  refine ⟨T.setFrames fs, v, locs, stp T locs k n fs X hr, hrun, hended, ⟨N, ?_, ?_⟩, ⟨_, rfl⟩, hW, hsame.mono (Nat.le_trans hk hc) (Nat.le_trans hn hs)⟩
  · show Keep h0 T.heap ws
    rw [eT]; exact K
  · show Q v T.heap
    rw [eT]; exact hQ
theorem Mt.intro {y : MethodName} {cs : List Jvm.Cond} {as' : Array Value} (hpl : plainFor y = true) (hn : n0 ≤ h0.size) (hws : ∀ x ∈ ws, n0 ≤ x)
    (body : ∀ p e s m below meth c, Cx p s m meth c Z y.cls y.name bytes maxL rt n0 h0 ws → G p l e R s m as' below meth c n0 h0 ws Q (FeN s R) 0 0 h0 (entryFrame m as' maxL)) : Mt l Z y bytes maxL rt cs R n0 as' h0 ws Q := by
  refine MetFree.of_bodySF hpl hisR ?_
  intro p e s m args below meth c s₁ Bd hml0 hP hK
  obtain ⟨rfl, hZ, hh⟩ := hP
  have B : Cx p s m meth c Z y.cls y.name bytes maxL rt n0 h0 ws := ⟨⟨Bd.exec, Bd.bytes, hml0, findClass_of_methodNamed Bd.named, hZ⟩, Bd.returns, Bd.notSynchronized, (name_of_methodNamed Bd.named Bd.method).1, hn, hws⟩
  have X0 : Stand p l e R s m args below meth c s₁ [] 0 0 := Stand.of_body Bd
  have e0 : s₁.heap = h0 := by rw [← hh, Bd.state]; rfl
  obtain ⟨U, v, L, hs, h1, h2, h3, h4⟩ := body p e s m below meth c B s₁ [] 0 0 X0 (Nat.le_refl _) (Nat.le_refl _) e0 (Fr.nil n0) (Keep.refl _ _)
  exact ⟨U, _, hs, h1, h2, v, L, rfl, h3, h4⟩
theorem G.entry {g g' : JFrame} (q : g = g') (kk : G p l e R s m args below meth c n0 h0 ws Q Fe cells slots h g') : G p l e R s m args below meth c n0 h0 ws Q Fe cells slots h g := q ▸ kk
theorem G.iloadN {k : Fin 4} {v : Int32} (B : Cx p s m meth c Z own nm bytes maxL rt n0 h0 ws) (hd : decode bytes pc = .ok (.iload_n k, 1)) (hl : ls[k.val]? = some (.val (.int v))) (hp : pc + 1 = pc') (kk : G p l e R s m args below meth c n0 h0 ws Q Fe cells slots h (mkF m pc' ls (.int v :: st))) : G p l e R s m args below meth c n0 h0 ws Q Fe cells slots h (mkF m pc ls st) := by
  subst hp
  exact G.stepX (fun T locs k n t X _ q => XS.iloadN X.here B.1.1 rfl (hb B.1.2.1 hd) hl q) kk
theorem G.iload {k : Nat} {v : Int32} (B : Cx p s m meth c Z own nm bytes maxL rt n0 h0 ws) (hd : decode bytes pc = .ok (.iload k, 2)) (hl : ls[k]? = some (.val (.int v))) (hp : pc + 2 = pc') (kk : G p l e R s m args below meth c n0 h0 ws Q Fe cells slots h (mkF m pc' ls (.int v :: st))) : G p l e R s m args below meth c n0 h0 ws Q Fe cells slots h (mkF m pc ls st) := by
  subst hp
  exact G.stepX (fun T locs k n t X _ q => XS.iload X.here B.1.1 rfl (hb B.1.2.1 hd) hl q) kk
theorem G.lloadN {k : Fin 4} {v : Int64} (B : Cx p s m meth c Z own nm bytes maxL rt n0 h0 ws) (hd : decode bytes pc = .ok (.lload_n k, 1)) (hl : ls[k.val]? = some (.val (.long v))) (hp : pc + 1 = pc') (kk : G p l e R s m args below meth c n0 h0 ws Q Fe cells slots h (mkF m pc' ls (.long v :: st))) : G p l e R s m args below meth c n0 h0 ws Q Fe cells slots h (mkF m pc ls st) := by
  subst hp
  exact G.stepX (fun T locs k n t X _ q => XS.lloadN X.here B.1.1 rfl (hb B.1.2.1 hd) hl q) kk
theorem G.lload {k : Nat} {v : Int64} (B : Cx p s m meth c Z own nm bytes maxL rt n0 h0 ws) (hd : decode bytes pc = .ok (.lload k, 2)) (hl : ls[k]? = some (.val (.long v))) (hp : pc + 2 = pc') (kk : G p l e R s m args below meth c n0 h0 ws Q Fe cells slots h (mkF m pc' ls (.long v :: st))) : G p l e R s m args below meth c n0 h0 ws Q Fe cells slots h (mkF m pc ls st) := by
  subst hp
  exact G.stepX (fun T locs k n t X _ q => XS.lload X.here B.1.1 rfl (hb B.1.2.1 hd) hl q) kk
theorem G.aloadN {k : Fin 4} {v : Value} (B : Cx p s m meth c Z own nm bytes maxL rt n0 h0 ws) (hd : decode bytes pc = .ok (.aload_n k, 1)) (hl : ls[k.val]? = some (.val v)) (hv : v.isRef = true) (hp : pc + 1 = pc') (kk : G p l e R s m args below meth c n0 h0 ws Q Fe cells slots h (mkF m pc' ls (v :: st))) : G p l e R s m args below meth c n0 h0 ws Q Fe cells slots h (mkF m pc ls st) := by
  subst hp
  exact G.stepX (fun T locs k n t X _ q => XS.aloadN X.here B.1.1 rfl (hb B.1.2.1 hd) hl hv q) kk
theorem G.aload {k : Nat} {v : Value} (B : Cx p s m meth c Z own nm bytes maxL rt n0 h0 ws) (hd : decode bytes pc = .ok (.aload k, 2)) (hl : ls[k]? = some (.val v)) (hv : v.isRef = true) (hp : pc + 2 = pc') (kk : G p l e R s m args below meth c n0 h0 ws Q Fe cells slots h (mkF m pc' ls (v :: st))) : G p l e R s m args below meth c n0 h0 ws Q Fe cells slots h (mkF m pc ls st) := by
  subst hp
  exact G.stepX (fun T locs k n t X _ q => XS.aload X.here B.1.1 rfl (hb B.1.2.1 hd) hl hv q) kk
theorem G.istoreN {k : Fin 4} {v : Int32} (B : Cx p s m meth c Z own nm bytes maxL rt n0 h0 ws) (hd : decode bytes pc = .ok (.istore_n k, 1)) (hl : storeLocals ls k.val (.int v) = some ls') (hp : pc + 1 = pc') (kk : G p l e R s m args below meth c n0 h0 ws Q Fe cells slots h (mkF m pc' ls' st)) : G p l e R s m args below meth c n0 h0 ws Q Fe cells slots h (mkF m pc ls (.int v :: st)) := by
  subst hp
  exact G.stepX (fun T locs k n t X _ q => XS.istoreN X.here B.1.1 rfl (hb B.1.2.1 hd) rfl hl q) kk
theorem G.istore {k : Nat} {v : Int32} (B : Cx p s m meth c Z own nm bytes maxL rt n0 h0 ws) (hd : decode bytes pc = .ok (.istore k, 2)) (hl : storeLocals ls k (.int v) = some ls') (hp : pc + 2 = pc') (kk : G p l e R s m args below meth c n0 h0 ws Q Fe cells slots h (mkF m pc' ls' st)) : G p l e R s m args below meth c n0 h0 ws Q Fe cells slots h (mkF m pc ls (.int v :: st)) := by
  subst hp
  exact G.stepX (fun T locs k n t X _ q => XS.istore X.here B.1.1 rfl (hb B.1.2.1 hd) rfl hl q) kk
theorem G.lstoreN {k : Fin 4} {v : Int64} (B : Cx p s m meth c Z own nm bytes maxL rt n0 h0 ws) (hd : decode bytes pc = .ok (.lstore_n k, 1)) (hl : storeLocals ls k.val (.long v) = some ls') (hp : pc + 1 = pc') (kk : G p l e R s m args below meth c n0 h0 ws Q Fe cells slots h (mkF m pc' ls' st)) : G p l e R s m args below meth c n0 h0 ws Q Fe cells slots h (mkF m pc ls (.long v :: st)) := by
  subst hp
  exact G.stepX (fun T locs k n t X _ q => XS.lstoreN X.here B.1.1 rfl (hb B.1.2.1 hd) rfl hl q) kk
theorem G.lstore {k : Nat} {v : Int64} (B : Cx p s m meth c Z own nm bytes maxL rt n0 h0 ws) (hd : decode bytes pc = .ok (.lstore k, 2)) (hl : storeLocals ls k (.long v) = some ls') (hp : pc + 2 = pc') (kk : G p l e R s m args below meth c n0 h0 ws Q Fe cells slots h (mkF m pc' ls' st)) : G p l e R s m args below meth c n0 h0 ws Q Fe cells slots h (mkF m pc ls (.long v :: st)) := by
  subst hp
  exact G.stepX (fun T locs k n t X _ q => XS.lstore X.here B.1.1 rfl (hb B.1.2.1 hd) rfl hl q) kk
theorem G.astoreN {k : Fin 4} {v : Value} (B : Cx p s m meth c Z own nm bytes maxL rt n0 h0 ws) (hd : decode bytes pc = .ok (.astore_n k, 1)) (hv : v.isRef = true) (hl : storeLocals ls k.val v = some ls') (hp : pc + 1 = pc') (kk : G p l e R s m args below meth c n0 h0 ws Q Fe cells slots h (mkF m pc' ls' st)) : G p l e R s m args below meth c n0 h0 ws Q Fe cells slots h (mkF m pc ls (v :: st)) := by
  subst hp
  exact G.stepX (fun T locs k n t X _ q => XS.astoreN X.here B.1.1 rfl (hb B.1.2.1 hd) rfl hv hl q) kk
theorem G.astore {k : Nat} {v : Value} (B : Cx p s m meth c Z own nm bytes maxL rt n0 h0 ws) (hd : decode bytes pc = .ok (.astore k, 2)) (hv : v.isRef = true) (hl : storeLocals ls k v = some ls') (hp : pc + 2 = pc') (kk : G p l e R s m args below meth c n0 h0 ws Q Fe cells slots h (mkF m pc' ls' st)) : G p l e R s m args below meth c n0 h0 ws Q Fe cells slots h (mkF m pc ls (v :: st)) := by
  subst hp
  exact G.stepX (fun T locs k n t X _ q => XS.astore X.here B.1.1 rfl (hb B.1.2.1 hd) rfl hv hl q) kk
theorem G.iconst {i : Int} {z : Int32} (B : Cx p s m meth c Z own nm bytes maxL rt n0 h0 ws) (hd : decode bytes pc = .ok (.iconst i, 1)) (hz : Int32.ofInt i = z) (hp : pc + 1 = pc') (kk : G p l e R s m args below meth c n0 h0 ws Q Fe cells slots h (mkF m pc' ls (.int z :: st))) : G p l e R s m args below meth c n0 h0 ws Q Fe cells slots h (mkF m pc ls st) := by
  subst hp hz
  exact G.stepX (fun T locs k n t X _ q => XS.iconst X.here B.1.1 rfl (hb B.1.2.1 hd) q) kk
theorem G.bipush {i : Int} {z : Int32} (B : Cx p s m meth c Z own nm bytes maxL rt n0 h0 ws) (hd : decode bytes pc = .ok (.bipush i, 2)) (hz : (Int8.ofInt i).toInt32 = z) (hp : pc + 2 = pc') (kk : G p l e R s m args below meth c n0 h0 ws Q Fe cells slots h (mkF m pc' ls (.int z :: st))) : G p l e R s m args below meth c n0 h0 ws Q Fe cells slots h (mkF m pc ls st) := by
  subst hp hz
  exact G.stepX (fun T locs k n t X _ q => XS.bipush X.here B.1.1 rfl (hb B.1.2.1 hd) q) kk
theorem G.sipush {i : Int} {z : Int32} (B : Cx p s m meth c Z own nm bytes maxL rt n0 h0 ws) (hd : decode bytes pc = .ok (.sipush i, 3)) (hz : (Int16.ofInt i).toInt32 = z) (hp : pc + 3 = pc') (kk : G p l e R s m args below meth c n0 h0 ws Q Fe cells slots h (mkF m pc' ls (.int z :: st))) : G p l e R s m args below meth c n0 h0 ws Q Fe cells slots h (mkF m pc ls st) := by
  subst hp hz
  exact G.stepX (fun T locs k n t X _ q => XS.sipush X.here B.1.1 rfl (hb B.1.2.1 hd) q) kk
theorem G.lconst {i : Fin 2} {z : Int64} (B : Cx p s m meth c Z own nm bytes maxL rt n0 h0 ws) (hd : decode bytes pc = .ok (.lconst i, 1)) (hz : Int64.ofNat i = z) (hp : pc + 1 = pc') (kk : G p l e R s m args below meth c n0 h0 ws Q Fe cells slots h (mkF m pc' ls (.long z :: st))) : G p l e R s m args below meth c n0 h0 ws Q Fe cells slots h (mkF m pc ls st) := by
  subst hp hz
  exact G.stepX (fun T locs k n t X _ q => XS.lconst X.here B.1.1 rfl (hb B.1.2.1 hd) q) kk
theorem G.aconstNull (B : Cx p s m meth c Z own nm bytes maxL rt n0 h0 ws) (hd : decode bytes pc = .ok (.aconst_null, 1)) (hp : pc + 1 = pc') (kk : G p l e R s m args below meth c n0 h0 ws Q Fe cells slots h (mkF m pc' ls (.null :: st))) : G p l e R s m args below meth c n0 h0 ws Q Fe cells slots h (mkF m pc ls st) := by
  subst hp
  exact G.stepX (fun T locs k n t X _ q => XS.aconstNull X.here B.1.1 rfl (hb B.1.2.1 hd) q) kk
theorem G.iadd {x y : Int32} (B : Cx p s m meth c Z own nm bytes maxL rt n0 h0 ws) (hd : decode bytes pc = .ok (.iadd, 1)) (hp : pc + 1 = pc') (kk : G p l e R s m args below meth c n0 h0 ws Q Fe cells slots h (mkF m pc' ls (.int (x + y) :: st))) : G p l e R s m args below meth c n0 h0 ws Q Fe cells slots h (mkF m pc ls (.int y :: .int x :: st)) := by
  subst hp
  exact G.stepX (fun T locs k n t X _ q => XS.iadd X.here B.1.1 rfl (hb B.1.2.1 hd) rfl q) kk
theorem G.ladd {x y : Int64} (B : Cx p s m meth c Z own nm bytes maxL rt n0 h0 ws) (hd : decode bytes pc = .ok (.ladd, 1)) (hp : pc + 1 = pc') (kk : G p l e R s m args below meth c n0 h0 ws Q Fe cells slots h (mkF m pc' ls (.long (x + y) :: st))) : G p l e R s m args below meth c n0 h0 ws Q Fe cells slots h (mkF m pc ls (.long y :: .long x :: st)) := by
  subst hp
  exact G.stepX (fun T locs k n t X _ q => XS.ladd X.here B.1.1 rfl (hb B.1.2.1 hd) rfl q) kk
theorem G.isub {x y : Int32} (B : Cx p s m meth c Z own nm bytes maxL rt n0 h0 ws) (hd : decode bytes pc = .ok (.isub, 1)) (hp : pc + 1 = pc') (kk : G p l e R s m args below meth c n0 h0 ws Q Fe cells slots h (mkF m pc' ls (.int (x - y) :: st))) : G p l e R s m args below meth c n0 h0 ws Q Fe cells slots h (mkF m pc ls (.int y :: .int x :: st)) := by
  subst hp
  exact G.stepX (fun T locs k n t X _ q => XS.isub X.here B.1.1 rfl (hb B.1.2.1 hd) rfl q) kk
theorem G.lsub {x y : Int64} (B : Cx p s m meth c Z own nm bytes maxL rt n0 h0 ws) (hd : decode bytes pc = .ok (.lsub, 1)) (hp : pc + 1 = pc') (kk : G p l e R s m args below meth c n0 h0 ws Q Fe cells slots h (mkF m pc' ls (.long (x - y) :: st))) : G p l e R s m args below meth c n0 h0 ws Q Fe cells slots h (mkF m pc ls (.long y :: .long x :: st)) := by
  subst hp
  exact G.stepX (fun T locs k n t X _ q => XS.lsub X.here B.1.1 rfl (hb B.1.2.1 hd) rfl q) kk
theorem G.imul {x y : Int32} (B : Cx p s m meth c Z own nm bytes maxL rt n0 h0 ws) (hd : decode bytes pc = .ok (.imul, 1)) (hp : pc + 1 = pc') (kk : G p l e R s m args below meth c n0 h0 ws Q Fe cells slots h (mkF m pc' ls (.int (x * y) :: st))) : G p l e R s m args below meth c n0 h0 ws Q Fe cells slots h (mkF m pc ls (.int y :: .int x :: st)) := by
  subst hp
  exact G.stepX (fun T locs k n t X _ q => XS.imul X.here B.1.1 rfl (hb B.1.2.1 hd) rfl q) kk
theorem G.lmul {x y : Int64} (B : Cx p s m meth c Z own nm bytes maxL rt n0 h0 ws) (hd : decode bytes pc = .ok (.lmul, 1)) (hp : pc + 1 = pc') (kk : G p l e R s m args below meth c n0 h0 ws Q Fe cells slots h (mkF m pc' ls (.long (x * y) :: st))) : G p l e R s m args below meth c n0 h0 ws Q Fe cells slots h (mkF m pc ls (.long y :: .long x :: st)) := by
  subst hp
  exact G.stepX (fun T locs k n t X _ q => XS.lmul X.here B.1.1 rfl (hb B.1.2.1 hd) rfl q) kk
theorem G.iand {x y : Int32} (B : Cx p s m meth c Z own nm bytes maxL rt n0 h0 ws) (hd : decode bytes pc = .ok (.iand, 1)) (hp : pc + 1 = pc') (kk : G p l e R s m args below meth c n0 h0 ws Q Fe cells slots h (mkF m pc' ls (.int (x &&& y) :: st))) : G p l e R s m args below meth c n0 h0 ws Q Fe cells slots h (mkF m pc ls (.int y :: .int x :: st)) := by
  subst hp
  exact G.stepX (fun T locs k n t X _ q => XS.iand X.here B.1.1 rfl (hb B.1.2.1 hd) rfl q) kk
theorem G.land {x y : Int64} (B : Cx p s m meth c Z own nm bytes maxL rt n0 h0 ws) (hd : decode bytes pc = .ok (.land, 1)) (hp : pc + 1 = pc') (kk : G p l e R s m args below meth c n0 h0 ws Q Fe cells slots h (mkF m pc' ls (.long (x &&& y) :: st))) : G p l e R s m args below meth c n0 h0 ws Q Fe cells slots h (mkF m pc ls (.long y :: .long x :: st)) := by
  subst hp
  exact G.stepX (fun T locs k n t X _ q => XS.land X.here B.1.1 rfl (hb B.1.2.1 hd) rfl q) kk
theorem G.ior {x y : Int32} (B : Cx p s m meth c Z own nm bytes maxL rt n0 h0 ws) (hd : decode bytes pc = .ok (.ior, 1)) (hp : pc + 1 = pc') (kk : G p l e R s m args below meth c n0 h0 ws Q Fe cells slots h (mkF m pc' ls (.int (x ||| y) :: st))) : G p l e R s m args below meth c n0 h0 ws Q Fe cells slots h (mkF m pc ls (.int y :: .int x :: st)) := by
  subst hp
  exact G.stepX (fun T locs k n t X _ q => XS.ior X.here B.1.1 rfl (hb B.1.2.1 hd) rfl q) kk
theorem G.lor {x y : Int64} (B : Cx p s m meth c Z own nm bytes maxL rt n0 h0 ws) (hd : decode bytes pc = .ok (.lor, 1)) (hp : pc + 1 = pc') (kk : G p l e R s m args below meth c n0 h0 ws Q Fe cells slots h (mkF m pc' ls (.long (x ||| y) :: st))) : G p l e R s m args below meth c n0 h0 ws Q Fe cells slots h (mkF m pc ls (.long y :: .long x :: st)) := by
  subst hp
  exact G.stepX (fun T locs k n t X _ q => XS.lor X.here B.1.1 rfl (hb B.1.2.1 hd) rfl q) kk
theorem G.ixor {x y : Int32} (B : Cx p s m meth c Z own nm bytes maxL rt n0 h0 ws) (hd : decode bytes pc = .ok (.ixor, 1)) (hp : pc + 1 = pc') (kk : G p l e R s m args below meth c n0 h0 ws Q Fe cells slots h (mkF m pc' ls (.int (x ^^^ y) :: st))) : G p l e R s m args below meth c n0 h0 ws Q Fe cells slots h (mkF m pc ls (.int y :: .int x :: st)) := by
  subst hp
  exact G.stepX (fun T locs k n t X _ q => XS.ixor X.here B.1.1 rfl (hb B.1.2.1 hd) rfl q) kk
theorem G.lxor {x y : Int64} (B : Cx p s m meth c Z own nm bytes maxL rt n0 h0 ws) (hd : decode bytes pc = .ok (.lxor, 1)) (hp : pc + 1 = pc') (kk : G p l e R s m args below meth c n0 h0 ws Q Fe cells slots h (mkF m pc' ls (.long (x ^^^ y) :: st))) : G p l e R s m args below meth c n0 h0 ws Q Fe cells slots h (mkF m pc ls (.long y :: .long x :: st)) := by
  subst hp
  exact G.stepX (fun T locs k n t X _ q => XS.lxor X.here B.1.1 rfl (hb B.1.2.1 hd) rfl q) kk
theorem G.idiv {x y : Int32} (B : Cx p s m meth c Z own nm bytes maxL rt n0 h0 ws) (hd : decode bytes pc = .ok (.idiv, 1)) (hy : y ≠ 0) (hp : pc + 1 = pc') (kk : G p l e R s m args below meth c n0 h0 ws Q Fe cells slots h (mkF m pc' ls (.int (x / y) :: st))) : G p l e R s m args below meth c n0 h0 ws Q Fe cells slots h (mkF m pc ls (.int y :: .int x :: st)) := by
  subst hp
  exact G.stepX (fun T locs k n t X _ q => XS.idiv X.here B.1.1 rfl (hb B.1.2.1 hd) rfl hy q) kk
theorem G.irem {x y : Int32} (B : Cx p s m meth c Z own nm bytes maxL rt n0 h0 ws) (hd : decode bytes pc = .ok (.irem, 1)) (hy : y ≠ 0) (hp : pc + 1 = pc') (kk : G p l e R s m args below meth c n0 h0 ws Q Fe cells slots h (mkF m pc' ls (.int (x % y) :: st))) : G p l e R s m args below meth c n0 h0 ws Q Fe cells slots h (mkF m pc ls (.int y :: .int x :: st)) := by
  subst hp
  exact G.stepX (fun T locs k n t X _ q => Jvm.RoadKit.iremM X B.1.1 rfl (hb B.1.2.1 hd) rfl hy q) kk
theorem G.ldiv {x y : Int64} (B : Cx p s m meth c Z own nm bytes maxL rt n0 h0 ws) (hd : decode bytes pc = .ok (.ldiv, 1)) (hy : y ≠ 0) (hp : pc + 1 = pc') (kk : G p l e R s m args below meth c n0 h0 ws Q Fe cells slots h (mkF m pc' ls (.long (x / y) :: st))) : G p l e R s m args below meth c n0 h0 ws Q Fe cells slots h (mkF m pc ls (.long y :: .long x :: st)) := by
  subst hp
  exact G.stepX (fun T locs k n t X _ q => XS.ldiv X.here B.1.1 rfl (hb B.1.2.1 hd) rfl hy q) kk
theorem G.lrem {x y : Int64} (B : Cx p s m meth c Z own nm bytes maxL rt n0 h0 ws) (hd : decode bytes pc = .ok (.lrem, 1)) (hy : y ≠ 0) (hp : pc + 1 = pc') (kk : G p l e R s m args below meth c n0 h0 ws Q Fe cells slots h (mkF m pc' ls (.long (x % y) :: st))) : G p l e R s m args below meth c n0 h0 ws Q Fe cells slots h (mkF m pc ls (.long y :: .long x :: st)) := by
  subst hp
  rw [← lrem_mod] at kk
  exact G.stepX (fun T locs k n t X _ q => XS.lrem X.here B.1.1 rfl (hb B.1.2.1 hd) rfl hy q) kk
theorem G.ishl {x y : Int32} (B : Cx p s m meth c Z own nm bytes maxL rt n0 h0 ws) (hd : decode bytes pc = .ok (.ishl, 1)) (hp : pc + 1 = pc') (kk : G p l e R s m args below meth c n0 h0 ws Q Fe cells slots h (mkF m pc' ls (.int (x <<< (y &&& 31)) :: st))) : G p l e R s m args below meth c n0 h0 ws Q Fe cells slots h (mkF m pc ls (.int y :: .int x :: st)) := by
  subst hp
  exact G.stepX (fun T locs k n t X _ q => XS.ishl X.here B.1.1 rfl (hb B.1.2.1 hd) rfl q) kk
theorem G.ishr {x y : Int32} (B : Cx p s m meth c Z own nm bytes maxL rt n0 h0 ws) (hd : decode bytes pc = .ok (.ishr, 1)) (hp : pc + 1 = pc') (kk : G p l e R s m args below meth c n0 h0 ws Q Fe cells slots h (mkF m pc' ls (.int (x >>> (y &&& 31)) :: st))) : G p l e R s m args below meth c n0 h0 ws Q Fe cells slots h (mkF m pc ls (.int y :: .int x :: st)) := by
  subst hp
  exact G.stepX (fun T locs k n t X _ q => XS.ishr X.here B.1.1 rfl (hb B.1.2.1 hd) rfl q) kk
theorem G.iushr {x y : Int32} (B : Cx p s m meth c Z own nm bytes maxL rt n0 h0 ws) (hd : decode bytes pc = .ok (.iushr, 1)) (hp : pc + 1 = pc') (kk : G p l e R s m args below meth c n0 h0 ws Q Fe cells slots h (mkF m pc' ls (.int ((x.toUInt32 >>> (y &&& 31).toUInt32).toInt32) :: st))) : G p l e R s m args below meth c n0 h0 ws Q Fe cells slots h (mkF m pc ls (.int y :: .int x :: st)) := by
  subst hp
  exact G.stepX (fun T locs k n t X _ q => XS.iushr X.here B.1.1 rfl (hb B.1.2.1 hd) rfl q) kk
theorem G.lshl {x : Int64} {y : Int32} (B : Cx p s m meth c Z own nm bytes maxL rt n0 h0 ws) (hd : decode bytes pc = .ok (.lshl, 1)) (hp : pc + 1 = pc') (kk : G p l e R s m args below meth c n0 h0 ws Q Fe cells slots h (mkF m pc' ls (.long (x <<< (y &&& 0x3f).toInt64) :: st))) : G p l e R s m args below meth c n0 h0 ws Q Fe cells slots h (mkF m pc ls (.int y :: .long x :: st)) := by
  subst hp
  exact G.stepX (fun T locs k n t X _ q => XS.lshl X.here B.1.1 rfl (hb B.1.2.1 hd) rfl q) kk
theorem G.lshr {x : Int64} {y : Int32} (B : Cx p s m meth c Z own nm bytes maxL rt n0 h0 ws) (hd : decode bytes pc = .ok (.lshr, 1)) (hp : pc + 1 = pc') (kk : G p l e R s m args below meth c n0 h0 ws Q Fe cells slots h (mkF m pc' ls (.long (x >>> (y &&& 0x3f).toInt64) :: st))) : G p l e R s m args below meth c n0 h0 ws Q Fe cells slots h (mkF m pc ls (.int y :: .long x :: st)) := by
  subst hp
  exact G.stepX (fun T locs k n t X _ q => XS.lshr X.here B.1.1 rfl (hb B.1.2.1 hd) rfl q) kk
theorem G.lushr {x : Int64} {y : Int32} (B : Cx p s m meth c Z own nm bytes maxL rt n0 h0 ws) (hd : decode bytes pc = .ok (.lushr, 1)) (hp : pc + 1 = pc') (kk : G p l e R s m args below meth c n0 h0 ws Q Fe cells slots h (mkF m pc' ls (.long ((x.toUInt64 >>> (y &&& 0x3f).toInt64.toUInt64).toInt64) :: st))) : G p l e R s m args below meth c n0 h0 ws Q Fe cells slots h (mkF m pc ls (.int y :: .long x :: st)) := by
  subst hp
  exact G.stepX (fun T locs k n t X _ q => XS.lushr X.here B.1.1 rfl (hb B.1.2.1 hd) rfl q) kk
theorem G.ineg {x : Int32} (B : Cx p s m meth c Z own nm bytes maxL rt n0 h0 ws) (hd : decode bytes pc = .ok (.ineg, 1)) (hp : pc + 1 = pc') (kk : G p l e R s m args below meth c n0 h0 ws Q Fe cells slots h (mkF m pc' ls (.int (-x) :: st))) : G p l e R s m args below meth c n0 h0 ws Q Fe cells slots h (mkF m pc ls (.int x :: st)) := by
  subst hp
  exact G.stepX (fun T locs k n t X _ q => XS.ineg X.here B.1.1 rfl (hb B.1.2.1 hd) rfl q) kk
theorem G.lneg {x : Int64} (B : Cx p s m meth c Z own nm bytes maxL rt n0 h0 ws) (hd : decode bytes pc = .ok (.lneg, 1)) (hp : pc + 1 = pc') (kk : G p l e R s m args below meth c n0 h0 ws Q Fe cells slots h (mkF m pc' ls (.long (-x) :: st))) : G p l e R s m args below meth c n0 h0 ws Q Fe cells slots h (mkF m pc ls (.long x :: st)) := by
  subst hp
  exact G.stepX (fun T locs k n t X _ q => XS.lneg X.here B.1.1 rfl (hb B.1.2.1 hd) rfl q) kk
theorem G.i2l {x : Int32} (B : Cx p s m meth c Z own nm bytes maxL rt n0 h0 ws) (hd : decode bytes pc = .ok (.i2l, 1)) (hp : pc + 1 = pc') (kk : G p l e R s m args below meth c n0 h0 ws Q Fe cells slots h (mkF m pc' ls (.long x.toInt64 :: st))) : G p l e R s m args below meth c n0 h0 ws Q Fe cells slots h (mkF m pc ls (.int x :: st)) := by
  subst hp
  exact G.stepX (fun T locs k n t X _ q => XS.i2l X.here B.1.1 rfl (hb B.1.2.1 hd) rfl q) kk
theorem G.l2i {x : Int64} (B : Cx p s m meth c Z own nm bytes maxL rt n0 h0 ws) (hd : decode bytes pc = .ok (.l2i, 1)) (hp : pc + 1 = pc') (kk : G p l e R s m args below meth c n0 h0 ws Q Fe cells slots h (mkF m pc' ls (.int x.toInt32 :: st))) : G p l e R s m args below meth c n0 h0 ws Q Fe cells slots h (mkF m pc ls (.long x :: st)) := by
  subst hp
  exact G.stepX (fun T locs k n t X _ q => XS.l2i X.here B.1.1 rfl (hb B.1.2.1 hd) rfl q) kk
theorem G.i2b {x : Int32} (B : Cx p s m meth c Z own nm bytes maxL rt n0 h0 ws) (hd : decode bytes pc = .ok (.i2b, 1)) (hp : pc + 1 = pc') (kk : G p l e R s m args below meth c n0 h0 ws Q Fe cells slots h (mkF m pc' ls (.int x.toInt8.toInt32 :: st))) : G p l e R s m args below meth c n0 h0 ws Q Fe cells slots h (mkF m pc ls (.int x :: st)) := by
  subst hp
  exact G.stepX (fun T locs k n t X _ q => XS.i2b X.here B.1.1 rfl (hb B.1.2.1 hd) rfl q) kk
theorem G.i2s {x : Int32} (B : Cx p s m meth c Z own nm bytes maxL rt n0 h0 ws) (hd : decode bytes pc = .ok (.i2s, 1)) (hp : pc + 1 = pc') (kk : G p l e R s m args below meth c n0 h0 ws Q Fe cells slots h (mkF m pc' ls (.int x.toInt16.toInt32 :: st))) : G p l e R s m args below meth c n0 h0 ws Q Fe cells slots h (mkF m pc ls (.int x :: st)) := by
  subst hp
  exact G.stepX (fun T locs k n t X _ q => XS.i2s X.here B.1.1 rfl (hb B.1.2.1 hd) rfl q) kk
theorem G.i2c {x : Int32} (B : Cx p s m meth c Z own nm bytes maxL rt n0 h0 ws) (hd : decode bytes pc = .ok (.i2c, 1)) (hp : pc + 1 = pc') (kk : G p l e R s m args below meth c n0 h0 ws Q Fe cells slots h (mkF m pc' ls (.int x.toUInt32.toUInt16.toUInt32.toInt32 :: st))) : G p l e R s m args below meth c n0 h0 ws Q Fe cells slots h (mkF m pc ls (.int x :: st)) := by
  subst hp
  exact G.stepX (fun T locs k n t X _ q => XS.i2c X.here B.1.1 rfl (hb B.1.2.1 hd) rfl q) kk
theorem G.lcmp {x y : Int64} (B : Cx p s m meth c Z own nm bytes maxL rt n0 h0 ws) (hd : decode bytes pc = .ok (.lcmp, 1)) (hp : pc + 1 = pc') (kk : G p l e R s m args below meth c n0 h0 ws Q Fe cells slots h (mkF m pc' ls (.int (lcmpW x y) :: st))) : G p l e R s m args below meth c n0 h0 ws Q Fe cells slots h (mkF m pc ls (.long y :: .long x :: st)) := by
  subst hp
  exact G.stepX (fun T locs k n t X _ q => XS.lcmp X.here B.1.1 rfl (hb B.1.2.1 hd) rfl q) kk
theorem G.iinc {k : Nat} {cst : Int} {x z : Int32} (B : Cx p s m meth c Z own nm bytes maxL rt n0 h0 ws) (hd : decode bytes pc = .ok (.iinc k cst, 3)) (hl : ls[k]? = some (.val (.int x))) (hz : x + Int32.ofInt cst = z) (hl' : storeLocals ls k (.int z) = some ls') (hp : pc + 3 = pc') (kk : G p l e R s m args below meth c n0 h0 ws Q Fe cells slots h (mkF m pc' ls' st)) : G p l e R s m args below meth c n0 h0 ws Q Fe cells slots h (mkF m pc ls st) := by
  subst hp
  exact G.stepX (fun T locs k n t X _ q => XS.iinc X.here B.1.1 rfl (hb B.1.2.1 hd) hl (by rw [hz]; exact hl') q) kk
theorem G.dup {v : Value} (B : Cx p s m meth c Z own nm bytes maxL rt n0 h0 ws) (hd : decode bytes pc = .ok (.dup, 1)) (hc : v.category = 1) (hp : pc + 1 = pc') (kk : G p l e R s m args below meth c n0 h0 ws Q Fe cells slots h (mkF m pc' ls (v :: v :: st))) : G p l e R s m args below meth c n0 h0 ws Q Fe cells slots h (mkF m pc ls (v :: st)) := by
  subst hp
  exact G.stepX (fun T locs k n t X _ q => XS.dup X.here B.1.1 rfl (hb B.1.2.1 hd) rfl hc q) kk
theorem G.pop {v : Value} (B : Cx p s m meth c Z own nm bytes maxL rt n0 h0 ws) (hd : decode bytes pc = .ok (.pop, 1)) (hc : v.category = 1) (hp : pc + 1 = pc') (kk : G p l e R s m args below meth c n0 h0 ws Q Fe cells slots h (mkF m pc' ls st)) : G p l e R s m args below meth c n0 h0 ws Q Fe cells slots h (mkF m pc ls (v :: st)) := by
  subst hp
  exact G.stepX (fun T locs k n t X _ q => XS.pop X.here B.1.1 rfl (hb B.1.2.1 hd) rfl hc q) kk
theorem G.dupX1 {v w : Value} (B : Cx p s m meth c Z own nm bytes maxL rt n0 h0 ws) (hd : decode bytes pc = .ok (.dup_x1, 1)) (hc : v.category = 1) (hc' : w.category = 1) (hp : pc + 1 = pc') (kk : G p l e R s m args below meth c n0 h0 ws Q Fe cells slots h (mkF m pc' ls (v :: w :: v :: st))) : G p l e R s m args below meth c n0 h0 ws Q Fe cells slots h (mkF m pc ls (v :: w :: st)) := by
  subst hp
  exact G.stepX (fun T locs k n t X _ q => XS.dupX1 X.here B.1.1 rfl (hb B.1.2.1 hd) rfl hc hc' q) kk
theorem G.dup2 {v w : Value} (B : Cx p s m meth c Z own nm bytes maxL rt n0 h0 ws) (hd : decode bytes pc = .ok (.dup2, 1)) (hc : v.category = 1) (hc' : w.category = 1) (hp : pc + 1 = pc') (kk : G p l e R s m args below meth c n0 h0 ws Q Fe cells slots h (mkF m pc' ls (v :: w :: v :: w :: st))) : G p l e R s m args below meth c n0 h0 ws Q Fe cells slots h (mkF m pc ls (v :: w :: st)) := by
  subst hp
  exact G.stepX (fun T locs k n t X _ q => XT.dup2 X.here B.1.1 rfl (hb B.1.2.1 hd) rfl hc hc' q) kk
theorem G.goto {o : Int} (B : Cx p s m meth c Z own nm bytes maxL rt n0 h0 ws) (hd : decode bytes pc = .ok (.goto o, 3)) (ho : 0 ≤ (pc : Int) + o) (hp : ((pc : Int) + o).toNat = pc') (kk : G p l e R s m args below meth c n0 h0 ws Q Fe cells slots h (mkF m pc' ls st)) : G p l e R s m args below meth c n0 h0 ws Q Fe cells slots h (mkF m pc ls st) := by
  exact G.stepX (fun T locs k n t X _ q => XS.goto X.here B.1.1 rfl (pc0 := pc) (pc' := pc') rfl (hb B.1.2.1 hd) ho hp q) kk
theorem own_nlt {x y : Int32} (h : y.toInt ≤ x.toInt) : ¬ x < y := fun q => by rw [Int32.lt_iff_toInt_lt] at q; omega
theorem own_ylt {x y : Int32} (h : x.toInt < y.toInt) : x < y := Int32.lt_iff_toInt_lt.mpr h
theorem G.icmp_eq {x y : Int32} {o : Int} {pcT : Nat} (B : Cx p s m meth c Z own nm bytes maxL rt n0 h0 ws) (hd : decode bytes pc = .ok (.if_icmp .eq o, 3)) (ho : 0 ≤ (pc : Int) + o) (hT : ((pc : Int) + o).toNat = pcT) (hp : pc + 3 = pc') (k1 : x = y → G p l e R s m args below meth c n0 h0 ws Q Fe cells slots h (mkF m pcT ls st)) (k2 : x ≠ y → G p l e R s m args below meth c n0 h0 ws Q Fe cells slots h (mkF m pc' ls st)) : G p l e R s m args below meth c n0 h0 ws Q Fe cells slots h (mkF m pc ls (.int y :: .int x :: st)) := by
  subst hp
  by_cases h : x = y
  · exact G.stepX (fun T locs k n t X _ q => XS.icmpYes X.here B.1.1 rfl (pc0 := pc) (pc' := pcT) rfl (hb B.1.2.1 hd) rfl (teq h).1 ho hT q) (k1 h)
  · exact G.stepX (fun T locs k n t X _ q => XS.icmpNo X.here B.1.1 rfl (hb B.1.2.1 hd) rfl (feq h).1 q) (k2 h)
theorem G.if_eq {x : Int32} {o : Int} {pcT : Nat} (B : Cx p s m meth c Z own nm bytes maxL rt n0 h0 ws) (hd : decode bytes pc = .ok (.ifCond .eq o, 3)) (ho : 0 ≤ (pc : Int) + o) (hT : ((pc : Int) + o).toNat = pcT) (hp : pc + 3 = pc') (k1 : x = 0 → G p l e R s m args below meth c n0 h0 ws Q Fe cells slots h (mkF m pcT ls st)) (k2 : x ≠ 0 → G p l e R s m args below meth c n0 h0 ws Q Fe cells slots h (mkF m pc' ls st)) : G p l e R s m args below meth c n0 h0 ws Q Fe cells slots h (mkF m pc ls (.int x :: st)) := by
  subst hp
  by_cases h : x = 0
  · exact G.stepX (fun T locs k n t X _ q => XS.ifYes X.here B.1.1 rfl (pc0 := pc) (pc' := pcT) rfl (hb B.1.2.1 hd) rfl ((if0 _ _).trans (teq h).1) ho hT q) (k1 h)
  · exact G.stepX (fun T locs k n t X _ q => XS.ifNo X.here B.1.1 rfl (hb B.1.2.1 hd) rfl ((if0 _ _).trans (feq h).1) q) (k2 h)
theorem G.lcmp_eq {x y : Int64} {o : Int} {pc1 pcT : Nat} (B : Cx p s m meth c Z own nm bytes maxL rt n0 h0 ws) (hd0 : decode bytes pc = .ok (.lcmp, 1)) (hp0 : pc + 1 = pc1) (hd : decode bytes pc1 = .ok (.ifCond .eq o, 3)) (ho : 0 ≤ (pc1 : Int) + o) (hT : ((pc1 : Int) + o).toNat = pcT) (hp : pc1 + 3 = pc') (k1 : x = y → G p l e R s m args below meth c n0 h0 ws Q Fe cells slots h (mkF m pcT ls st)) (k2 : x ≠ y → G p l e R s m args below meth c n0 h0 ws Q Fe cells slots h (mkF m pc' ls st)) : G p l e R s m args below meth c n0 h0 ws Q Fe cells slots h (mkF m pc ls (.long y :: .long x :: st)) :=
  G.lcmp B hd0 hp0 (G.if_eq B hd ho hT hp (fun q => k1 ((lw_eq x y).mp q)) (fun q => k2 (fun r => q ((lw_eq x y).mpr r))))
theorem G.icmp_ne {x y : Int32} {o : Int} {pcT : Nat} (B : Cx p s m meth c Z own nm bytes maxL rt n0 h0 ws) (hd : decode bytes pc = .ok (.if_icmp .ne o, 3)) (ho : 0 ≤ (pc : Int) + o) (hT : ((pc : Int) + o).toNat = pcT) (hp : pc + 3 = pc') (k1 : x ≠ y → G p l e R s m args below meth c n0 h0 ws Q Fe cells slots h (mkF m pcT ls st)) (k2 : x = y → G p l e R s m args below meth c n0 h0 ws Q Fe cells slots h (mkF m pc' ls st)) : G p l e R s m args below meth c n0 h0 ws Q Fe cells slots h (mkF m pc ls (.int y :: .int x :: st)) := by
  subst hp
  by_cases h : x ≠ y
  · exact G.stepX (fun T locs k n t X _ q => XS.icmpYes X.here B.1.1 rfl (pc0 := pc) (pc' := pcT) rfl (hb B.1.2.1 hd) rfl (feq h).2 ho hT q) (k1 h)
  · replace h : x = y := Decidable.of_not_not h
    exact G.stepX (fun T locs k n t X _ q => XS.icmpNo X.here B.1.1 rfl (hb B.1.2.1 hd) rfl (teq h).2 q) (k2 h)
theorem G.if_ne {x : Int32} {o : Int} {pcT : Nat} (B : Cx p s m meth c Z own nm bytes maxL rt n0 h0 ws) (hd : decode bytes pc = .ok (.ifCond .ne o, 3)) (ho : 0 ≤ (pc : Int) + o) (hT : ((pc : Int) + o).toNat = pcT) (hp : pc + 3 = pc') (k1 : x ≠ 0 → G p l e R s m args below meth c n0 h0 ws Q Fe cells slots h (mkF m pcT ls st)) (k2 : x = 0 → G p l e R s m args below meth c n0 h0 ws Q Fe cells slots h (mkF m pc' ls st)) : G p l e R s m args below meth c n0 h0 ws Q Fe cells slots h (mkF m pc ls (.int x :: st)) := by
  subst hp
  by_cases h : x ≠ 0
  · exact G.stepX (fun T locs k n t X _ q => XS.ifYes X.here B.1.1 rfl (pc0 := pc) (pc' := pcT) rfl (hb B.1.2.1 hd) rfl ((if0 _ _).trans (feq h).2) ho hT q) (k1 h)
  · replace h : x = 0 := Decidable.of_not_not h
    exact G.stepX (fun T locs k n t X _ q => XS.ifNo X.here B.1.1 rfl (hb B.1.2.1 hd) rfl ((if0 _ _).trans (teq h).2) q) (k2 h)
theorem G.lcmp_ne {x y : Int64} {o : Int} {pc1 pcT : Nat} (B : Cx p s m meth c Z own nm bytes maxL rt n0 h0 ws) (hd0 : decode bytes pc = .ok (.lcmp, 1)) (hp0 : pc + 1 = pc1) (hd : decode bytes pc1 = .ok (.ifCond .ne o, 3)) (ho : 0 ≤ (pc1 : Int) + o) (hT : ((pc1 : Int) + o).toNat = pcT) (hp : pc1 + 3 = pc') (k1 : x ≠ y → G p l e R s m args below meth c n0 h0 ws Q Fe cells slots h (mkF m pcT ls st)) (k2 : x = y → G p l e R s m args below meth c n0 h0 ws Q Fe cells slots h (mkF m pc' ls st)) : G p l e R s m args below meth c n0 h0 ws Q Fe cells slots h (mkF m pc ls (.long y :: .long x :: st)) :=
  G.lcmp B hd0 hp0 (G.if_ne B hd ho hT hp (fun q => k1 (fun r => q ((lw_eq x y).mpr r))) (fun q => k2 ((lw_eq x y).mp q)))
theorem G.icmp_lt {x y : Int32} {o : Int} {pcT : Nat} (B : Cx p s m meth c Z own nm bytes maxL rt n0 h0 ws) (hd : decode bytes pc = .ok (.if_icmp .lt o, 3)) (ho : 0 ≤ (pc : Int) + o) (hT : ((pc : Int) + o).toNat = pcT) (hp : pc + 3 = pc') (k1 : x.toInt < y.toInt → G p l e R s m args below meth c n0 h0 ws Q Fe cells slots h (mkF m pcT ls st)) (k2 : y.toInt ≤ x.toInt → G p l e R s m args below meth c n0 h0 ws Q Fe cells slots h (mkF m pc' ls st)) : G p l e R s m args below meth c n0 h0 ws Q Fe cells slots h (mkF m pc ls (.int y :: .int x :: st)) := by
  subst hp
  by_cases h : x.toInt < y.toInt
  · exact G.stepX (fun T locs k n t X _ q => XS.icmpYes X.here B.1.1 rfl (pc0 := pc) (pc' := pcT) rfl (hb B.1.2.1 hd) rfl (tlt (own_ylt h)).1 ho hT q) (k1 h)
  · replace h := Int.not_lt.mp h
    exact G.stepX (fun T locs k n t X _ q => XS.icmpNo X.here B.1.1 rfl (hb B.1.2.1 hd) rfl (flt (own_nlt h)).1 q) (k2 h)
theorem G.if_lt {x : Int32} {o : Int} {pcT : Nat} (B : Cx p s m meth c Z own nm bytes maxL rt n0 h0 ws) (hd : decode bytes pc = .ok (.ifCond .lt o, 3)) (ho : 0 ≤ (pc : Int) + o) (hT : ((pc : Int) + o).toNat = pcT) (hp : pc + 3 = pc') (k1 : x.toInt < 0 → G p l e R s m args below meth c n0 h0 ws Q Fe cells slots h (mkF m pcT ls st)) (k2 : 0 ≤ x.toInt → G p l e R s m args below meth c n0 h0 ws Q Fe cells slots h (mkF m pc' ls st)) : G p l e R s m args below meth c n0 h0 ws Q Fe cells slots h (mkF m pc ls (.int x :: st)) := by
  subst hp
  by_cases h : x.toInt < 0
  · exact G.stepX (fun T locs k n t X _ q => XS.ifYes X.here B.1.1 rfl (pc0 := pc) (pc' := pcT) rfl (hb B.1.2.1 hd) rfl ((if0 _ _).trans (tlt (own_ylt (y := 0) h)).1) ho hT q) (k1 h)
  · replace h := Int.not_lt.mp h
    exact G.stepX (fun T locs k n t X _ q => XS.ifNo X.here B.1.1 rfl (hb B.1.2.1 hd) rfl ((if0 _ _).trans (flt (own_nlt (y := 0) h)).1) q) (k2 h)
theorem G.lcmp_lt {x y : Int64} {o : Int} {pc1 pcT : Nat} (B : Cx p s m meth c Z own nm bytes maxL rt n0 h0 ws) (hd0 : decode bytes pc = .ok (.lcmp, 1)) (hp0 : pc + 1 = pc1) (hd : decode bytes pc1 = .ok (.ifCond .lt o, 3)) (ho : 0 ≤ (pc1 : Int) + o) (hT : ((pc1 : Int) + o).toNat = pcT) (hp : pc1 + 3 = pc') (k1 : x.toInt < y.toInt → G p l e R s m args below meth c n0 h0 ws Q Fe cells slots h (mkF m pcT ls st)) (k2 : y.toInt ≤ x.toInt → G p l e R s m args below meth c n0 h0 ws Q Fe cells slots h (mkF m pc' ls st)) : G p l e R s m args below meth c n0 h0 ws Q Fe cells slots h (mkF m pc ls (.long y :: .long x :: st)) :=
  G.lcmp B hd0 hp0 (G.if_lt B hd ho hT hp (fun q => k1 (by have := c_lcmp x y; omega)) (fun q => k2 (by have := c_lcmp x y; omega)))
theorem G.icmp_ge {x y : Int32} {o : Int} {pcT : Nat} (B : Cx p s m meth c Z own nm bytes maxL rt n0 h0 ws) (hd : decode bytes pc = .ok (.if_icmp .ge o, 3)) (ho : 0 ≤ (pc : Int) + o) (hT : ((pc : Int) + o).toNat = pcT) (hp : pc + 3 = pc') (k1 : y.toInt ≤ x.toInt → G p l e R s m args below meth c n0 h0 ws Q Fe cells slots h (mkF m pcT ls st)) (k2 : x.toInt < y.toInt → G p l e R s m args below meth c n0 h0 ws Q Fe cells slots h (mkF m pc' ls st)) : G p l e R s m args below meth c n0 h0 ws Q Fe cells slots h (mkF m pc ls (.int y :: .int x :: st)) := by
  subst hp
  by_cases h : y.toInt ≤ x.toInt
  · exact G.stepX (fun T locs k n t X _ q => XS.icmpYes X.here B.1.1 rfl (pc0 := pc) (pc' := pcT) rfl (hb B.1.2.1 hd) rfl (flt (own_nlt h)).2.1 ho hT q) (k1 h)
  · replace h := Int.not_le.mp h
    exact G.stepX (fun T locs k n t X _ q => XS.icmpNo X.here B.1.1 rfl (hb B.1.2.1 hd) rfl (tlt (own_ylt h)).2.1 q) (k2 h)
theorem G.if_ge {x : Int32} {o : Int} {pcT : Nat} (B : Cx p s m meth c Z own nm bytes maxL rt n0 h0 ws) (hd : decode bytes pc = .ok (.ifCond .ge o, 3)) (ho : 0 ≤ (pc : Int) + o) (hT : ((pc : Int) + o).toNat = pcT) (hp : pc + 3 = pc') (k1 : 0 ≤ x.toInt → G p l e R s m args below meth c n0 h0 ws Q Fe cells slots h (mkF m pcT ls st)) (k2 : x.toInt < 0 → G p l e R s m args below meth c n0 h0 ws Q Fe cells slots h (mkF m pc' ls st)) : G p l e R s m args below meth c n0 h0 ws Q Fe cells slots h (mkF m pc ls (.int x :: st)) := by
  subst hp
  by_cases h : 0 ≤ x.toInt
  · exact G.stepX (fun T locs k n t X _ q => XS.ifYes X.here B.1.1 rfl (pc0 := pc) (pc' := pcT) rfl (hb B.1.2.1 hd) rfl ((if0 _ _).trans (flt (own_nlt (y := 0) h)).2.1) ho hT q) (k1 h)
  · replace h := Int.not_le.mp h
    exact G.stepX (fun T locs k n t X _ q => XS.ifNo X.here B.1.1 rfl (hb B.1.2.1 hd) rfl ((if0 _ _).trans (tlt (own_ylt (y := 0) h)).2.1) q) (k2 h)
theorem G.lcmp_ge {x y : Int64} {o : Int} {pc1 pcT : Nat} (B : Cx p s m meth c Z own nm bytes maxL rt n0 h0 ws) (hd0 : decode bytes pc = .ok (.lcmp, 1)) (hp0 : pc + 1 = pc1) (hd : decode bytes pc1 = .ok (.ifCond .ge o, 3)) (ho : 0 ≤ (pc1 : Int) + o) (hT : ((pc1 : Int) + o).toNat = pcT) (hp : pc1 + 3 = pc') (k1 : y.toInt ≤ x.toInt → G p l e R s m args below meth c n0 h0 ws Q Fe cells slots h (mkF m pcT ls st)) (k2 : x.toInt < y.toInt → G p l e R s m args below meth c n0 h0 ws Q Fe cells slots h (mkF m pc' ls st)) : G p l e R s m args below meth c n0 h0 ws Q Fe cells slots h (mkF m pc ls (.long y :: .long x :: st)) :=
  G.lcmp B hd0 hp0 (G.if_ge B hd ho hT hp (fun q => k1 (by have := c_lcmp x y; omega)) (fun q => k2 (by have := c_lcmp x y; omega)))
theorem G.icmp_gt {x y : Int32} {o : Int} {pcT : Nat} (B : Cx p s m meth c Z own nm bytes maxL rt n0 h0 ws) (hd : decode bytes pc = .ok (.if_icmp .gt o, 3)) (ho : 0 ≤ (pc : Int) + o) (hT : ((pc : Int) + o).toNat = pcT) (hp : pc + 3 = pc') (k1 : y.toInt < x.toInt → G p l e R s m args below meth c n0 h0 ws Q Fe cells slots h (mkF m pcT ls st)) (k2 : x.toInt ≤ y.toInt → G p l e R s m args below meth c n0 h0 ws Q Fe cells slots h (mkF m pc' ls st)) : G p l e R s m args below meth c n0 h0 ws Q Fe cells slots h (mkF m pc ls (.int y :: .int x :: st)) := by
  subst hp
  by_cases h : y.toInt < x.toInt
  · exact G.stepX (fun T locs k n t X _ q => XS.icmpYes X.here B.1.1 rfl (pc0 := pc) (pc' := pcT) rfl (hb B.1.2.1 hd) rfl (tlt (own_ylt h)).2.2.1 ho hT q) (k1 h)
  · replace h := Int.not_lt.mp h
    exact G.stepX (fun T locs k n t X _ q => XS.icmpNo X.here B.1.1 rfl (hb B.1.2.1 hd) rfl (flt (own_nlt h)).2.2.1 q) (k2 h)
theorem G.if_gt {x : Int32} {o : Int} {pcT : Nat} (B : Cx p s m meth c Z own nm bytes maxL rt n0 h0 ws) (hd : decode bytes pc = .ok (.ifCond .gt o, 3)) (ho : 0 ≤ (pc : Int) + o) (hT : ((pc : Int) + o).toNat = pcT) (hp : pc + 3 = pc') (k1 : 0 < x.toInt → G p l e R s m args below meth c n0 h0 ws Q Fe cells slots h (mkF m pcT ls st)) (k2 : x.toInt ≤ 0 → G p l e R s m args below meth c n0 h0 ws Q Fe cells slots h (mkF m pc' ls st)) : G p l e R s m args below meth c n0 h0 ws Q Fe cells slots h (mkF m pc ls (.int x :: st)) := by
  subst hp
  by_cases h : 0 < x.toInt
  · exact G.stepX (fun T locs k n t X _ q => XS.ifYes X.here B.1.1 rfl (pc0 := pc) (pc' := pcT) rfl (hb B.1.2.1 hd) rfl ((if0 _ _).trans (tlt (own_ylt (x := 0) h)).2.2.1) ho hT q) (k1 h)
  · replace h := Int.not_lt.mp h
    exact G.stepX (fun T locs k n t X _ q => XS.ifNo X.here B.1.1 rfl (hb B.1.2.1 hd) rfl ((if0 _ _).trans (flt (own_nlt (x := 0) h)).2.2.1) q) (k2 h)
theorem G.lcmp_gt {x y : Int64} {o : Int} {pc1 pcT : Nat} (B : Cx p s m meth c Z own nm bytes maxL rt n0 h0 ws) (hd0 : decode bytes pc = .ok (.lcmp, 1)) (hp0 : pc + 1 = pc1) (hd : decode bytes pc1 = .ok (.ifCond .gt o, 3)) (ho : 0 ≤ (pc1 : Int) + o) (hT : ((pc1 : Int) + o).toNat = pcT) (hp : pc1 + 3 = pc') (k1 : y.toInt < x.toInt → G p l e R s m args below meth c n0 h0 ws Q Fe cells slots h (mkF m pcT ls st)) (k2 : x.toInt ≤ y.toInt → G p l e R s m args below meth c n0 h0 ws Q Fe cells slots h (mkF m pc' ls st)) : G p l e R s m args below meth c n0 h0 ws Q Fe cells slots h (mkF m pc ls (.long y :: .long x :: st)) :=
  G.lcmp B hd0 hp0 (G.if_gt B hd ho hT hp (fun q => k1 (by have := c_lcmp x y; omega)) (fun q => k2 (by have := c_lcmp x y; omega)))
theorem G.icmp_le {x y : Int32} {o : Int} {pcT : Nat} (B : Cx p s m meth c Z own nm bytes maxL rt n0 h0 ws) (hd : decode bytes pc = .ok (.if_icmp .le o, 3)) (ho : 0 ≤ (pc : Int) + o) (hT : ((pc : Int) + o).toNat = pcT) (hp : pc + 3 = pc') (k1 : x.toInt ≤ y.toInt → G p l e R s m args below meth c n0 h0 ws Q Fe cells slots h (mkF m pcT ls st)) (k2 : y.toInt < x.toInt → G p l e R s m args below meth c n0 h0 ws Q Fe cells slots h (mkF m pc' ls st)) : G p l e R s m args below meth c n0 h0 ws Q Fe cells slots h (mkF m pc ls (.int y :: .int x :: st)) := by
  subst hp
  by_cases h : x.toInt ≤ y.toInt
  · exact G.stepX (fun T locs k n t X _ q => XS.icmpYes X.here B.1.1 rfl (pc0 := pc) (pc' := pcT) rfl (hb B.1.2.1 hd) rfl (flt (own_nlt h)).2.2.2 ho hT q) (k1 h)
  · replace h := Int.not_le.mp h
    exact G.stepX (fun T locs k n t X _ q => XS.icmpNo X.here B.1.1 rfl (hb B.1.2.1 hd) rfl (tlt (own_ylt h)).2.2.2 q) (k2 h)
theorem G.if_le {x : Int32} {o : Int} {pcT : Nat} (B : Cx p s m meth c Z own nm bytes maxL rt n0 h0 ws) (hd : decode bytes pc = .ok (.ifCond .le o, 3)) (ho : 0 ≤ (pc : Int) + o) (hT : ((pc : Int) + o).toNat = pcT) (hp : pc + 3 = pc') (k1 : x.toInt ≤ 0 → G p l e R s m args below meth c n0 h0 ws Q Fe cells slots h (mkF m pcT ls st)) (k2 : 0 < x.toInt → G p l e R s m args below meth c n0 h0 ws Q Fe cells slots h (mkF m pc' ls st)) : G p l e R s m args below meth c n0 h0 ws Q Fe cells slots h (mkF m pc ls (.int x :: st)) := by
  subst hp
  by_cases h : x.toInt ≤ 0
  · exact G.stepX (fun T locs k n t X _ q => XS.ifYes X.here B.1.1 rfl (pc0 := pc) (pc' := pcT) rfl (hb B.1.2.1 hd) rfl ((if0 _ _).trans (flt (own_nlt (x := 0) h)).2.2.2) ho hT q) (k1 h)
  · replace h := Int.not_le.mp h
    exact G.stepX (fun T locs k n t X _ q => XS.ifNo X.here B.1.1 rfl (hb B.1.2.1 hd) rfl ((if0 _ _).trans (tlt (own_ylt (x := 0) h)).2.2.2) q) (k2 h)
theorem G.lcmp_le {x y : Int64} {o : Int} {pc1 pcT : Nat} (B : Cx p s m meth c Z own nm bytes maxL rt n0 h0 ws) (hd0 : decode bytes pc = .ok (.lcmp, 1)) (hp0 : pc + 1 = pc1) (hd : decode bytes pc1 = .ok (.ifCond .le o, 3)) (ho : 0 ≤ (pc1 : Int) + o) (hT : ((pc1 : Int) + o).toNat = pcT) (hp : pc1 + 3 = pc') (k1 : x.toInt ≤ y.toInt → G p l e R s m args below meth c n0 h0 ws Q Fe cells slots h (mkF m pcT ls st)) (k2 : y.toInt < x.toInt → G p l e R s m args below meth c n0 h0 ws Q Fe cells slots h (mkF m pc' ls st)) : G p l e R s m args below meth c n0 h0 ws Q Fe cells slots h (mkF m pc ls (.long y :: .long x :: st)) :=
  G.lcmp B hd0 hp0 (G.if_le B hd ho hT hp (fun q => k1 (by have := c_lcmp x y; omega)) (fun q => k2 (by have := c_lcmp x y; omega)))
theorem G.ifnull_t {b : Addr} {o : Int} {pcT : Nat} (B : Cx p s m meth c Z own nm bytes maxL rt n0 h0 ws) (hd : decode bytes pc = .ok (.ifnull o, 3)) (ho : 0 ≤ (pc : Int) + o) (hT : ((pc : Int) + o).toNat = pcT) (kk : G p l e R s m args below meth c n0 h0 ws Q Fe cells slots h (mkF m pcT ls st)) : G p l e R s m args below meth c n0 h0 ws Q Fe cells slots h (mkF m pc ls (.null :: st)) :=
  G.stepX (fun T locs k n t X _ q => XS.ifnullYes X.here B.1.1 rfl (pc0 := pc) (pc' := pcT) rfl (hb B.1.2.1 hd) rfl ho hT q) kk
theorem G.ifnull_f {b : Addr} {o : Int} (B : Cx p s m meth c Z own nm bytes maxL rt n0 h0 ws) (hd : decode bytes pc = .ok (.ifnull o, 3)) (hp : pc + 3 = pc') (kk : G p l e R s m args below meth c n0 h0 ws Q Fe cells slots h (mkF m pc' ls st)) : G p l e R s m args below meth c n0 h0 ws Q Fe cells slots h (mkF m pc ls (.ref b :: st)) := by
  subst hp
  exact G.stepX (fun T locs k n t X _ q => XS.ifnullNo X.here B.1.1 rfl (hb B.1.2.1 hd) rfl q) kk
theorem G.ifnonnull_t {b : Addr} {o : Int} {pcT : Nat} (B : Cx p s m meth c Z own nm bytes maxL rt n0 h0 ws) (hd : decode bytes pc = .ok (.ifnonnull o, 3)) (ho : 0 ≤ (pc : Int) + o) (hT : ((pc : Int) + o).toNat = pcT) (kk : G p l e R s m args below meth c n0 h0 ws Q Fe cells slots h (mkF m pcT ls st)) : G p l e R s m args below meth c n0 h0 ws Q Fe cells slots h (mkF m pc ls (.ref b :: st)) :=
  G.stepX (fun T locs k n t X _ q => XS.ifnonnullYes X.here B.1.1 rfl (pc0 := pc) (pc' := pcT) rfl (hb B.1.2.1 hd) rfl ho hT q) kk
theorem G.ifnonnull_f {b : Addr} {o : Int} (B : Cx p s m meth c Z own nm bytes maxL rt n0 h0 ws) (hd : decode bytes pc = .ok (.ifnonnull o, 3)) (hp : pc + 3 = pc') (kk : G p l e R s m args below meth c n0 h0 ws Q Fe cells slots h (mkF m pc' ls st)) : G p l e R s m args below meth c n0 h0 ws Q Fe cells slots h (mkF m pc ls (.null :: st)) := by
  subst hp
  exact G.stepX (fun T locs k n t X _ q => XS.ifnonnullNo X.here B.1.1 rfl (hb B.1.2.1 hd) rfl q) kk
theorem G.ldc2 {index : Nat} {v : Int64} (B : Cx p s m meth c Z own nm bytes maxL rt n0 h0 ws) (w : (Jvm.Cond.constantLong own index v).before a0 Z = true) (hd : decode bytes pc = .ok (.ldc2_w index, 3)) (hp : pc + 3 = pc') (kk : G p l e R s m args below meth c n0 h0 ws Q Fe cells slots h (mkF m pc' ls (.long v :: st))) : G p l e R s m args below meth c n0 h0 ws Q Fe cells slots h (mkF m pc ls st) := by
  subst hp
  exact G.stepX (fun T locs k n t X _ q => X.ldc2Long B.1.1 B.1.2.2.2.1 (mvT B.1.2.2.2.2 w) (g := mkF m pc ls st) rfl (hb B.1.2.1 hd) t q) kk
theorem G.ldcI {index : Nat} {v : Int32} (B : Cx p s m meth c Z own nm bytes maxL rt n0 h0 ws) (w : (Jvm.Cond.constant own index v).before a0 Z = true) (hd : decode bytes pc = .ok (.ldc index, 2)) (hp : pc + 2 = pc') (kk : G p l e R s m args below meth c n0 h0 ws Q Fe cells slots h (mkF m pc' ls (.int v :: st))) : G p l e R s m args below meth c n0 h0 ws Q Fe cells slots h (mkF m pc ls st) := by
  subst hp
  exact G.stepX (fun T locs k n t X _ q => X.ldcInt B.1.1 B.1.2.2.2.1 (mvT B.1.2.2.2.2 w) (g := mkF m pc ls st) rfl (hb B.1.2.1 hd) t q) kk
theorem G.ldcW {index : Nat} {v : Int32} (B : Cx p s m meth c Z own nm bytes maxL rt n0 h0 ws) (w : (Jvm.Cond.constant own index v).before a0 Z = true) (hd : decode bytes pc = .ok (.ldc_w index, 3)) (hp : pc + 3 = pc') (kk : G p l e R s m args below meth c n0 h0 ws Q Fe cells slots h (mkF m pc' ls (.int v :: st))) : G p l e R s m args below meth c n0 h0 ws Q Fe cells slots h (mkF m pc ls st) := by
  subst hp
  exact G.stepX (fun T locs k n t X _ q => X.ldcwInt B.1.1 B.1.2.2.2.1 (mvT B.1.2.2.2.2 w) (g := mkF m pc ls st) rfl (hb B.1.2.1 hd) t q) kk
theorem G.retV {Q' : Heap → Prop} (B : Cx p s m meth c Z own nm bytes maxL none n0 h0 ws) (hd : decode bytes pc = .ok (.return_, 1)) (hc : cells ≤ R.cells) (hs : slots ≤ R.slots) (hQ : Q' h) : G p l e R s m args below meth c n0 h0 ws (RV Q') (FeN s R) cells slots h (mkF m pc ls []) :=
  G.out (v := none) B (fun _ => rfl) hc hs ⟨rfl, hQ⟩ (fun T locs k n fs X hr => X.returnOut B.1.1 B.2.1 (hb B.1.2.1 hd) hr)
theorem G.retI {Q' : Int32 → Heap → Prop} {z : Int32} (B : Cx p s m meth c Z own nm bytes maxL (some .int) n0 h0 ws) (hd : decode bytes pc = .ok (.ireturn, 1)) (hc : cells ≤ R.cells) (hs : slots ≤ R.slots) (hQ : Q' z h) : G p l e R s m args below meth c n0 h0 ws (RI Q') (FeN s R) cells slots h (mkF m pc ls (.int z :: st)) :=
  G.out (v := some (.int z)) B (fun q => nomatch q) hc hs ⟨z, rfl, hQ⟩ (fun T locs k n fs X hr => Jvm.RoadKit.retI X B.1.1 B.2.1 (hb B.1.2.1 hd) hr)
theorem G.retN {Q' : Int32 → Heap → Prop} {z : Int32} {t : FieldType} (B : Cx p s m meth c Z own nm bytes maxL (some t) n0 h0 ws) (ht : t = .boolean ∨ t = .byte ∨ t = .char ∨ t = .short) (hd : decode bytes pc = .ok (.ireturn, 1)) (hc : cells ≤ R.cells) (hs : slots ≤ R.slots) (hQ : Q' (nar t z) h) : G p l e R s m args below meth c n0 h0 ws (RI Q') (FeN s R) cells slots h (mkF m pc ls (.int z :: st)) :=
  G.out (v := some (.int (nar t z))) B (fun q => nomatch q) hc hs ⟨_, rfl, hQ⟩ (fun T locs k n fs X hr => Jvm.RoadKit.retN X B.1.1 B.2.1 ht (hb B.1.2.1 hd) hr)
theorem G.retZ {Q' : Int32 → Heap → Prop} {z : Int32} (B : Cx p s m meth c Z own nm bytes maxL (some .boolean) n0 h0 ws) (hd : decode bytes pc = .ok (.ireturn, 1)) (hc : cells ≤ R.cells) (hs : slots ≤ R.slots) (hz : z = 0 ∨ z = 1) (hQ : Q' z h) : G p l e R s m args below meth c n0 h0 ws (RI Q') (FeN s R) cells slots h (mkF m pc ls (.int z :: st)) :=
  G.retN B (Or.inl rfl) hd hc hs (by rcases hz with rfl | rfl <;> exact hQ)
theorem own_retJ {T : State} {locs : List Loc} {Ls : Array Slot} {w : Int64} {rest : List Value} (X : Stand p l e R s m args below meth c T locs cells slots) (hx : p.tables.exec = Jvm.exec) (hret : meth.sig.returnType = some .long) (hd : decode c.code pc = .ok (.lreturn, 1)) {fs : List Frame}
    (hr : ∀ (f : JFrame) (acts : List Action), f.method = m → f.locked = none → f.entered = [] → (doReturn e (T.setTop f) acts (some (.long w))).1 = T.setFrames fs) : Steps p.tables e below (T.setTop (mkF m pc Ls (.long w :: rest))) (T.setFrames fs) := by
  have hm' : T.vm.method? m = some meth := X.method'
  show Steps p.tables e below (T.setTop { method := m, pc := pc, locals := Ls, stack := _ :: rest, locked := none }) _
  jvm_step X.here [X.here.top, hx, hd, hm', hret, narrow]
  first | (intro acts; rw [hr _ acts rfl rfl rfl]) | rw [hr _ _ rfl rfl rfl]
  exact Steps.refl _
theorem G.retJ {Q' : Int64 → Heap → Prop} {z : Int64} (B : Cx p s m meth c Z own nm bytes maxL (some .long) n0 h0 ws) (hd : decode bytes pc = .ok (.lreturn, 1)) (hc : cells ≤ R.cells) (hs : slots ≤ R.slots) (hQ : Q' z h) : G p l e R s m args below meth c n0 h0 ws (RJ Q') (FeN s R) cells slots h (mkF m pc ls (.long z :: st)) :=
  G.out (v := some (.long z)) B (fun q => nomatch q) hc hs ⟨z, rfl, hQ⟩ (fun T locs k n fs X hr => own_retJ X B.1.1 B.2.1 (hb B.1.2.1 hd) hr)
theorem own_retA {T : State} {locs : List Loc} {Ls : Array Slot} {w : Addr} {rest : List Value} {t : FieldType} (X : Stand p l e R s m args below meth c T locs cells slots) (hx : p.tables.exec = Jvm.exec) (hret : meth.sig.returnType = some t) (ht : t.isReference = true) (hd : decode c.code pc = .ok (.areturn, 1)) {fs : List Frame}
    (hr : ∀ (f : JFrame) (acts : List Action), f.method = m → f.locked = none → f.entered = [] → (doReturn e (T.setTop f) acts (some (.ref w))).1 = T.setFrames fs) : Steps p.tables e below (T.setTop (mkF m pc Ls (.ref w :: rest))) (T.setFrames fs) := by
  have hm' : T.vm.method? m = some meth := X.method'
  show Steps p.tables e below (T.setTop { method := m, pc := pc, locals := Ls, stack := _ :: rest, locked := none }) _
  jvm_step X.here [X.here.top, hx, hd, hm', hret, Value.isRef, ht]
  first | (intro acts; rw [hr _ acts rfl rfl rfl]) | rw [hr _ _ rfl rfl rfl]
  exact Steps.refl _
theorem G.retA {Q' : Addr → Heap → Prop} {z : Addr} {t : FieldType} (B : Cx p s m meth c Z own nm bytes maxL (some t) n0 h0 ws) (ht : t.isReference = true) (hd : decode bytes pc = .ok (.areturn, 1)) (hc : cells ≤ R.cells) (hs : slots ≤ R.slots) (hQ : Q' z h) : G p l e R s m args below meth c n0 h0 ws (RA Q') (FeN s R) cells slots h (mkF m pc ls (.ref z :: st)) :=
  G.out (v := some (.ref z)) B (fun q => nomatch q) hc hs ⟨z, rfl, hQ⟩ (fun T locs k n fs X hr => own_retA X B.1.1 B.2.1 ht (hb B.1.2.1 hd) hr)
theorem G.getF {R0 O n d host : String} {index : Nat} {a : Addr} {v : Value} (B : Cx p s m meth c Z own nm bytes maxL rt n0 h0 ws) (w : (Jvm.Cond.fieldLink own index R0 n d).before a0 Z = true ∨ (Jvm.Cond.fieldLinkNest own index R0 n d host).before a0 Z = true) (via : Via Z R0 O n d) (Fd : Fld Z h a O n d v) (hd : decode bytes pc = .ok (.getfield index, 3)) (hp : pc + 3 = pc') (kk : G p l e R s m args below meth c n0 h0 ws Q Fe cells slots h (mkF m pc' ls (v :: st))) : G p l e R s m args below meth c n0 h0 ws Q Fe cells slots h (mkF m pc ls (.ref a :: st)) := by
  subst hp
  exact G.stepT (fun T locs k n X eT => Jvm.RoadKit.getF X B.1.1 B.1.2.2.2.2 B.1.2.2.2.1 w via eT Fd (g := (mkF m pc ls (.ref a :: st))) rfl rfl (hb B.1.2.1 hd)) kk
theorem G.putF {R0 O n d C : String} {index kq : Nat} {ty : FieldType} {a : Addr} {v v' old : Value} (B : Cx p s m meth c Z own nm bytes maxL rt n0 h0 ws) (w : (Jvm.Cond.fieldLink own index R0 n d).before a0 Z = true) (via : Via Z R0 O n d) (Fd : Fld Z h a O n d old) (E : Exa Z h a C) (L : (Jvm.Cond.lays C O n d).before a0 Z = true ∨ ((Jvm.Cond.laysFinal C O n d).before a0 Z = true ∧ own = O ∧ nm = "<init>")) (wi : (Jvm.Cond.instantiable C kq).before a0 Z = true)
    (hty : parseFieldDescriptor d = some ty) (hn : narrow ty v = v') (hf : fits ty v' = true) (ha : a ∈ ws ∨ h0.size ≤ a) (hd : decode bytes pc = .ok (.putfield index, 3)) (hp : pc + 3 = pc') (kk : ∀ h', Wr h h' a (Jvm.RoadKit.slotOf Z O n d) v' → G p l e R s m args below meth c n0 h0 ws Q Fe cells slots h' (mkF m pc' ls st)) : G p l e R s m args below meth c n0 h0 ws Q Fe cells slots h (mkF m pc ls (v :: .ref a :: st)) := by
  subst hp
  exact G.wr B ha (fun T locs k n X eT => Jvm.RoadKit.putFN X B.1.1 B.1.2.2.2.2 B.1.2.2.2.1 w via eT Fd E (L.imp id (fun q => ⟨q.1, q.2.1, B.2.2.2.1.trans q.2.2⟩)) wi hty hn hf (g := (mkF m pc ls (v :: .ref a :: st))) rfl rfl (hb B.1.2.1 hd)) kk
theorem G.newO {C : String} {index q : Nat} (B : Cx p s m meth c Z own nm bytes maxL rt n0 h0 ws) (w : (Jvm.Cond.classLink own index C).before a0 Z = true) (wi : (Jvm.Cond.instantiable C q).before a0 Z = true) (wz : (Jvm.Cond.initialized C).before a0 Z = true) (hd : decode bytes pc = .ok (.new index, 3)) (hp : pc + 3 = pc') (hc : cells + 1 ≤ R.cells) (hl : slots + q ≤ R.slots)
    (kk : ∀ h' a, a = h.size → h0.size ≤ a → Keep h h' [] → a < h'.size → Exa Z h' a C → (∀ {O n d : String} {ty : FieldType}, Laid Z a0 C O n d → parseFieldDescriptor d = some ty → Fld Z h' a O n d (defaultValue ty)) → G p l e R s m args below meth c n0 h0 ws Q Fe (cells + 1) (slots + q) h' (mkF m pc' ls (.ref a :: st))) : G p l e R s m args below meth c n0 h0 ws Q Fe cells slots h (mkF m pc ls st) := fun T locs k n X hk hn eT N K => by
  subst hp
  obtain ⟨T', h', X', e', E', A', D', -, stp⟩ := Jvm.RoadKit.newO X B.1.1 B.1.2.2.2.2 B.1.2.2.2.1 w wi wz eT (g := (mkF m pc ls st)) rfl (hb B.1.2.1 hd) (Nat.le_trans (Nat.add_le_add_right hk 1) hc) (Nat.le_trans (Nat.add_le_add_right hn q) hl)
  obtain ⟨U, v, L, hs, r⟩ := kk h' h.size rfl K.1 ((Keep.refl h []).ext E') A'.lt A' D' T' locs (k + 1) (n + q) X' (Nat.add_le_add_right hk 1) (Nat.add_le_add_right hn q) e' N (K.ext E')
  exact ⟨U, v, L, stp U hs, r⟩
theorem G.initO {index W : Nat} {a : Addr} (B : Cx p s m meth c Z own nm bytes maxL rt n0 h0 ws) (w1 : (Jvm.Cond.methodLink own index Lib.objectInit).before a0 Z = true) (w2 : (Jvm.Cond.instanceMethod Lib.objectInit).before a0 Z = true) (w3 : (Jvm.Cond.code Lib.objectInit ⟨#[0xb1]⟩ 1 none).before a0 Z = true) (hsz : ls.size = maxL) (hd : decode bytes pc = .ok (.invokespecial index, 3)) (hp : pc + 3 = pc') (hf : 1 ≤ R.frames) (hW : 2 * 0 + (st.map fun v => v.category).sum ≤ W) (hl : W + 12 ≤ R.locals) (kk : G p l e R s m args below meth c n0 h0 ws Q Fe cells slots h (mkF m pc' ls st)) : G p l e R s m args below meth c n0 h0 ws Q Fe cells slots h (mkF m pc ls (.ref a :: st)) := by
  subst hp
  exact G.stepT (fun T locs k n X eT => Jvm.RoadKit.initO X B.1.1 B.1.2.2.2.2 B.1.2.2.2.1 w1 w2 w3 eT (g := (mkF m pc ls (.ref a :: st))) rfl (hsz.trans B.1.2.2.1.symm) rfl (hb B.1.2.1 hd) hf (W := W) hW hl) kk
/-- an array of longs, of length n, its elements f -/
def ArJ (Z : State) (h : Heap) (a : Addr) (n : Nat) (f : Nat → Int64) : Prop := ∃ cl : Cell, Arr Z h a cl .long ∧ cl.slots.size = n ∧ n < 2147483648 ∧ ∀ i, i < n → cl.slots[i]? = some (.long (f i))
/-- an array of ints, bytes, booleans, chars or shorts -/
def ArI (Z : State) (h : Heap) (a : Addr) (ty : FieldType) (n : Nat) (f : Nat → Int32) : Prop := ∃ cl : Cell, Arr Z h a cl ty ∧ cl.slots.size = n ∧ n < 2147483648 ∧ ∀ i, i < n → cl.slots[i]? = some (.int (f i))
/-- f with v at the place j -/
def up {α : Type} (f : Nat → α) (j : Nat) (v : α) : Nat → α := fun i => if i = j then v else f i
theorem ArJ.lt {a : Addr} {n : Nat} {f : Nat → Int64} (A : ArJ Z h a n f) : a < h.size := by obtain ⟨cl, A, -⟩ := A; exact A.lt
theorem ArI.lt {a : Addr} {ty : FieldType} {n : Nat} {f : Nat → Int32} (A : ArI Z h a ty n f) : a < h.size := by obtain ⟨cl, A, -⟩ := A; exact A.lt
theorem ArJ.keep {a : Addr} {n : Nat} {f : Nat → Int64} {h' : Heap} {vs : List Addr} (A : ArJ Z h a n f) (K : Keep h h' vs) (q : a ∉ vs) : ArJ Z h' a n f := by obtain ⟨cl, A, r⟩ := A; exact ⟨cl, ⟨K.2.1 a cl A.1 q, A.2⟩, r⟩
theorem ArI.keep {a : Addr} {ty : FieldType} {n : Nat} {f : Nat → Int32} {h' : Heap} {vs : List Addr} (A : ArI Z h a ty n f) (K : Keep h h' vs) (q : a ∉ vs) : ArI Z h' a ty n f := by obtain ⟨cl, A, r⟩ := A; exact ⟨cl, ⟨K.2.1 a cl A.1 q, A.2⟩, r⟩
theorem own_idx {j : Int32} {i n : Nat} (hj : j.toInt = (i : Int)) (hi : i < n) : ¬ (j < 0 ∨ n ≤ j.toNatClampNeg) ∧ j.toNatClampNeg = i := by
  have h1 : j.toNatClampNeg = i := by show j.toInt.toNat = i; omega
  refine ⟨?_, h1⟩
  rintro (q | q)
  · rw [Int32.lt_iff_toInt_lt, Int32.toInt_zero] at q; omega
  · omega
theorem own_set {a : Addr} {cl : Cell} {ty : FieldType} {h' : Heap} {i n : Nat} {v : Value} {g : Nat → Value} (A : Arr Z h a cl ty) (hs : cl.slots.size = n) (hv : ∀ i, i < n → cl.slots[i]? = some (g i)) (W : Wr h h' a i v) : ∃ cl' : Cell, Arr Z h' a cl' ty ∧ cl'.slots.size = n ∧ ∀ k, k < n → cl'.slots[k]? = some (if k = i then v else g k) := by
  obtain ⟨cb', q1, q2, q3, q4, q5, q6, q7⟩ := wr_at W A.1
  obtain ⟨r1, r2, r3⟩ := q7 rfl
  subst r1
  refine ⟨_, A.same W, q4.trans hs, fun k hk => ?_⟩
  by_cases e : k = i
  · subst e; rw [if_pos rfl]; exact r2
  · rw [if_neg e, q6 k e]; exact hv k hk
theorem ArJ.set {a : Addr} {n : Nat} {f : Nat → Int64} {h' : Heap} {i : Nat} {v : Int64} (A : ArJ Z h a n f) (W : Wr h h' a i (.long v)) : ArJ Z h' a n (up f i v) := by
  obtain ⟨cl, A, hs, hn, hv⟩ := A
  obtain ⟨cl', A', hs', hv'⟩ := own_set (g := fun i => .long (f i)) A hs hv W
  refine ⟨cl', A', hs', hn, fun k hk => ?_⟩
  rw [hv' k hk]; unfold up; split <;> rfl
theorem ArI.set {a : Addr} {ty : FieldType} {n : Nat} {f : Nat → Int32} {h' : Heap} {i : Nat} {v : Int32} (A : ArI Z h a ty n f) (W : Wr h h' a i (.int v)) : ArI Z h' a ty n (up f i v) := by
  obtain ⟨cl, A, hs, hn, hv⟩ := A
  obtain ⟨cl', A', hs', hv'⟩ := own_set (g := fun i => .int (f i)) A hs hv W
  refine ⟨cl', A', hs', hn, fun k hk => ?_⟩
  rw [hv' k hk]; unfold up; split <;> rfl
theorem ArJ.congr {a : Addr} {n : Nat} {f g : Nat → Int64} (A : ArJ Z h a n f) (q : ∀ i, i < n → f i = g i) : ArJ Z h a n g := by
  obtain ⟨cl, A, hs, hn, hv⟩ := A
  exact ⟨cl, A, hs, hn, fun i hi => by rw [← q i hi]; exact hv i hi⟩
theorem ArI.congr {a : Addr} {ty : FieldType} {n : Nat} {f g : Nat → Int32} (A : ArI Z h a ty n f) (q : ∀ i, i < n → f i = g i) : ArI Z h a ty n g := by
  obtain ⟨cl, A, hs, hn, hv⟩ := A
  exact ⟨cl, A, hs, hn, fun i hi => by rw [← q i hi]; exact hv i hi⟩
theorem G.stJ {a : Addr} {j : Int32} {i n : Nat} {f : Nat → Int64} {x : Int64} (B : Cx p s m meth c Z own nm bytes maxL rt n0 h0 ws) (A : ArJ Z h a n f) (hj : j.toInt = (i : Int)) (hi : i < n) (ha : a ∈ ws ∨ h0.size ≤ a) (hd : decode bytes pc = .ok (.lastore, 1)) (hp : pc + 1 = pc') (kk : ∀ h', Keep h h' [a] → ArJ Z h' a n (up f i x) → G p l e R s m args below meth c n0 h0 ws Q Fe cells slots h' (mkF m pc' ls st)) : G p l e R s m args below meth c n0 h0 ws Q Fe cells slots h (mkF m pc ls (.long x :: .int j :: .ref a :: st)) := by
  subst hp
  have A0 := A
  obtain ⟨cl, A, hs, hn, hv⟩ := A
  obtain ⟨hin, hjn⟩ := own_idx hj (hs.symm ▸ hi : i < cl.slots.size)
  exact G.wr B ha (fun T locs k n X eT => Jvm.RoadKit.stJ X B.1.1 B.1.2.2.2.2 eT A (j := j) hin (g := (mkF m pc ls (.long x :: .int j :: .ref a :: st))) rfl rfl (hb B.1.2.1 hd)) (fun h' W => kk h' (Keep.of_wr W) (A0.set (hjn ▸ W)))
theorem G.stI {a : Addr} {j : Int32} {i n : Nat} {f : Nat → Int32} {x : Int32} (B : Cx p s m meth c Z own nm bytes maxL rt n0 h0 ws) (A : ArI Z h a .int n f) (hj : j.toInt = (i : Int)) (hi : i < n) (ha : a ∈ ws ∨ h0.size ≤ a) (hd : decode bytes pc = .ok (.iastore, 1)) (hp : pc + 1 = pc') (kk : ∀ h', Keep h h' [a] → ArI Z h' a .int n (up f i x) → G p l e R s m args below meth c n0 h0 ws Q Fe cells slots h' (mkF m pc' ls st)) : G p l e R s m args below meth c n0 h0 ws Q Fe cells slots h (mkF m pc ls (.int x :: .int j :: .ref a :: st)) := by
  subst hp
  have A0 := A
  obtain ⟨cl, A, hs, hn, hv⟩ := A
  obtain ⟨hin, hjn⟩ := own_idx hj (hs.symm ▸ hi : i < cl.slots.size)
  exact G.wr B ha (fun T locs k n X eT => Jvm.RoadKit.stI X B.1.1 B.1.2.2.2.2 eT A (j := j) hin (g := (mkF m pc ls (.int x :: .int j :: .ref a :: st))) rfl rfl (hb B.1.2.1 hd)) (fun h' W => kk h' (Keep.of_wr W) (A0.set (hjn ▸ W)))
theorem G.stB {a : Addr} {j : Int32} {i n : Nat} {f : Nat → Int32} {x z : Int32} (B : Cx p s m meth c Z own nm bytes maxL rt n0 h0 ws) (A : ArI Z h a .byte n f) (hj : j.toInt = (i : Int)) (hi : i < n) (ha : a ∈ ws ∨ h0.size ≤ a) (hz : nar .byte x = z) (hd : decode bytes pc = .ok (.bastore, 1)) (hp : pc + 1 = pc') (kk : ∀ h', Keep h h' [a] → ArI Z h' a .byte n (up f i z) → G p l e R s m args below meth c n0 h0 ws Q Fe cells slots h' (mkF m pc' ls st)) : G p l e R s m args below meth c n0 h0 ws Q Fe cells slots h (mkF m pc ls (.int x :: .int j :: .ref a :: st)) := by
  subst hp hz
  have A0 := A
  obtain ⟨cl, A, hs, hn, hv⟩ := A
  obtain ⟨hin, hjn⟩ := own_idx hj (hs.symm ▸ hi : i < cl.slots.size)
  exact G.wr B ha (fun T locs k n X eT => Jvm.RoadKit.stB X B.1.1 B.1.2.2.2.2 eT A (j := j) hin (g := (mkF m pc ls (.int x :: .int j :: .ref a :: st))) rfl rfl (hb B.1.2.1 hd)) (fun h' W => kk h' (Keep.of_wr W) (A0.set (hjn ▸ W)))
theorem G.stZ {a : Addr} {j : Int32} {i n : Nat} {f : Nat → Int32} {x z : Int32} (B : Cx p s m meth c Z own nm bytes maxL rt n0 h0 ws) (A : ArI Z h a .boolean n f) (hj : j.toInt = (i : Int)) (hi : i < n) (ha : a ∈ ws ∨ h0.size ≤ a) (hz : nar .boolean x = z) (hd : decode bytes pc = .ok (.bastore, 1)) (hp : pc + 1 = pc') (kk : ∀ h', Keep h h' [a] → ArI Z h' a .boolean n (up f i z) → G p l e R s m args below meth c n0 h0 ws Q Fe cells slots h' (mkF m pc' ls st)) : G p l e R s m args below meth c n0 h0 ws Q Fe cells slots h (mkF m pc ls (.int x :: .int j :: .ref a :: st)) := by
  subst hp hz
  have A0 := A
  obtain ⟨cl, A, hs, hn, hv⟩ := A
  obtain ⟨hin, hjn⟩ := own_idx hj (hs.symm ▸ hi : i < cl.slots.size)
  exact G.wr B ha (fun T locs k n X eT => Jvm.RoadKit.stZ X B.1.1 B.1.2.2.2.2 eT A (j := j) hin (g := (mkF m pc ls (.int x :: .int j :: .ref a :: st))) rfl rfl (hb B.1.2.1 hd)) (fun h' W => kk h' (Keep.of_wr W) (A0.set (hjn ▸ W)))
theorem G.stC {a : Addr} {j : Int32} {i n : Nat} {f : Nat → Int32} {x z : Int32} (B : Cx p s m meth c Z own nm bytes maxL rt n0 h0 ws) (A : ArI Z h a .char n f) (hj : j.toInt = (i : Int)) (hi : i < n) (ha : a ∈ ws ∨ h0.size ≤ a) (hz : nar .char x = z) (hd : decode bytes pc = .ok (.castore, 1)) (hp : pc + 1 = pc') (kk : ∀ h', Keep h h' [a] → ArI Z h' a .char n (up f i z) → G p l e R s m args below meth c n0 h0 ws Q Fe cells slots h' (mkF m pc' ls st)) : G p l e R s m args below meth c n0 h0 ws Q Fe cells slots h (mkF m pc ls (.int x :: .int j :: .ref a :: st)) := by
  subst hp hz
  have A0 := A
  obtain ⟨cl, A, hs, hn, hv⟩ := A
  obtain ⟨hin, hjn⟩ := own_idx hj (hs.symm ▸ hi : i < cl.slots.size)
  exact G.wr B ha (fun T locs k n X eT => Jvm.RoadKit.stC X B.1.1 B.1.2.2.2.2 eT A (j := j) hin (g := (mkF m pc ls (.int x :: .int j :: .ref a :: st))) rfl rfl (hb B.1.2.1 hd)) (fun h' W => kk h' (Keep.of_wr W) (A0.set (hjn ▸ W)))
theorem G.ldJ {a : Addr} {j : Int32} {i n : Nat} {f : Nat → Int64} {x : Int64} (B : Cx p s m meth c Z own nm bytes maxL rt n0 h0 ws) (A : ArJ Z h a n f) (hj : j.toInt = (i : Int)) (hi : i < n) (hv : f i = x) (hd : decode bytes pc = .ok (.laload, 1)) (hp : pc + 1 = pc') (kk : G p l e R s m args below meth c n0 h0 ws Q Fe cells slots h (mkF m pc' ls (.long x :: st))) : G p l e R s m args below meth c n0 h0 ws Q Fe cells slots h (mkF m pc ls (.int j :: .ref a :: st)) := by
  subst hp hv
  obtain ⟨cl, A, hs, hn, hv⟩ := A
  obtain ⟨hin, hjn⟩ := own_idx hj (hs.symm ▸ hi : i < cl.slots.size)
  exact G.stepX (fun T locs k n t X eT q => X.laload B.1.1 (j := j) (by rw [eT]; exact A.1) (State.isArrayOf_alike B.1.2.2.2.2.alike A.2.1) A.2.2 hin (by rw [hjn]; exact hv i hi) (g := (mkF m pc ls (.int j :: .ref a :: st))) rfl rfl (hb B.1.2.1 hd) _ q) kk
theorem G.ldI {a : Addr} {j : Int32} {i n : Nat} {f : Nat → Int32} {x : Int32} (B : Cx p s m meth c Z own nm bytes maxL rt n0 h0 ws) (A : ArI Z h a .int n f) (hj : j.toInt = (i : Int)) (hi : i < n) (hv : f i = x) (hd : decode bytes pc = .ok (.iaload, 1)) (hp : pc + 1 = pc') (kk : G p l e R s m args below meth c n0 h0 ws Q Fe cells slots h (mkF m pc' ls (.int x :: st))) : G p l e R s m args below meth c n0 h0 ws Q Fe cells slots h (mkF m pc ls (.int j :: .ref a :: st)) := by
  subst hp hv
  obtain ⟨cl, A, hs, hn, hv⟩ := A
  obtain ⟨hin, hjn⟩ := own_idx hj (hs.symm ▸ hi : i < cl.slots.size)
  exact G.stepX (fun T locs k n t X eT q => X.iaload B.1.1 (j := j) (by rw [eT]; exact A.1) (State.isArrayOf_alike B.1.2.2.2.2.alike A.2.1) A.2.2 hin (by rw [hjn]; exact hv i hi) (g := (mkF m pc ls (.int j :: .ref a :: st))) rfl rfl (hb B.1.2.1 hd) _ q) kk
theorem G.ldC {a : Addr} {j : Int32} {i n : Nat} {f : Nat → Int32} {x : Int32} (B : Cx p s m meth c Z own nm bytes maxL rt n0 h0 ws) (A : ArI Z h a .char n f) (hj : j.toInt = (i : Int)) (hi : i < n) (hv : f i = x) (hd : decode bytes pc = .ok (.caload, 1)) (hp : pc + 1 = pc') (kk : G p l e R s m args below meth c n0 h0 ws Q Fe cells slots h (mkF m pc' ls (.int x :: st))) : G p l e R s m args below meth c n0 h0 ws Q Fe cells slots h (mkF m pc ls (.int j :: .ref a :: st)) := by
  subst hp hv
  obtain ⟨cl, A, hs, hn, hv⟩ := A
  obtain ⟨hin, hjn⟩ := own_idx hj (hs.symm ▸ hi : i < cl.slots.size)
  exact G.stepX (fun T locs k n t X eT q => X.caload B.1.1 (j := j) (by rw [eT]; exact A.1) (State.isArrayOf_alike B.1.2.2.2.2.alike A.2.1) A.2.2 hin (by rw [hjn]; exact hv i hi) (g := (mkF m pc ls (.int j :: .ref a :: st))) rfl rfl (hb B.1.2.1 hd) _ q) kk
theorem G.ldB {a : Addr} {j : Int32} {i n : Nat} {f : Nat → Int32} {x : Int32} (B : Cx p s m meth c Z own nm bytes maxL rt n0 h0 ws) (A : ArI Z h a .byte n f) (hj : j.toInt = (i : Int)) (hi : i < n) (hv : f i = x) (hd : decode bytes pc = .ok (.baload, 1)) (hp : pc + 1 = pc') (kk : G p l e R s m args below meth c n0 h0 ws Q Fe cells slots h (mkF m pc' ls (.int x :: st))) : G p l e R s m args below meth c n0 h0 ws Q Fe cells slots h (mkF m pc ls (.int j :: .ref a :: st)) := by
  subst hp hv
  obtain ⟨cl, A, hs, hn, hv⟩ := A
  obtain ⟨hin, hjn⟩ := own_idx hj (hs.symm ▸ hi : i < cl.slots.size)
  exact G.stepX (fun T locs k n t X eT q => X.baloadBytes B.1.1 (j := j) (by rw [eT]; exact A.1) (State.isArrayOf_alike B.1.2.2.2.2.alike A.2.1) A.2.2 hin (by rw [hjn]; exact hv i hi) (g := (mkF m pc ls (.int j :: .ref a :: st))) rfl rfl (hb B.1.2.1 hd) _ q) kk
theorem G.ldZ {a : Addr} {j : Int32} {i n : Nat} {f : Nat → Int32} {x : Int32} (B : Cx p s m meth c Z own nm bytes maxL rt n0 h0 ws) (A : ArI Z h a .boolean n f) (hj : j.toInt = (i : Int)) (hi : i < n) (hv : f i = x) (hd : decode bytes pc = .ok (.baload, 1)) (hp : pc + 1 = pc') (kk : G p l e R s m args below meth c n0 h0 ws Q Fe cells slots h (mkF m pc' ls (.int x :: st))) : G p l e R s m args below meth c n0 h0 ws Q Fe cells slots h (mkF m pc ls (.int j :: .ref a :: st)) := by
  subst hp hv
  obtain ⟨cl, A, hs, hn, hv⟩ := A
  obtain ⟨hin, hjn⟩ := own_idx hj (hs.symm ▸ hi : i < cl.slots.size)
  exact G.stepX (fun T locs k n t X eT q => X.baloadBooleans B.1.1 (j := j) (by rw [eT]; exact A.1) (State.isArrayOf_alike B.1.2.2.2.2.alike A.2.1) A.2.2 hin (by rw [hjn]; exact hv i hi) (g := (mkF m pc ls (.int j :: .ref a :: st))) rfl rfl (hb B.1.2.1 hd) _ q) kk
theorem G.lenJ {a : Addr} {n : Nat} {z : Int32} {f : Nat → Int64} (B : Cx p s m meth c Z own nm bytes maxL rt n0 h0 ws) (A : ArJ Z h a n f) (hz : Int32.ofNat n = z) (hd : decode bytes pc = .ok (.arraylength, 1)) (hp : pc + 1 = pc') (kk : G p l e R s m args below meth c n0 h0 ws Q Fe cells slots h (mkF m pc' ls (.int z :: st))) : G p l e R s m args below meth c n0 h0 ws Q Fe cells slots h (mkF m pc ls (.ref a :: st)) := by
  subst hp hz
  obtain ⟨cl, A, hs, hn, hv⟩ := A
  subst hs
  exact G.stepX (fun T locs k n t X eT q => X.arraylength B.1.1 (by rw [eT]; exact A.1) (State.isArrayOf_alike B.1.2.2.2.2.alike A.2.1) (g := (mkF m pc ls (.ref a :: st))) rfl rfl (hb B.1.2.1 hd) _ q) kk
theorem G.lenI {a : Addr} {n : Nat} {z : Int32} {f : Nat → Int32} {ty : FieldType} (B : Cx p s m meth c Z own nm bytes maxL rt n0 h0 ws) (A : ArI Z h a ty n f) (hz : Int32.ofNat n = z) (hd : decode bytes pc = .ok (.arraylength, 1)) (hp : pc + 1 = pc') (kk : G p l e R s m args below meth c n0 h0 ws Q Fe cells slots h (mkF m pc' ls (.int z :: st))) : G p l e R s m args below meth c n0 h0 ws Q Fe cells slots h (mkF m pc ls (.ref a :: st)) := by
  subst hp hz
  obtain ⟨cl, A, hs, hn, hv⟩ := A
  subst hs
  exact G.stepX (fun T locs k n t X eT q => X.arraylength B.1.1 (by rw [eT]; exact A.1) (State.isArrayOf_alike B.1.2.2.2.2.alike A.2.1) (g := (mkF m pc ls (.ref a :: st))) rfl rfl (hb B.1.2.1 hd) _ q) kk
theorem own_newJ {a : Addr} {cA : ClassId} {z : Int32} {n : Nat} (A : Arr Z h a (newA cA .long z) .long) (hz : z.toInt = (n : Int)) : ArJ Z h a n (fun _ => 0) := by
  have hr := rng32 z
  have h1 : z.toNatClampNeg = n := by show z.toInt.toNat = n; omega
  exact ⟨_, A, (sz_new _ _ _).trans h1, by omega, fun i hi => by simp [newA, h1, hi, defaultValue]⟩
theorem own_newI {a : Addr} {cA : ClassId} {z : Int32} {n : Nat} {ty : FieldType} (hd : defaultValue ty = .int 0) (A : Arr Z h a (newA cA ty z) ty) (hz : z.toInt = (n : Int)) : ArI Z h a ty n (fun _ => 0) := by
  have hr := rng32 z
  have h1 : z.toNatClampNeg = n := by show z.toInt.toNat = n; omega
  exact ⟨_, A, (sz_new _ _ _).trans h1, by omega, fun i hi => by simp [newA, h1, hi, hd]⟩
theorem G.newJ {z : Int32} {n cap : Nat} (B : Cx p s m meth c Z own nm bytes maxL rt n0 h0 ws) (w : (Jvm.Cond.arrayClass .long).before a0 Z = true) (hz : z.toInt = (n : Int)) (hcap : n ≤ cap) (hb8 : cap * 8 ≤ 536870912) (hd : decode bytes pc = .ok (.newarray .long, 2)) (hp : pc + 2 = pc') (hc : cells + 1 ≤ R.cells) (hl : slots + cap ≤ R.slots)
    (kk : ∀ h' a, a = h.size → h0.size ≤ a → Keep h h' [] → ArJ Z h' a n (fun _ => 0) → G p l e R s m args below meth c n0 h0 ws Q Fe (cells + 1) (slots + cap) h' (mkF m pc' ls (.ref a :: st))) : G p l e R s m args below meth c n0 h0 ws Q Fe cells slots h (mkF m pc ls (.int z :: st)) := fun T locs k n' X hk hn eT N K => by
  subst hp
  have hr := rng32 z
  have h1 : z.toNatClampNeg = n := by show z.toInt.toNat = n; omega
  obtain ⟨T', h', cA, X', e', E', A', stp⟩ := Jvm.RoadKit.newP X B.1.1 B.1.2.2.2.2 (aty := .long) w eT (g := (mkF m pc ls (.int z :: st))) rfl (hb B.1.2.1 hd) rfl (fun q => by rw [Int32.lt_iff_toInt_lt, Int32.toInt_zero] at q; omega) (cap := cap) (by omega) hb8 (Nat.le_trans (Nat.add_le_add_right hk 1) hc) (Nat.le_trans (Nat.add_le_add_right hn cap) hl)
  obtain ⟨U, v, L, hs, r⟩ := kk h' h.size rfl K.1 ((Keep.refl h []).ext E') (own_newJ A' hz) T' locs (k + 1) (n' + cap) X' (Nat.add_le_add_right hk 1) (Nat.add_le_add_right hn cap) e' N (K.ext E')
  exact ⟨U, v, L, stp U hs, r⟩
theorem G.newI {z : Int32} {n cap : Nat} (B : Cx p s m meth c Z own nm bytes maxL rt n0 h0 ws) (w : (Jvm.Cond.arrayClass .int).before a0 Z = true) (hz : z.toInt = (n : Int)) (hcap : n ≤ cap) (hb8 : cap * 8 ≤ 536870912) (hd : decode bytes pc = .ok (.newarray .int, 2)) (hp : pc + 2 = pc') (hc : cells + 1 ≤ R.cells) (hl : slots + cap ≤ R.slots)
    (kk : ∀ h' a, a = h.size → h0.size ≤ a → Keep h h' [] → ArI Z h' a .int n (fun _ => 0) → G p l e R s m args below meth c n0 h0 ws Q Fe (cells + 1) (slots + cap) h' (mkF m pc' ls (.ref a :: st))) : G p l e R s m args below meth c n0 h0 ws Q Fe cells slots h (mkF m pc ls (.int z :: st)) := fun T locs k n' X hk hn eT N K => by
  subst hp
  have hr := rng32 z
  have h1 : z.toNatClampNeg = n := by show z.toInt.toNat = n; omega
  obtain ⟨T', h', cA, X', e', E', A', stp⟩ := Jvm.RoadKit.newP X B.1.1 B.1.2.2.2.2 (aty := .int) w eT (g := (mkF m pc ls (.int z :: st))) rfl (hb B.1.2.1 hd) rfl (fun q => by rw [Int32.lt_iff_toInt_lt, Int32.toInt_zero] at q; omega) (cap := cap) (by omega) hb8 (Nat.le_trans (Nat.add_le_add_right hk 1) hc) (Nat.le_trans (Nat.add_le_add_right hn cap) hl)
  obtain ⟨U, v, L, hs, r⟩ := kk h' h.size rfl K.1 ((Keep.refl h []).ext E') (own_newI rfl A' hz) T' locs (k + 1) (n' + cap) X' (Nat.add_le_add_right hk 1) (Nat.add_le_add_right hn cap) e' N (K.ext E')
  exact ⟨U, v, L, stp U hs, r⟩
theorem G.newB {z : Int32} {n cap : Nat} (B : Cx p s m meth c Z own nm bytes maxL rt n0 h0 ws) (w : (Jvm.Cond.arrayClass .byte).before a0 Z = true) (hz : z.toInt = (n : Int)) (hcap : n ≤ cap) (hb8 : cap * 8 ≤ 536870912) (hd : decode bytes pc = .ok (.newarray .byte, 2)) (hp : pc + 2 = pc') (hc : cells + 1 ≤ R.cells) (hl : slots + cap ≤ R.slots)
    (kk : ∀ h' a, a = h.size → h0.size ≤ a → Keep h h' [] → ArI Z h' a .byte n (fun _ => 0) → G p l e R s m args below meth c n0 h0 ws Q Fe (cells + 1) (slots + cap) h' (mkF m pc' ls (.ref a :: st))) : G p l e R s m args below meth c n0 h0 ws Q Fe cells slots h (mkF m pc ls (.int z :: st)) := fun T locs k n' X hk hn eT N K => by
  subst hp
  have hr := rng32 z
  have h1 : z.toNatClampNeg = n := by show z.toInt.toNat = n; omega
  obtain ⟨T', h', cA, X', e', E', A', stp⟩ := Jvm.RoadKit.newP X B.1.1 B.1.2.2.2.2 (aty := .byte) w eT (g := (mkF m pc ls (.int z :: st))) rfl (hb B.1.2.1 hd) rfl (fun q => by rw [Int32.lt_iff_toInt_lt, Int32.toInt_zero] at q; omega) (cap := cap) (by omega) hb8 (Nat.le_trans (Nat.add_le_add_right hk 1) hc) (Nat.le_trans (Nat.add_le_add_right hn cap) hl)
  obtain ⟨U, v, L, hs, r⟩ := kk h' h.size rfl K.1 ((Keep.refl h []).ext E') (own_newI rfl A' hz) T' locs (k + 1) (n' + cap) X' (Nat.add_le_add_right hk 1) (Nat.add_le_add_right hn cap) e' N (K.ext E')
  exact ⟨U, v, L, stp U hs, r⟩
theorem G.newZ {z : Int32} {n cap : Nat} (B : Cx p s m meth c Z own nm bytes maxL rt n0 h0 ws) (w : (Jvm.Cond.arrayClass .boolean).before a0 Z = true) (hz : z.toInt = (n : Int)) (hcap : n ≤ cap) (hb8 : cap * 8 ≤ 536870912) (hd : decode bytes pc = .ok (.newarray .boolean, 2)) (hp : pc + 2 = pc') (hc : cells + 1 ≤ R.cells) (hl : slots + cap ≤ R.slots)
    (kk : ∀ h' a, a = h.size → h0.size ≤ a → Keep h h' [] → ArI Z h' a .boolean n (fun _ => 0) → G p l e R s m args below meth c n0 h0 ws Q Fe (cells + 1) (slots + cap) h' (mkF m pc' ls (.ref a :: st))) : G p l e R s m args below meth c n0 h0 ws Q Fe cells slots h (mkF m pc ls (.int z :: st)) := fun T locs k n' X hk hn eT N K => by
  subst hp
  have hr := rng32 z
  have h1 : z.toNatClampNeg = n := by show z.toInt.toNat = n; omega
  obtain ⟨T', h', cA, X', e', E', A', stp⟩ := Jvm.RoadKit.newP X B.1.1 B.1.2.2.2.2 (aty := .boolean) w eT (g := (mkF m pc ls (.int z :: st))) rfl (hb B.1.2.1 hd) rfl (fun q => by rw [Int32.lt_iff_toInt_lt, Int32.toInt_zero] at q; omega) (cap := cap) (by omega) hb8 (Nat.le_trans (Nat.add_le_add_right hk 1) hc) (Nat.le_trans (Nat.add_le_add_right hn cap) hl)
  obtain ⟨U, v, L, hs, r⟩ := kk h' h.size rfl K.1 ((Keep.refl h []).ext E') (own_newI rfl A' hz) T' locs (k + 1) (n' + cap) X' (Nat.add_le_add_right hk 1) (Nat.add_le_add_right hn cap) e' N (K.ext E')
  exact ⟨U, v, L, stp U hs, r⟩
theorem G.newC {z : Int32} {n cap : Nat} (B : Cx p s m meth c Z own nm bytes maxL rt n0 h0 ws) (w : (Jvm.Cond.arrayClass .char).before a0 Z = true) (hz : z.toInt = (n : Int)) (hcap : n ≤ cap) (hb8 : cap * 8 ≤ 536870912) (hd : decode bytes pc = .ok (.newarray .char, 2)) (hp : pc + 2 = pc') (hc : cells + 1 ≤ R.cells) (hl : slots + cap ≤ R.slots)
    (kk : ∀ h' a, a = h.size → h0.size ≤ a → Keep h h' [] → ArI Z h' a .char n (fun _ => 0) → G p l e R s m args below meth c n0 h0 ws Q Fe (cells + 1) (slots + cap) h' (mkF m pc' ls (.ref a :: st))) : G p l e R s m args below meth c n0 h0 ws Q Fe cells slots h (mkF m pc ls (.int z :: st)) := fun T locs k n' X hk hn eT N K => by
  subst hp
  have hr := rng32 z
  have h1 : z.toNatClampNeg = n := by show z.toInt.toNat = n; omega
  obtain ⟨T', h', cA, X', e', E', A', stp⟩ := Jvm.RoadKit.newP X B.1.1 B.1.2.2.2.2 (aty := .char) w eT (g := (mkF m pc ls (.int z :: st))) rfl (hb B.1.2.1 hd) rfl (fun q => by rw [Int32.lt_iff_toInt_lt, Int32.toInt_zero] at q; omega) (cap := cap) (by omega) hb8 (Nat.le_trans (Nat.add_le_add_right hk 1) hc) (Nat.le_trans (Nat.add_le_add_right hn cap) hl)
  obtain ⟨U, v, L, hs, r⟩ := kk h' h.size rfl K.1 ((Keep.refl h []).ext E') (own_newI rfl A' hz) T' locs (k + 1) (n' + cap) X' (Nat.add_le_add_right hk 1) (Nat.add_le_add_right hn cap) e' N (K.ext E')
  exact ⟨U, v, L, stp U hs, r⟩
theorem own_back {y : MethodName} {bytes' : ByteArray} {maxL' : Nat} {rt' : Option FieldType} {rm : Room} {as' : Array Value} {ws' : List Addr} {Q' : Option Value → Heap → Prop} {len W : Nat} (B : Cx p s m meth c Z own nm bytes maxL rt n0 h0 ws) (M : Mt l Z y bytes' maxL' rt' [] rm n0 as' h ws' Q') (wc : (Jvm.Cond.code y bytes' maxL' rt').before a0 Z = true) (wz : (Jvm.Cond.initialized y.cls).before a0 Z = true) (hf : rm.frames + 1 ≤ R.frames) (hl : W + (maxL' + 11) + rm.locals ≤ R.locals) :
    Back l R p e below s args y len W (fun A a => a = as' ∧ A.U.heap = h ∧ A.cells + rm.cells ≤ R.cells ∧ A.slots + rm.slots ≤ R.slots) (fun A _ v B => ∃ L, (Fr n0 L ∧ Keep h B.U.heap ws' ∧ Q' v B.U.heap) ∧ B.locs = A.locs ++ L ∧ B.cells = A.cells + rm.cells ∧ B.slots = A.slots + rm.slots) :=
  backOf (Q := fun v hh L => Fr n0 L ∧ Keep h hh ws' ∧ Q' v hh) M B.1.2.2.2.2 wc wz hf hl
theorem G.callS {y : MethodName} {bytes' : ByteArray} {maxL' : Nat} {rt' : Option FieldType} {rm : Room} {ws' : List Addr} {Q' : Option Value → Heap → Prop} {index W : Nat} {argsL rest : List Value} (B : Cx p s m meth c Z own nm bytes maxL rt n0 h0 ws) (w1 : (Jvm.Cond.methodLink own index y).before a0 Z = true) (w2 : (Jvm.Cond.static y).before a0 Z = true) (M : Mt l Z y bytes' maxL' rt' [] rm n0 argsL.toArray h ws' Q') (hws : ∀ x ∈ ws', x ∈ ws ∨ h0.size ≤ x) (wc : (Jvm.Cond.code y bytes' maxL' rt').before a0 Z = true) (wz : (Jvm.Cond.initialized y.cls).before a0 Z = true) (hy : y.cls ≠ "java/lang/invoke/MethodHandle" ∧ y.cls ≠ "java/lang/invoke/VarHandle") (hsz : ls.size = maxL) (hst : st = argsL.reverse ++ rest) (hlen : ∀ sig, parseMethodDescriptor y.desc = some sig → argsL.length = sig.parameters.length) (hf : rm.frames + 1 ≤ R.frames) (hW : 2 * 0 + (rest.map fun v => v.category).sum ≤ W) (hl : W + (maxL' + 11) + rm.locals ≤ R.locals) (hc : cells + rm.cells ≤ R.cells) (hs : slots + rm.slots ≤ R.slots) (hd : decode bytes pc = .ok (.invokestatic index, 3)) (hp : pc + 3 = pc')
    (kk : ∀ v h', Keep h h' ws' → Q' v h' → G p l e R s m args below meth c n0 h0 ws Q Fe (cells + rm.cells) (slots + rm.slots) h' (mkF m pc' ls (v.toList ++ rest))) : G p l e R s m args below meth c n0 h0 ws Q Fe cells slots h (mkF m pc ls st) := fun T locs k n X hk hn eT N K => by
  subst hp hst
  obtain ⟨v, _, ⟨T', L', k', n'⟩, -, X', ⟨Lc, hQ, l1, y1, z1⟩, stp⟩ := Jvm.LawKit.callS X B.1.1 (y := y) B.1.2.2.2.1 (mvT B.1.2.2.2.2 w1) (mvT B.1.2.2.2.2 w2) (mvT B.1.2.2.2.2 wz) (mvT B.1.2.2.2.2 wc) hy (own_back (W := W) B M wc wz hf hl) (g := (mkF m pc ls (argsL.reverse ++ rest))) rfl (hsz.trans B.1.2.2.1.symm) (argsL := argsL) (rest := rest) hlen rfl hW (hb B.1.2.1 hd) (fun _ _ => ⟨rfl, eT, Nat.le_trans (Nat.add_le_add_right hk _) hc, Nat.le_trans (Nat.add_le_add_right hn _) hs⟩)
  dsimp only [Pt.U, Pt.locs, Pt.cells, Pt.slots] at X' l1 y1 z1 stp hQ
  subst l1 y1 z1
  obtain ⟨U, v, L, hs', r⟩ := kk v T'.heap hQ.2.1 hQ.2.2 T' (locs ++ Lc) _ _ X' (Nat.add_le_add_right hk _) (Nat.add_le_add_right hn _) rfl (Fr.app N hQ.1) (K.trans hQ.2.1 hws)
  exact ⟨U, v, L, stp _ hs', r⟩
theorem G.callC {a : Addr} {y : MethodName} {bytes' : ByteArray} {maxL' : Nat} {rt' : Option FieldType} {rm : Room} {ws' : List Addr} {Q' : Option Value → Heap → Prop} {index W : Nat} {argsL rest : List Value} (B : Cx p s m meth c Z own nm bytes maxL rt n0 h0 ws) (w0 : y.name = "<init>") (w1 : (Jvm.Cond.methodLink own index y).before a0 Z = true) (w2 : (Jvm.Cond.instanceMethod y).before a0 Z = true) (hrt : rt' = none) (M : Mt l Z y bytes' maxL' rt' [] rm n0 (.ref a :: argsL).toArray h ws' Q') (hws : ∀ x ∈ ws', x ∈ ws ∨ h0.size ≤ x) (wc : (Jvm.Cond.code y bytes' maxL' rt').before a0 Z = true) (wz : (Jvm.Cond.initialized y.cls).before a0 Z = true) (hy : y.cls ≠ "java/lang/invoke/MethodHandle" ∧ y.cls ≠ "java/lang/invoke/VarHandle") (hsz : ls.size = maxL) (hst : st = argsL.reverse ++ .ref a :: rest) (hlen : ∀ sig, parseMethodDescriptor y.desc = some sig → argsL.length = sig.parameters.length) (hf : rm.frames + 1 ≤ R.frames) (hW : 2 * 0 + (rest.map fun v => v.category).sum ≤ W) (hl : W + (maxL' + 11) + rm.locals ≤ R.locals) (hc : cells + rm.cells ≤ R.cells) (hs : slots + rm.slots ≤ R.slots) (hd : decode bytes pc = .ok (.invokespecial index, 3)) (hp : pc + 3 = pc')
    (kk : ∀ v h', Keep h h' ws' → Q' v h' → G p l e R s m args below meth c n0 h0 ws Q Fe (cells + rm.cells) (slots + rm.slots) h' (mkF m pc' ls (v.toList ++ rest))) : G p l e R s m args below meth c n0 h0 ws Q Fe cells slots h (mkF m pc ls st) := fun T locs k n X hk hn eT N K => by
  subst hp hst
  subst hrt
  obtain ⟨v, _, ⟨T', L', k', n'⟩, -, X', ⟨Lc, hQ, l1, y1, z1⟩, stp⟩ := X.specialBack B.1.1 (y := y) w0 B.1.2.2.2.1 (mvT B.1.2.2.2.2 w1) (mvT B.1.2.2.2.2 w2) (mvT B.1.2.2.2.2 wc) hy (own_back (W := W) B M wc wz hf hl) (g := (mkF m pc ls (argsL.reverse ++ .ref a :: rest))) rfl (hsz.trans B.1.2.2.1.symm) (Steps.refl _) (a := a) (argsL := argsL) (rest := rest) hlen rfl hW (hb B.1.2.1 hd) (fun _ _ => ⟨rfl, eT, Nat.le_trans (Nat.add_le_add_right hk _) hc, Nat.le_trans (Nat.add_le_add_right hn _) hs⟩)
  dsimp only [Pt.U, Pt.locs, Pt.cells, Pt.slots] at X' l1 y1 z1 stp hQ
  subst l1 y1 z1
  obtain ⟨U, v, L, hs', r⟩ := kk v T'.heap hQ.2.1 hQ.2.2 T' (locs ++ Lc) _ _ X' (Nat.add_le_add_right hk _) (Nat.add_le_add_right hn _) rfl (Fr.app N hQ.1) (K.trans hQ.2.1 hws)
  exact ⟨U, v, L, stp.trans hs', r⟩
theorem G.callV {a : Addr} {y : MethodName} {bytes' : ByteArray} {maxL' : Nat} {rt' : Option FieldType} {rm : Room} {ws' : List Addr} {Q' : Option Value → Heap → Prop} {index W : Nat} {argsL rest : List Value} (B : Cx p s m meth c Z own nm bytes maxL rt n0 h0 ws) (E : Exa Z h a y.cls) (w1 : (Jvm.Cond.methodLink own index y).before a0 Z = true) (w2 : (Jvm.Cond.declares y).before a0 Z = true) (w3 : (Jvm.Cond.selects y.cls y y).before a0 Z = true) (w4 : (Jvm.Cond.instanceMethod y).before a0 Z = true) (M : Mt l Z y bytes' maxL' rt' [] rm n0 (.ref a :: argsL).toArray h ws' Q') (hws : ∀ x ∈ ws', x ∈ ws ∨ h0.size ≤ x) (wc : (Jvm.Cond.code y bytes' maxL' rt').before a0 Z = true) (wz : (Jvm.Cond.initialized y.cls).before a0 Z = true) (hy : y.cls ≠ "java/lang/invoke/MethodHandle" ∧ y.cls ≠ "java/lang/invoke/VarHandle") (hsz : ls.size = maxL) (hst : st = argsL.reverse ++ .ref a :: rest) (hlen : ∀ sig, parseMethodDescriptor y.desc = some sig → argsL.length = sig.parameters.length) (hf : rm.frames + 1 ≤ R.frames) (hW : 2 * 0 + (rest.map fun v => v.category).sum ≤ W) (hl : W + (maxL' + 11) + rm.locals ≤ R.locals) (hc : cells + rm.cells ≤ R.cells) (hs : slots + rm.slots ≤ R.slots) (hd : decode bytes pc = .ok (.invokevirtual index, 3)) (hp : pc + 3 = pc')
    (kk : ∀ v h', Keep h h' ws' → Q' v h' → G p l e R s m args below meth c n0 h0 ws Q Fe (cells + rm.cells) (slots + rm.slots) h' (mkF m pc' ls (v.toList ++ rest))) : G p l e R s m args below meth c n0 h0 ws Q Fe cells slots h (mkF m pc ls st) := fun T locs k n X hk hn eT N K => by
  subst hp hst
  obtain ⟨cq, kq, qa, qb, qc⟩ := isOf B.1.2.2.2.2 eT E
  obtain ⟨v, _, ⟨T', L', k', n'⟩, -, X', ⟨Lc, hQ, l1, y1, z1⟩, stp⟩ := X.virtualBack B.1.1 (y := y) (z := y) B.1.2.2.2.1 (mvT B.1.2.2.2.2 w1) (mvT B.1.2.2.2.2 w2) (notFace_of_selects (args := #[]) (mvT B.1.2.2.2.2 w3)) (mvT B.1.2.2.2.2 w3) (mvT B.1.2.2.2.2 w4) hy (own_back (W := W) B M wc wz hf hl) qa qc (g := (mkF m pc ls (argsL.reverse ++ .ref a :: rest))) rfl (hsz.trans B.1.2.2.1.symm) (Steps.refl _) (argsL := argsL) (rest := rest) hlen rfl hW (hb B.1.2.1 hd) (fun _ _ => ⟨rfl, eT, Nat.le_trans (Nat.add_le_add_right hk _) hc, Nat.le_trans (Nat.add_le_add_right hn _) hs⟩)
  dsimp only [Pt.U, Pt.locs, Pt.cells, Pt.slots] at X' l1 y1 z1 stp hQ
  subst l1 y1 z1
  obtain ⟨U, v, L, hs', r⟩ := kk v T'.heap hQ.2.1 hQ.2.2 T' (locs ++ Lc) _ _ X' (Nat.add_le_add_right hk _) (Nat.add_le_add_right hn _) rfl (Fr.app N hQ.1) (K.trans hQ.2.1 hws)
  exact ⟨U, v, L, stp.trans hs', r⟩
theorem own_sel {args : Array Value} {s : State} {y z : MethodName} {K : String} (hz : (Jvm.Cond.selects K z z).before args s = true) (hcl : z.cls = y.cls) (hinst : (Jvm.Cond.instanceMethod y).before args s = true) (hpriv : s.PrivateAt y) (hy : y.cls ≠ "java/lang/invoke/MethodHandle" ∧ y.cls ≠ "java/lang/invoke/VarHandle") : (Jvm.Cond.selects y.cls y y).before args s = true := by
  obtain ⟨mk, meth, hnamed, hmeth, hst, hab⟩ := Cond.instanceMethod_spec hinst
  obtain ⟨c2, r2, m2, q1, q2, q3, q4, kP, hkP, hkPi⟩ := Cond.selects_spec hz
  have h1 := findClass_of_methodNamed hnamed
  have h2 := findClass_of_methodNamed q3
  rw [hcl, h1] at h2
  have h3 : mk.cls = m2.cls := Option.some.inj h2
  rw [← h3] at hkP
  have h4 := State.methodFound?_of_named hnamed hy
  have h5 := selectMethod_private (p := {}) (c := mk.cls) hmeth (hpriv mk meth hnamed hmeth)
  simp [Cond.before, Cond.holds, Cond.value, h1, h4, hnamed, h5, hkP, hkPi]
theorem G.callP {a : Addr} {z : MethodName} {K : String} {y : MethodName} {bytes' : ByteArray} {maxL' : Nat} {rt' : Option FieldType} {rm : Room} {ws' : List Addr} {Q' : Option Value → Heap → Prop} {index W : Nat} {argsL rest : List Value} (B : Cx p s m meth c Z own nm bytes maxL rt n0 h0 ws) (E : Exa Z h a y.cls) (w1 : (Jvm.Cond.methodLink own index y).before a0 Z = true) (w2 : (Jvm.Cond.privateMethod y).before a0 Z = true) (w3 : (Jvm.Cond.selects K z z).before a0 Z = true) (hcl : z.cls = y.cls) (w4 : (Jvm.Cond.instanceMethod y).before a0 Z = true) (M : Mt l Z y bytes' maxL' rt' [] rm n0 (.ref a :: argsL).toArray h ws' Q') (hws : ∀ x ∈ ws', x ∈ ws ∨ h0.size ≤ x) (wc : (Jvm.Cond.code y bytes' maxL' rt').before a0 Z = true) (wz : (Jvm.Cond.initialized y.cls).before a0 Z = true) (hy : y.cls ≠ "java/lang/invoke/MethodHandle" ∧ y.cls ≠ "java/lang/invoke/VarHandle") (hsz : ls.size = maxL) (hst : st = argsL.reverse ++ .ref a :: rest) (hlen : ∀ sig, parseMethodDescriptor y.desc = some sig → argsL.length = sig.parameters.length) (hf : rm.frames + 1 ≤ R.frames) (hW : 2 * 0 + (rest.map fun v => v.category).sum ≤ W) (hl : W + (maxL' + 11) + rm.locals ≤ R.locals) (hc : cells + rm.cells ≤ R.cells) (hs : slots + rm.slots ≤ R.slots) (hd : decode bytes pc = .ok (.invokevirtual index, 3)) (hp : pc + 3 = pc')
    (kk : ∀ v h', Keep h h' ws' → Q' v h' → G p l e R s m args below meth c n0 h0 ws Q Fe (cells + rm.cells) (slots + rm.slots) h' (mkF m pc' ls (v.toList ++ rest))) : G p l e R s m args below meth c n0 h0 ws Q Fe cells slots h (mkF m pc ls st) := fun T locs k n X hk hn eT N K => by
  subst hp hst
  obtain ⟨cq, q1, q2⟩ := E.cell
  obtain ⟨v, _, ⟨T', L', k', n'⟩, -, X', ⟨Lc, hQ, l1, y1, z1⟩, stp⟩ := X.privateBack B.1.1 (y := y) B.1.2.2.2.1 (mvT B.1.2.2.2.2 w1) (mvT B.1.2.2.2.2 w4) (own_sel (mvT B.1.2.2.2.2 w3) hcl (mvT B.1.2.2.2.2 w4) (Cond.privateMethod_at (mvP B.1.2.2.2.2 w2 (args := #[]))) hy) (Cond.privateMethod_at (mvP B.1.2.2.2.2 w2 (args := #[]))) (mvT B.1.2.2.2.2 wc) hy (own_back (W := W) B M wc wz hf hl) (g := (mkF m pc ls (argsL.reverse ++ .ref a :: rest))) rfl (hsz.trans B.1.2.2.1.symm) (Steps.refl _) (a := a) (by rw [eT]; exact q1) q2 (argsL := argsL) (rest := rest) hlen rfl hW (hb B.1.2.1 hd) (fun _ _ => ⟨rfl, eT, Nat.le_trans (Nat.add_le_add_right hk _) hc, Nat.le_trans (Nat.add_le_add_right hn _) hs⟩)
  dsimp only [Pt.U, Pt.locs, Pt.cells, Pt.slots] at X' l1 y1 z1 stp hQ
  subst l1 y1 z1
  obtain ⟨U, v, L, hs', r⟩ := kk v T'.heap hQ.2.1 hQ.2.2 T' (locs ++ Lc) _ _ X' (Nat.add_le_add_right hk _) (Nat.add_le_add_right hn _) rfl (Fr.app N hQ.1) (K.trans hQ.2.1 hws)
  exact ⟨U, v, L, stp.trans hs', r⟩
def MtW (l : Launch) (Z : State) (y : MethodName) (bytes : ByteArray) (maxL : Nat) (rt : Option FieldType) (cs : List Jvm.Cond) (rm : Room) (n0 : Nat) (as' : Array Value) (h : Heap) (ws : List Addr) (Q : Option Value → Heap → Prop) : Prop :=
  MetFree l y (head1 (Jvm.Cond.code y bytes maxL rt :: cs) rm) (fun a U => a = as' ∧ Z.Warmed39 U.vm ∧ U.heap = h) (fun _ _ _ _ _ => True) (fun _ U o U' => ∃ v L, o = .returned v ∧ (Fr n0 L ∧ Keep h U'.heap ws ∧ Q v U'.heap) ∧ ReturnedEndW U o U' L rm.cells rm.slots)
theorem MtW.intro {y : MethodName} {cs : List Jvm.Cond} {as' : Array Value} (hpl : plainFor y = true) (hn : n0 ≤ h0.size) (hws : ∀ x ∈ ws, n0 ≤ x)
    (body : ∀ p e s m below meth c, Cx p s m meth c Z y.cls y.name bytes maxL rt n0 h0 ws → G p l e R s m as' below meth c n0 h0 ws Q (FeW s R) 0 0 h0 (entryFrame m as' maxL)) : MtW l Z y bytes maxL rt cs R n0 as' h0 ws Q := by
  refine MetFree.of_bodySF hpl hisR ?_
  intro p e s m args below meth c s₁ Bd hml0 hP hK
  obtain ⟨rfl, hZ, hh⟩ := hP
  have B : Cx p s m meth c Z y.cls y.name bytes maxL rt n0 h0 ws := ⟨⟨Bd.exec, Bd.bytes, hml0, findClass_of_methodNamed Bd.named, hZ⟩, Bd.returns, Bd.notSynchronized, (name_of_methodNamed Bd.named Bd.method).1, hn, hws⟩
  have X0 : Stand p l e R s m args below meth c s₁ [] 0 0 := Stand.of_body Bd
  have e0 : s₁.heap = h0 := by rw [← hh, Bd.state]; rfl
  obtain ⟨U, v, L, hs, h1, h2, h3, h4⟩ := body p e s m below meth c B s₁ [] 0 0 X0 (Nat.le_refl _) (Nat.le_refl _) e0 (Fr.nil n0) (Keep.refl _ _)
  exact ⟨U, _, hs, h1, h2, v, L, rfl, h3, h4⟩
theorem G.ldcS {index n : Nat} {text : String} {ws2 : List Addr} (B : Cx p s m meth c Z own nm bytes maxL rt n0 h0 ws) (w : (Jvm.Cond.stringLink own index text).before a0 Z = true) (wS : ∀ a ∈ Bundle.stringAtoms, a.before a0 Z = true) (hn : 4 * text.toList.length ≤ n) (hbig : n ≤ 536870912) (hc : cells + 2 ≤ R.cells) (hl : slots + (n + 4) ≤ R.slots) (hws : ∀ x ∈ ws2, x ∈ ws ∨ h0.size ≤ x) (hd : decode bytes pc = .ok (.ldc index, 2)) (hp : pc + 2 = pc')
    (kk : ∀ (vm1 : Vm) (h' : Heap) (a : Addr), Keep h h' [] → Cx p (s.setVm vm1) m meth c Z own nm bytes maxL rt n0 h' ws2 → G p l e R (s.setVm vm1) m args below meth c n0 h' ws2 Q (FeN (s.setVm vm1) R) (cells + 2) (slots + (n + 4)) h' (mkF m pc' ls (.ref a :: st))) : G p l e R s m args below meth c n0 h0 ws Q (FeW s R) cells slots h (mkF m pc ls st) := fun T locs k n' X hk hn' eT N K => by
  subst hp
  obtain ⟨a, T', h', k1, X', e', E', hS, hk1, hZ', hown', stp⟩ := Jvm.RoadKit.ldcS (s := s) (vm0 := s.vm) X B.1.1 B.1.2.2.2.2 B.1.2.2.2.1 w wS eT ((State.WarmedH.refl s).since 0) (Nat.zero_le _) (g := mkF m pc ls st) rfl (hb B.1.2.1 hd) hn hbig (Nat.le_trans (Nat.add_le_add_right hk 2) hc) (Nat.le_trans (Nat.add_le_add_right hn' _) hl)
  have K' := K.ext E'
  have B' : Cx p (s.setVm T'.vm) m meth c Z own nm bytes maxL rt n0 h' ws2 := ⟨⟨B.1.1, B.1.2.1, B.1.2.2.1, hown', hZ'⟩, B.2.1, B.2.2.1, B.2.2.2.1, Nat.le_trans B.2.2.2.2.1 K'.1, fun x hx => own_fr B (hws x hx)⟩
  obtain ⟨U, v, L, hs, h1, h2, ⟨h3, h4, h5⟩, h6⟩ := kk T'.vm h' a ((Keep.refl h []).ext E') B' T' locs (k + 2) (n' + (n + 4)) X' (Nat.add_le_add_right hk 2) (Nat.add_le_add_right hn' _) e' N (Keep.refl _ _)
  obtain ⟨q1, q2, q3⟩ := hS.ended (U := U) h6.2.1 (Nat.le_trans hk1 h4.1) h6.2.2
  exact ⟨U, v, L, stp U hs, h1, h2, ⟨h3, K'.trans h4 hws, h5⟩, ⟨v, rfl⟩, q1, q2, q3⟩
end OwnKit
def O_Pt (Z : State) (h : Heap) (a : Addr) (v0 : Value) (v1 : Value) : Prop := Exa Z h a "com/example/tacit/tacit/engine/Partition" ∧ Fld Z h a "com/example/tacit/tacit/engine/Partition" "rows" "[I" v0 ∧ Fld Z h a "com/example/tacit/tacit/engine/Partition" "starts" "[I" v1
theorem O_Pt.lt {Z : State} {h : Heap} {a : Addr} {v0 : Value} {v1 : Value} (O : O_Pt Z h a v0 v1) : a < h.size := Exa.lt O.1
theorem O_Pt.keep {Z : State} {h h' : Heap} {a : Addr} {vs : List Addr} {v0 : Value} {v1 : Value} (O : O_Pt Z h a v0 v1) (K : Keep h h' vs) (q : a ∉ vs) : O_Pt Z h' a v0 v1 := by
  obtain ⟨g0, g1, g2⟩ := O
  exact ⟨g0.keep K, g1.keep K q, g2.keep K q⟩
theorem O_Pt.set_0 {Z : State} {a0 : Array Value} {h h' : Heap} {a : Addr} {v0 : Value} {v1 : Value} {v : Value} (hw : ∀ d ∈ tables_1, d.before a0 Z = true) (O : O_Pt Z h a v0 v1) (W : Wr h h' a (Jvm.RoadKit.slotOf Z "com/example/tacit/tacit/engine/Partition" "rows" "[I") v) : O_Pt Z h' a v v1 := by
  obtain ⟨g0, g1, g2⟩ := O
  exact ⟨g0.wr W, g1.same W, g2.other W (Or.inr (slot_ne (C := "com/example/tacit/tacit/engine/Partition") (Or.inr (hw _ (List.mem_of_getElem? (i := 18) rfl))) (Or.inr (hw _ (List.mem_of_getElem? (i := 16) rfl))) (by decide) (t := (.array .int)) (t' := (.array .int)) (by decide) (by decide)))⟩
theorem O_Pt.set_1 {Z : State} {a0 : Array Value} {h h' : Heap} {a : Addr} {v0 : Value} {v1 : Value} {v : Value} (hw : ∀ d ∈ tables_1, d.before a0 Z = true) (O : O_Pt Z h a v0 v1) (W : Wr h h' a (Jvm.RoadKit.slotOf Z "com/example/tacit/tacit/engine/Partition" "starts" "[I") v) : O_Pt Z h' a v0 v := by
  obtain ⟨g0, g1, g2⟩ := O
  exact ⟨g0.wr W, g1.other W (Or.inr (slot_ne (C := "com/example/tacit/tacit/engine/Partition") (Or.inr (hw _ (List.mem_of_getElem? (i := 16) rfl))) (Or.inr (hw _ (List.mem_of_getElem? (i := 18) rfl))) (by decide) (t := (.array .int)) (t' := (.array .int)) (by decide) (by decide))), g2.same W⟩
def O_Co (Z : State) (h : Heap) (a : Addr) (v0 : Value) (v1 : Value) (v2 : Int32) (v3 : Int32) : Prop := Exa Z h a "com/example/tacit/tacit/engine/Column" ∧ Fld Z h a "com/example/tacit/tacit/engine/Column" "name" "Ljava/lang/String;" v0 ∧ Fld Z h a "com/example/tacit/tacit/engine/Column" "codes" "[I" v1 ∧ Fld Z h a "com/example/tacit/tacit/engine/Column" "cardinality" "I" (.int v2) ∧ Fld Z h a "com/example/tacit/tacit/engine/Column" "numeric" "Z" (.int v3)
theorem O_Co.lt {Z : State} {h : Heap} {a : Addr} {v0 : Value} {v1 : Value} {v2 : Int32} {v3 : Int32} (O : O_Co Z h a v0 v1 v2 v3) : a < h.size := Exa.lt O.1
theorem O_Co.keep {Z : State} {h h' : Heap} {a : Addr} {vs : List Addr} {v0 : Value} {v1 : Value} {v2 : Int32} {v3 : Int32} (O : O_Co Z h a v0 v1 v2 v3) (K : Keep h h' vs) (q : a ∉ vs) : O_Co Z h' a v0 v1 v2 v3 := by
  obtain ⟨g0, g1, g2, g3, g4⟩ := O
  exact ⟨g0.keep K, g1.keep K q, g2.keep K q, g3.keep K q, g4.keep K q⟩
theorem O_Co.set_0 {Z : State} {a0 : Array Value} {h h' : Heap} {a : Addr} {v0 : Value} {v1 : Value} {v2 : Int32} {v3 : Int32} {v : Value} (hw : ∀ d ∈ tables_1, d.before a0 Z = true) (O : O_Co Z h a v0 v1 v2 v3) (W : Wr h h' a (Jvm.RoadKit.slotOf Z "com/example/tacit/tacit/engine/Column" "name" "Ljava/lang/String;") v) : O_Co Z h' a v v1 v2 v3 := by
  obtain ⟨g0, g1, g2, g3, g4⟩ := O
  exact ⟨g0.wr W, g1.same W, g2.other W (Or.inr (slot_ne (C := "com/example/tacit/tacit/engine/Column") (Or.inr (hw _ (List.mem_of_getElem? (i := 37) rfl))) (Or.inr (hw _ (List.mem_of_getElem? (i := 35) rfl))) (by decide) (t := (.array .int)) (t' := (.object "java/lang/String")) (by decide) (by decide))), g3.other W (Or.inr (slot_ne (C := "com/example/tacit/tacit/engine/Column") (Or.inr (hw _ (List.mem_of_getElem? (i := 39) rfl))) (Or.inr (hw _ (List.mem_of_getElem? (i := 35) rfl))) (by decide) (t := .int) (t' := (.object "java/lang/String")) (by decide) (by decide))), g4.other W (Or.inr (slot_ne (C := "com/example/tacit/tacit/engine/Column") (Or.inr (hw _ (List.mem_of_getElem? (i := 41) rfl))) (Or.inr (hw _ (List.mem_of_getElem? (i := 35) rfl))) (by decide) (t := .boolean) (t' := (.object "java/lang/String")) (by decide) (by decide)))⟩
theorem O_Co.set_1 {Z : State} {a0 : Array Value} {h h' : Heap} {a : Addr} {v0 : Value} {v1 : Value} {v2 : Int32} {v3 : Int32} {v : Value} (hw : ∀ d ∈ tables_1, d.before a0 Z = true) (O : O_Co Z h a v0 v1 v2 v3) (W : Wr h h' a (Jvm.RoadKit.slotOf Z "com/example/tacit/tacit/engine/Column" "codes" "[I") v) : O_Co Z h' a v0 v v2 v3 := by
  obtain ⟨g0, g1, g2, g3, g4⟩ := O
  exact ⟨g0.wr W, g1.other W (Or.inr (slot_ne (C := "com/example/tacit/tacit/engine/Column") (Or.inr (hw _ (List.mem_of_getElem? (i := 35) rfl))) (Or.inr (hw _ (List.mem_of_getElem? (i := 37) rfl))) (by decide) (t := (.object "java/lang/String")) (t' := (.array .int)) (by decide) (by decide))), g2.same W, g3.other W (Or.inr (slot_ne (C := "com/example/tacit/tacit/engine/Column") (Or.inr (hw _ (List.mem_of_getElem? (i := 39) rfl))) (Or.inr (hw _ (List.mem_of_getElem? (i := 37) rfl))) (by decide) (t := .int) (t' := (.array .int)) (by decide) (by decide))), g4.other W (Or.inr (slot_ne (C := "com/example/tacit/tacit/engine/Column") (Or.inr (hw _ (List.mem_of_getElem? (i := 41) rfl))) (Or.inr (hw _ (List.mem_of_getElem? (i := 37) rfl))) (by decide) (t := .boolean) (t' := (.array .int)) (by decide) (by decide)))⟩
theorem O_Co.set_2 {Z : State} {a0 : Array Value} {h h' : Heap} {a : Addr} {v0 : Value} {v1 : Value} {v2 : Int32} {v3 : Int32} {v : Int32} (hw : ∀ d ∈ tables_1, d.before a0 Z = true) (O : O_Co Z h a v0 v1 v2 v3) (W : Wr h h' a (Jvm.RoadKit.slotOf Z "com/example/tacit/tacit/engine/Column" "cardinality" "I") (.int v)) : O_Co Z h' a v0 v1 v v3 := by
  obtain ⟨g0, g1, g2, g3, g4⟩ := O
  exact ⟨g0.wr W, g1.other W (Or.inr (slot_ne (C := "com/example/tacit/tacit/engine/Column") (Or.inr (hw _ (List.mem_of_getElem? (i := 35) rfl))) (Or.inr (hw _ (List.mem_of_getElem? (i := 39) rfl))) (by decide) (t := (.object "java/lang/String")) (t' := .int) (by decide) (by decide))), g2.other W (Or.inr (slot_ne (C := "com/example/tacit/tacit/engine/Column") (Or.inr (hw _ (List.mem_of_getElem? (i := 37) rfl))) (Or.inr (hw _ (List.mem_of_getElem? (i := 39) rfl))) (by decide) (t := (.array .int)) (t' := .int) (by decide) (by decide))), g3.same W, g4.other W (Or.inr (slot_ne (C := "com/example/tacit/tacit/engine/Column") (Or.inr (hw _ (List.mem_of_getElem? (i := 41) rfl))) (Or.inr (hw _ (List.mem_of_getElem? (i := 39) rfl))) (by decide) (t := .boolean) (t' := .int) (by decide) (by decide)))⟩
theorem O_Co.set_3 {Z : State} {a0 : Array Value} {h h' : Heap} {a : Addr} {v0 : Value} {v1 : Value} {v2 : Int32} {v3 : Int32} {v : Int32} (hw : ∀ d ∈ tables_1, d.before a0 Z = true) (O : O_Co Z h a v0 v1 v2 v3) (W : Wr h h' a (Jvm.RoadKit.slotOf Z "com/example/tacit/tacit/engine/Column" "numeric" "Z") (.int v)) : O_Co Z h' a v0 v1 v2 v := by
  obtain ⟨g0, g1, g2, g3, g4⟩ := O
  exact ⟨g0.wr W, g1.other W (Or.inr (slot_ne (C := "com/example/tacit/tacit/engine/Column") (Or.inr (hw _ (List.mem_of_getElem? (i := 35) rfl))) (Or.inr (hw _ (List.mem_of_getElem? (i := 41) rfl))) (by decide) (t := (.object "java/lang/String")) (t' := .boolean) (by decide) (by decide))), g2.other W (Or.inr (slot_ne (C := "com/example/tacit/tacit/engine/Column") (Or.inr (hw _ (List.mem_of_getElem? (i := 37) rfl))) (Or.inr (hw _ (List.mem_of_getElem? (i := 41) rfl))) (by decide) (t := (.array .int)) (t' := .boolean) (by decide) (by decide))), g3.other W (Or.inr (slot_ne (C := "com/example/tacit/tacit/engine/Column") (Or.inr (hw _ (List.mem_of_getElem? (i := 39) rfl))) (Or.inr (hw _ (List.mem_of_getElem? (i := 41) rfl))) (by decide) (t := .int) (t' := .boolean) (by decide) (by decide))), g4.same W⟩
theorem own_at1 {b : Int32} (hb : 0 ≤ b.toInt ∧ b.toInt ≤ 5) {j : Int32} (hj : 0 ≤ j.toInt ∧ j.toInt ≤ 5) : 0 ≤ (((b + (6 : Int32)) - j) % (6 : Int32)).toInt ∧ (((b + (6 : Int32)) - j) % (6 : Int32)).toInt ≤ 5 := by
  have h6 : (6 : Int32).toInt = 6 := by decide
  have h1 := c_iadd b (6 : Int32)
  have h2 := rng32 (b + (6 : Int32))
  have h3 := c_isub (b + (6 : Int32)) j
  have h4 := rng32 ((b + (6 : Int32)) - j)
  have h5 := (c_irem ((b + (6 : Int32)) - j) 6 6 h6).1 (by omega)
  omega
theorem own_at2 {b : Int32} (hb : 0 ≤ b.toInt ∧ b.toInt ≤ 5) {j : Int32} (hj : 0 ≤ j.toInt ∧ j.toInt ≤ 5) : 0 ≤ ((b + j) % (6 : Int32)).toInt ∧ ((b + j) % (6 : Int32)).toInt ≤ 5 := by
  have h6 : (6 : Int32).toInt = 6 := by decide
  have h1 := c_iadd b j
  have h2 := rng32 (b + j)
  have h5 := (c_irem (b + j) 6 6 h6).1 (by omega)
  omega
theorem d1_0 : decode method_3_code 0 = .ok (.iload_n 1, 1) := by decide +kernel
theorem d1_1 : decode method_3_code 1 = .ok (.ifCond .eq 15, 3) := by decide +kernel
theorem d1_4 : decode method_3_code 4 = .ok (.iload_n 0, 1) := by decide +kernel
theorem d1_5 : decode method_3_code 5 = .ok (.bipush 6, 2) := by decide +kernel
theorem d1_7 : decode method_3_code 7 = .ok (.iadd, 1) := by decide +kernel
theorem d1_8 : decode method_3_code 8 = .ok (.iload_n 2, 1) := by decide +kernel
theorem d1_9 : decode method_3_code 9 = .ok (.isub, 1) := by decide +kernel
theorem d1_10 : decode method_3_code 10 = .ok (.bipush 6, 2) := by decide +kernel
theorem d1_12 : decode method_3_code 12 = .ok (.irem, 1) := by decide +kernel
theorem d1_13 : decode method_3_code 13 = .ok (.goto 9, 3) := by decide +kernel
theorem d1_16 : decode method_3_code 16 = .ok (.iload_n 0, 1) := by decide +kernel
theorem d1_17 : decode method_3_code 17 = .ok (.iload_n 2, 1) := by decide +kernel
theorem d1_18 : decode method_3_code 18 = .ok (.iadd, 1) := by decide +kernel
theorem d1_19 : decode method_3_code 19 = .ok (.bipush 6, 2) := by decide +kernel
theorem d1_21 : decode method_3_code 21 = .ok (.irem, 1) := by decide +kernel
theorem d1_22 : decode method_3_code 22 = .ok (.ireturn, 1) := by decide +kernel
theorem pn_1 : plainFor (⟨"com/example/tacit/tacit/engine/PartitionDeterminesPinLaw", "at", "(IZI)I"⟩ : MethodName) = true := plainFor_of_name (by first | (simp [plainName, overriddenIn]; done) | decide +kernel)
theorem ef_1 (m : MethodId) (p0 : Int32) (p1 : Int32) (p2 : Int32) : entryFrame m #[(.int p0), (.int p1), (.int p2)] 3 = mkF m 0 #[.val (.int p0), .val (.int p1), .val (.int p2)] [] := by first | (simp [entryFrame, mkF, argsToLocals, Value.category]; done) | rfl
def Qq1 (Z : State) (p0 : Int32) (p1 : Int32) (p2 : Int32)  (h0 : Heap) : Int32 → Heap → Prop := fun z h' => h0 = h' ∧ 0 ≤ z.toInt ∧ z.toInt ≤ 5
abbrev Gg1 (p : Program) (l : Launch) (e : Env) (s : State) (m : MethodId) (below : List Frame) (meth : Method) (c : Code) (n0 : Nat) (h0 : Heap) (Z : State) (p0 : Int32) (p1 : Int32) (p2 : Int32)  (cc ss : Nat) (hh : Heap) (gg : JFrame) : Prop := G p l e ({ frames := 0, cells := 0, slots := 0, locals := 0 } : Room) s m #[(.int p0), (.int p1), (.int p2)] below meth c n0 h0 [] (RI (Qq1 Z p0 p1 p2  h0)) (FeN s ({ frames := 0, cells := 0, slots := 0, locals := 0 } : Room)) cc ss hh gg
set_option maxRecDepth 65536 in
set_option maxHeartbeats 40000000 in
theorem rm1 (l : Launch) (Z : State) (a0 : Array Value) (hw : ∀ d ∈ tables_1, d.before a0 Z = true) (p0 : Int32) (p1 : Int32) (p2 : Int32)  (h0 : Heap) (n0 : Nat) (hn : n0 ≤ h0.size) (hb : 0 ≤ p0.toInt ∧ p0.toInt ≤ 5) (hj : 0 ≤ p2.toInt ∧ p2.toInt ≤ 5) :
    Mt l Z (⟨"com/example/tacit/tacit/engine/PartitionDeterminesPinLaw", "at", "(IZI)I"⟩ : MethodName) method_3_code 3 (some .int) [] ({ frames := 0, cells := 0, slots := 0, locals := 0 } : Room) n0 #[(.int p0), (.int p1), (.int p2)] h0 [] (RI (Qq1 Z p0 p1 p2  h0)) := by
  refine Mt.intro pn_1 hn (fun x hx => nomatch hx) ?_
  have hz : h0.size ≤ h0.size := Nat.le_refl _
  intro p e s m below meth c B
  refine G.entry (ef_1 m p0 p1 p2) ?_
  show Gg1 p l e s m below meth c n0 h0 Z p0 p1 p2  0 0 h0 (mkF m 0 #[.val (.int p0), .val (.int p1), .val (.int p2)] [])
  refine G.iloadN B d1_0 (v := p1) rfl (pc' := 1) rfl ?_
  refine G.if_eq B d1_1 (by decide) (pcT := 16) (by decide) (pc' := 4) rfl (fun (hc1 : p1 = 0) => ?_) (fun (hc1 : p1 ≠ 0) => ?_)
  · refine G.iloadN B d1_16 (v := p0) rfl (pc' := 17) rfl ?_
    refine G.iloadN B d1_17 (v := p2) rfl (pc' := 18) rfl ?_
    refine G.iadd B d1_18 (pc' := 19) rfl ?_
    refine G.bipush B d1_19 (z := (6 : Int32)) rfl (pc' := 21) rfl ?_
    refine G.irem B d1_21 (by decide) (pc' := 22) rfl ?_
    exact G.retI B d1_22 (by decide) (by decide) ⟨rfl, own_at2 hb hj⟩
  · refine G.iloadN B d1_4 (v := p0) rfl (pc' := 5) rfl ?_
    refine G.bipush B d1_5 (z := (6 : Int32)) rfl (pc' := 7) rfl ?_
    refine G.iadd B d1_7 (pc' := 8) rfl ?_
    refine G.iloadN B d1_8 (v := p2) rfl (pc' := 9) rfl ?_
    refine G.isub B d1_9 (pc' := 10) rfl ?_
    refine G.bipush B d1_10 (z := (6 : Int32)) rfl (pc' := 12) rfl ?_
    refine G.irem B d1_12 (by decide) (pc' := 13) rfl ?_
    refine G.goto B d1_13 (by decide) (pc' := 22) (by decide) ?_
    exact G.retI B d1_22 (by decide) (by decide) ⟨rfl, own_at1 hb hj⟩
theorem d2_0 : decode prog_35_method_1_code 0 = .ok (.aload_n 0, 1) := by decide +kernel
theorem d2_1 : decode prog_35_method_1_code 1 = .ok (.invokespecial 1, 3) := by decide +kernel
theorem d2_4 : decode prog_35_method_1_code 4 = .ok (.aload_n 0, 1) := by decide +kernel
theorem d2_5 : decode prog_35_method_1_code 5 = .ok (.aload_n 1, 1) := by decide +kernel
theorem d2_6 : decode prog_35_method_1_code 6 = .ok (.putfield 7, 3) := by decide +kernel
theorem d2_9 : decode prog_35_method_1_code 9 = .ok (.aload_n 0, 1) := by decide +kernel
theorem d2_10 : decode prog_35_method_1_code 10 = .ok (.aload_n 2, 1) := by decide +kernel
theorem d2_11 : decode prog_35_method_1_code 11 = .ok (.putfield 13, 3) := by decide +kernel
theorem d2_14 : decode prog_35_method_1_code 14 = .ok (.return_, 1) := by decide +kernel
theorem pn_2 : plainFor (⟨"com/example/tacit/tacit/engine/Partition", "<init>", "([I[I)V"⟩ : MethodName) = true := plainFor_of_name (by first | (simp [plainName, overriddenIn]; done) | decide +kernel)
theorem ef_2 (m : MethodId) (r0 : Addr) (r1 : Addr) (r2 : Addr) : entryFrame m #[(.ref r0), (.ref r1), (.ref r2)] 3 = mkF m 0 #[.val (.ref r0), .val (.ref r1), .val (.ref r2)] [] := by first | (simp [entryFrame, mkF, argsToLocals, Value.category]; done) | rfl
theorem pd_0 : parseMethodDescriptor "()V" = some ⟨[], none⟩ := by decide +kernel
def Qq2 (Z : State) (r0 : Addr) (r1 : Addr) (r2 : Addr) (u0 u1 : Value) (h0 : Heap) : Heap → Prop := fun h' => O_Pt Z h' r0 (.ref r1) (.ref r2)
abbrev Gg2 (p : Program) (l : Launch) (e : Env) (s : State) (m : MethodId) (below : List Frame) (meth : Method) (c : Code) (n0 : Nat) (h0 : Heap) (Z : State) (r0 : Addr) (r1 : Addr) (r2 : Addr) (u0 u1 : Value) (cc ss : Nat) (hh : Heap) (gg : JFrame) : Prop := G p l e ({ frames := 1, cells := 0, slots := 0, locals := 12 } : Room) s m #[(.ref r0), (.ref r1), (.ref r2)] below meth c n0 h0 [r0] (RV (Qq2 Z r0 r1 r2 u0 u1 h0)) (FeN s ({ frames := 1, cells := 0, slots := 0, locals := 12 } : Room)) cc ss hh gg
set_option maxRecDepth 65536 in
set_option maxHeartbeats 40000000 in
theorem rm2 (l : Launch) (Z : State) (a0 : Array Value) (hw : ∀ d ∈ tables_1, d.before a0 Z = true) (r0 : Addr) (r1 : Addr) (r2 : Addr) (u0 u1 : Value) (h0 : Heap) (n0 : Nat) (hn : n0 ≤ h0.size) (O : O_Pt Z h0 r0 u0 u1) (hr : n0 ≤ r0) :
    Mt l Z (⟨"com/example/tacit/tacit/engine/Partition", "<init>", "([I[I)V"⟩ : MethodName) prog_35_method_1_code 3 none [] ({ frames := 1, cells := 0, slots := 0, locals := 12 } : Room) n0 #[(.ref r0), (.ref r1), (.ref r2)] h0 [r0] (RV (Qq2 Z r0 r1 r2 u0 u1 h0)) := by
  refine Mt.intro pn_2 hn (allS hr all0) ?_
  have hz : h0.size ≤ h0.size := Nat.le_refl _
  intro p e s m below meth c B
  refine G.entry (ef_2 m r0 r1 r2) ?_
  show Gg2 p l e s m below meth c n0 h0 Z r0 r1 r2 u0 u1 0 0 h0 (mkF m 0 #[.val (.ref r0), .val (.ref r1), .val (.ref r2)] [])
  refine G.aloadN B d2_0 (v := (.ref r0)) rfl rfl (pc' := 1) rfl ?_
  refine G.initO B (hw _ (List.mem_of_getElem? (i := 12) rfl)) (hw _ (List.mem_of_getElem? (i := 13) rfl)) (hw _ (List.mem_of_getElem? (i := 14) rfl)) rfl d2_1 (pc' := 4) rfl (by decide) (W := 0) (Nat.le_of_eq rfl) (by decide) ?_
  refine G.aloadN B d2_4 (v := (.ref r0)) rfl rfl (pc' := 5) rfl ?_
  refine G.aloadN B d2_5 (v := (.ref r1)) rfl rfl (pc' := 6) rfl ?_
  refine G.putF (C := "com/example/tacit/tacit/engine/Partition") B (hw _ (List.mem_of_getElem? (i := 15) rfl)) Via.refl O.2.1 O.1 (Or.inr ⟨(hw _ (List.mem_of_getElem? (i := 16) rfl)), rfl, rfl⟩) (hw _ (List.mem_of_getElem? (i := 7) rfl)) (ty := (.array .int)) (v' := (.ref r1)) (by decide) rfl rfl (Or.inl (List.mem_of_getElem? (i := 0) rfl)) d2_6 (pc' := 9) rfl (fun h1 W1 => ?_)
  replace O := O.set_0 hw W1
  replace hn := Nat.le_trans hn (Keep.of_wr W1).1
  replace hz := Nat.le_trans hz (Keep.of_wr W1).1
  refine G.aloadN B d2_9 (v := (.ref r0)) rfl rfl (pc' := 10) rfl ?_
  refine G.aloadN B d2_10 (v := (.ref r2)) rfl rfl (pc' := 11) rfl ?_
  refine G.putF (C := "com/example/tacit/tacit/engine/Partition") B (hw _ (List.mem_of_getElem? (i := 17) rfl)) Via.refl O.2.2 O.1 (Or.inr ⟨(hw _ (List.mem_of_getElem? (i := 18) rfl)), rfl, rfl⟩) (hw _ (List.mem_of_getElem? (i := 7) rfl)) (ty := (.array .int)) (v' := (.ref r2)) (by decide) rfl rfl (Or.inl (List.mem_of_getElem? (i := 0) rfl)) d2_11 (pc' := 14) rfl (fun h2 W2 => ?_)
  replace O := O.set_1 hw W2
  replace hn := Nat.le_trans hn (Keep.of_wr W2).1
  replace hz := Nat.le_trans hz (Keep.of_wr W2).1
  exact G.retV B d2_14 (by decide) (by decide) O
theorem d4_0 : decode prog_25_method_1_code 0 = .ok (.aload_n 0, 1) := by decide +kernel
theorem d4_1 : decode prog_25_method_1_code 1 = .ok (.invokespecial 1, 3) := by decide +kernel
theorem d4_4 : decode prog_25_method_1_code 4 = .ok (.aload_n 0, 1) := by decide +kernel
theorem d4_5 : decode prog_25_method_1_code 5 = .ok (.aload_n 1, 1) := by decide +kernel
theorem d4_6 : decode prog_25_method_1_code 6 = .ok (.putfield 7, 3) := by decide +kernel
theorem d4_9 : decode prog_25_method_1_code 9 = .ok (.aload_n 0, 1) := by decide +kernel
theorem d4_10 : decode prog_25_method_1_code 10 = .ok (.aload_n 2, 1) := by decide +kernel
theorem d4_11 : decode prog_25_method_1_code 11 = .ok (.putfield 13, 3) := by decide +kernel
theorem d4_14 : decode prog_25_method_1_code 14 = .ok (.aload_n 0, 1) := by decide +kernel
theorem d4_15 : decode prog_25_method_1_code 15 = .ok (.iload_n 3, 1) := by decide +kernel
theorem d4_16 : decode prog_25_method_1_code 16 = .ok (.putfield 17, 3) := by decide +kernel
theorem d4_19 : decode prog_25_method_1_code 19 = .ok (.aload_n 0, 1) := by decide +kernel
theorem d4_20 : decode prog_25_method_1_code 20 = .ok (.iload 4, 2) := by decide +kernel
theorem d4_22 : decode prog_25_method_1_code 22 = .ok (.putfield 21, 3) := by decide +kernel
theorem d4_25 : decode prog_25_method_1_code 25 = .ok (.return_, 1) := by decide +kernel
theorem pn_4 : plainFor (⟨"com/example/tacit/tacit/engine/Column", "<init>", "(Ljava/lang/String;[IIZ)V"⟩ : MethodName) = true := plainFor_of_name (by first | (simp [plainName, overriddenIn]; done) | decide +kernel)
theorem ef_4 (m : MethodId) (r0 : Addr) (r1 : Addr) (r2 : Addr) (p3 : Int32) (p4 : Int32) : entryFrame m #[(.ref r0), (.ref r1), (.ref r2), (.int p3), (.int p4)] 5 = mkF m 0 #[.val (.ref r0), .val (.ref r1), .val (.ref r2), .val (.int p3), .val (.int p4)] [] := by first | (simp [entryFrame, mkF, argsToLocals, Value.category]; done) | rfl
def Qq4 (Z : State) (r0 : Addr) (r1 : Addr) (r2 : Addr) (p3 : Int32) (p4 : Int32) (u0 u1 : Value) (u2 u3 : Int32) (h0 : Heap) : Heap → Prop := fun h' => O_Co Z h' r0 (.ref r1) (.ref r2) p3 (nar .boolean p4)
abbrev Gg4 (p : Program) (l : Launch) (e : Env) (s : State) (m : MethodId) (below : List Frame) (meth : Method) (c : Code) (n0 : Nat) (h0 : Heap) (Z : State) (r0 : Addr) (r1 : Addr) (r2 : Addr) (p3 : Int32) (p4 : Int32) (u0 u1 : Value) (u2 u3 : Int32) (cc ss : Nat) (hh : Heap) (gg : JFrame) : Prop := G p l e ({ frames := 1, cells := 0, slots := 0, locals := 12 } : Room) s m #[(.ref r0), (.ref r1), (.ref r2), (.int p3), (.int p4)] below meth c n0 h0 [r0] (RV (Qq4 Z r0 r1 r2 p3 p4 u0 u1 u2 u3 h0)) (FeN s ({ frames := 1, cells := 0, slots := 0, locals := 12 } : Room)) cc ss hh gg
set_option maxRecDepth 65536 in
set_option maxHeartbeats 40000000 in
theorem rm4 (l : Launch) (Z : State) (a0 : Array Value) (hw : ∀ d ∈ tables_1, d.before a0 Z = true) (r0 : Addr) (r1 : Addr) (r2 : Addr) (p3 : Int32) (p4 : Int32) (u0 u1 : Value) (u2 u3 : Int32) (h0 : Heap) (n0 : Nat) (hn : n0 ≤ h0.size) (O : O_Co Z h0 r0 u0 u1 u2 u3) (hr : n0 ≤ r0) :
    Mt l Z (⟨"com/example/tacit/tacit/engine/Column", "<init>", "(Ljava/lang/String;[IIZ)V"⟩ : MethodName) prog_25_method_1_code 5 none [] ({ frames := 1, cells := 0, slots := 0, locals := 12 } : Room) n0 #[(.ref r0), (.ref r1), (.ref r2), (.int p3), (.int p4)] h0 [r0] (RV (Qq4 Z r0 r1 r2 p3 p4 u0 u1 u2 u3 h0)) := by
  refine Mt.intro pn_4 hn (allS hr all0) ?_
  have hz : h0.size ≤ h0.size := Nat.le_refl _
  intro p e s m below meth c B
  refine G.entry (ef_4 m r0 r1 r2 p3 p4) ?_
  show Gg4 p l e s m below meth c n0 h0 Z r0 r1 r2 p3 p4 u0 u1 u2 u3 0 0 h0 (mkF m 0 #[.val (.ref r0), .val (.ref r1), .val (.ref r2), .val (.int p3), .val (.int p4)] [])
  refine G.aloadN B d4_0 (v := (.ref r0)) rfl rfl (pc' := 1) rfl ?_
  refine G.initO B (hw _ (List.mem_of_getElem? (i := 33) rfl)) (hw _ (List.mem_of_getElem? (i := 13) rfl)) (hw _ (List.mem_of_getElem? (i := 14) rfl)) rfl d4_1 (pc' := 4) rfl (by decide) (W := 0) (Nat.le_of_eq rfl) (by decide) ?_
  refine G.aloadN B d4_4 (v := (.ref r0)) rfl rfl (pc' := 5) rfl ?_
  refine G.aloadN B d4_5 (v := (.ref r1)) rfl rfl (pc' := 6) rfl ?_
  refine G.putF (C := "com/example/tacit/tacit/engine/Column") B (hw _ (List.mem_of_getElem? (i := 34) rfl)) Via.refl O.2.1 O.1 (Or.inr ⟨(hw _ (List.mem_of_getElem? (i := 35) rfl)), rfl, rfl⟩) (hw _ (List.mem_of_getElem? (i := 20) rfl)) (ty := (.object "java/lang/String")) (v' := (.ref r1)) (by decide) rfl rfl (Or.inl (List.mem_of_getElem? (i := 0) rfl)) d4_6 (pc' := 9) rfl (fun h1 W1 => ?_)
  replace O := O.set_0 hw W1
  replace hn := Nat.le_trans hn (Keep.of_wr W1).1
  replace hz := Nat.le_trans hz (Keep.of_wr W1).1
  refine G.aloadN B d4_9 (v := (.ref r0)) rfl rfl (pc' := 10) rfl ?_
  refine G.aloadN B d4_10 (v := (.ref r2)) rfl rfl (pc' := 11) rfl ?_
  refine G.putF (C := "com/example/tacit/tacit/engine/Column") B (hw _ (List.mem_of_getElem? (i := 36) rfl)) Via.refl O.2.2.1 O.1 (Or.inr ⟨(hw _ (List.mem_of_getElem? (i := 37) rfl)), rfl, rfl⟩) (hw _ (List.mem_of_getElem? (i := 20) rfl)) (ty := (.array .int)) (v' := (.ref r2)) (by decide) rfl rfl (Or.inl (List.mem_of_getElem? (i := 0) rfl)) d4_11 (pc' := 14) rfl (fun h2 W2 => ?_)
  replace O := O.set_1 hw W2
  replace hn := Nat.le_trans hn (Keep.of_wr W2).1
  replace hz := Nat.le_trans hz (Keep.of_wr W2).1
  refine G.aloadN B d4_14 (v := (.ref r0)) rfl rfl (pc' := 15) rfl ?_
  refine G.iloadN B d4_15 (v := p3) rfl (pc' := 16) rfl ?_
  refine G.putF (C := "com/example/tacit/tacit/engine/Column") B (hw _ (List.mem_of_getElem? (i := 38) rfl)) Via.refl O.2.2.2.1 O.1 (Or.inr ⟨(hw _ (List.mem_of_getElem? (i := 39) rfl)), rfl, rfl⟩) (hw _ (List.mem_of_getElem? (i := 20) rfl)) (ty := .int) (v' := (.int p3)) (by decide) rfl rfl (Or.inl (List.mem_of_getElem? (i := 0) rfl)) d4_16 (pc' := 19) rfl (fun h3 W3 => ?_)
  replace O := O.set_2 hw W3
  replace hn := Nat.le_trans hn (Keep.of_wr W3).1
  replace hz := Nat.le_trans hz (Keep.of_wr W3).1
  refine G.aloadN B d4_19 (v := (.ref r0)) rfl rfl (pc' := 20) rfl ?_
  refine G.iload B d4_20 (v := p4) rfl (pc' := 22) rfl ?_
  refine G.putF (C := "com/example/tacit/tacit/engine/Column") B (hw _ (List.mem_of_getElem? (i := 40) rfl)) Via.refl O.2.2.2.2 O.1 (Or.inr ⟨(hw _ (List.mem_of_getElem? (i := 41) rfl)), rfl, rfl⟩) (hw _ (List.mem_of_getElem? (i := 20) rfl)) (ty := .boolean) (v' := (.int (nar .boolean p4))) (by decide) rfl (fits_nar_bool _) (Or.inl (List.mem_of_getElem? (i := 0) rfl)) d4_22 (pc' := 25) rfl (fun h4 W4 => ?_)
  replace O := O.set_3 hw W4
  replace hn := Nat.le_trans hn (Keep.of_wr W4).1
  replace hz := Nat.le_trans hz (Keep.of_wr W4).1
  exact G.retV B d4_25 (by decide) (by decide) O
def VV (fc fr : Nat → Int32) (j : Nat) : Int32 := fc (fr j).toInt.toNat
/-- the classes before the c-th hold one value each -/
def Ok (fc fr : Nat → Int32) (sN : Nat → Nat) (c : Nat) : Prop := ∀ j, sN c < j → j < sN (c + 1) → VV fc fr j = VV fc fr (sN c)
theorem own_nn {x : Int32} (h : 0 ≤ x.toInt ∧ x.toInt ≤ 5) : x.toInt = (x.toInt.toNat : Int) ∧ x.toInt.toNat < 6 := by omega
theorem own_inc {x : Int32} {i : Nat} (h : x.toInt = (i : Int)) (hi : i ≤ 1000) : (x + (1 : Int32)).toInt = ((i + 1 : Nat) : Int) := by
  have h1 := c_iadd x (1 : Int32)
  have h2 : (1 : Int32).toInt = 1 := by decide
  have h3 := rng32 (x + (1 : Int32))
  omega
theorem own_ofN {n : Nat} (h : n ≤ 1000) : (Int32.ofNat n).toInt = (n : Int) := Int32.toInt_ofNat_of_lt (by omega)
theorem d5_0 : decode prog_35_method_3_code 0 = .ok (.iconst 0, 1) := by decide +kernel
theorem d5_1 : decode prog_35_method_3_code 1 = .ok (.istore_n 2, 1) := by decide +kernel
theorem d5_2 : decode prog_35_method_3_code 2 = .ok (.iload_n 2, 1) := by decide +kernel
theorem d5_3 : decode prog_35_method_3_code 3 = .ok (.iconst 1, 1) := by decide +kernel
theorem d5_4 : decode prog_35_method_3_code 4 = .ok (.iadd, 1) := by decide +kernel
theorem d5_5 : decode prog_35_method_3_code 5 = .ok (.aload_n 0, 1) := by decide +kernel
theorem d5_6 : decode prog_35_method_3_code 6 = .ok (.getfield 13, 3) := by decide +kernel
theorem d5_9 : decode prog_35_method_3_code 9 = .ok (.arraylength, 1) := by decide +kernel
theorem d5_10 : decode prog_35_method_3_code 10 = .ok (.if_icmp .ge 73, 3) := by decide +kernel
theorem d5_13 : decode prog_35_method_3_code 13 = .ok (.aload_n 1, 1) := by decide +kernel
theorem d5_14 : decode prog_35_method_3_code 14 = .ok (.getfield 29, 3) := by decide +kernel
theorem d5_17 : decode prog_35_method_3_code 17 = .ok (.aload_n 0, 1) := by decide +kernel
theorem d5_18 : decode prog_35_method_3_code 18 = .ok (.getfield 7, 3) := by decide +kernel
theorem d5_21 : decode prog_35_method_3_code 21 = .ok (.aload_n 0, 1) := by decide +kernel
theorem d5_22 : decode prog_35_method_3_code 22 = .ok (.getfield 13, 3) := by decide +kernel
theorem d5_25 : decode prog_35_method_3_code 25 = .ok (.iload_n 2, 1) := by decide +kernel
theorem d5_26 : decode prog_35_method_3_code 26 = .ok (.iaload, 1) := by decide +kernel
theorem d5_27 : decode prog_35_method_3_code 27 = .ok (.iaload, 1) := by decide +kernel
theorem d5_28 : decode prog_35_method_3_code 28 = .ok (.iaload, 1) := by decide +kernel
theorem d5_29 : decode prog_35_method_3_code 29 = .ok (.istore_n 3, 1) := by decide +kernel
theorem d5_30 : decode prog_35_method_3_code 30 = .ok (.aload_n 0, 1) := by decide +kernel
theorem d5_31 : decode prog_35_method_3_code 31 = .ok (.getfield 13, 3) := by decide +kernel
theorem d5_34 : decode prog_35_method_3_code 34 = .ok (.iload_n 2, 1) := by decide +kernel
theorem d5_35 : decode prog_35_method_3_code 35 = .ok (.iaload, 1) := by decide +kernel
theorem d5_36 : decode prog_35_method_3_code 36 = .ok (.iconst 1, 1) := by decide +kernel
theorem d5_37 : decode prog_35_method_3_code 37 = .ok (.iadd, 1) := by decide +kernel
theorem d5_38 : decode prog_35_method_3_code 38 = .ok (.istore 4, 2) := by decide +kernel
theorem d5_40 : decode prog_35_method_3_code 40 = .ok (.iload 4, 2) := by decide +kernel
theorem d5_42 : decode prog_35_method_3_code 42 = .ok (.aload_n 0, 1) := by decide +kernel
theorem d5_43 : decode prog_35_method_3_code 43 = .ok (.getfield 13, 3) := by decide +kernel
theorem d5_46 : decode prog_35_method_3_code 46 = .ok (.iload_n 2, 1) := by decide +kernel
theorem d5_47 : decode prog_35_method_3_code 47 = .ok (.iconst 1, 1) := by decide +kernel
theorem d5_48 : decode prog_35_method_3_code 48 = .ok (.iadd, 1) := by decide +kernel
theorem d5_49 : decode prog_35_method_3_code 49 = .ok (.iaload, 1) := by decide +kernel
theorem d5_50 : decode prog_35_method_3_code 50 = .ok (.if_icmp .ge 27, 3) := by decide +kernel
theorem d5_53 : decode prog_35_method_3_code 53 = .ok (.aload_n 1, 1) := by decide +kernel
theorem d5_54 : decode prog_35_method_3_code 54 = .ok (.getfield 29, 3) := by decide +kernel
theorem d5_57 : decode prog_35_method_3_code 57 = .ok (.aload_n 0, 1) := by decide +kernel
theorem d5_58 : decode prog_35_method_3_code 58 = .ok (.getfield 7, 3) := by decide +kernel
theorem d5_61 : decode prog_35_method_3_code 61 = .ok (.iload 4, 2) := by decide +kernel
theorem d5_63 : decode prog_35_method_3_code 63 = .ok (.iaload, 1) := by decide +kernel
theorem d5_64 : decode prog_35_method_3_code 64 = .ok (.iaload, 1) := by decide +kernel
theorem d5_65 : decode prog_35_method_3_code 65 = .ok (.iload_n 3, 1) := by decide +kernel
theorem d5_66 : decode prog_35_method_3_code 66 = .ok (.if_icmp .eq 5, 3) := by decide +kernel
theorem d5_69 : decode prog_35_method_3_code 69 = .ok (.iconst 0, 1) := by decide +kernel
theorem d5_70 : decode prog_35_method_3_code 70 = .ok (.ireturn, 1) := by decide +kernel
theorem d5_71 : decode prog_35_method_3_code 71 = .ok (.iinc 4 1, 3) := by decide +kernel
theorem d5_74 : decode prog_35_method_3_code 74 = .ok (.goto (-34), 3) := by decide +kernel
theorem d5_77 : decode prog_35_method_3_code 77 = .ok (.iinc 2 1, 3) := by decide +kernel
theorem d5_80 : decode prog_35_method_3_code 80 = .ok (.goto (-78), 3) := by decide +kernel
theorem d5_83 : decode prog_35_method_3_code 83 = .ok (.iconst 1, 1) := by decide +kernel
theorem d5_84 : decode prog_35_method_3_code 84 = .ok (.ireturn, 1) := by decide +kernel
theorem pn_5 : plainFor (⟨"com/example/tacit/tacit/engine/Partition", "determines", "(Lcom/example/tacit/tacit/engine/Column;)Z"⟩ : MethodName) = true := plainFor_of_name (by first | (simp [plainName, overriddenIn]; done) | decide +kernel)
theorem ef_5 (m : MethodId) (r0 : Addr) (r1 : Addr) : entryFrame m #[(.ref r0), (.ref r1)] 5 = mkF m 0 #[.val (.ref r0), .val (.ref r1), .unset, .unset, .unset] [] := by first | (simp [entryFrame, mkF, argsToLocals, Value.category]; done) | rfl
def Qq5 (Z : State) (r0 : Addr) (r1 : Addr) (rw sta cd : Addr) (nv : Value) (ca nu : Int32) (n ns : Nat) (fr fs fc : Nat → Int32) (sN : Nat → Nat) (h0 : Heap) : Int32 → Heap → Prop := fun z h' => h0 = h' ∧ ((z = 1 ∧ ∀ c, c + 1 < ns → Ok fc fr sN c) ∨ (z = 0 ∧ ∃ c j, c + 1 < ns ∧ sN c < j ∧ j < sN (c + 1) ∧ VV fc fr j ≠ VV fc fr (sN c)))
abbrev Gg5 (p : Program) (l : Launch) (e : Env) (s : State) (m : MethodId) (below : List Frame) (meth : Method) (c : Code) (n0 : Nat) (h0 : Heap) (Z : State) (r0 : Addr) (r1 : Addr) (rw sta cd : Addr) (nv : Value) (ca nu : Int32) (n ns : Nat) (fr fs fc : Nat → Int32) (sN : Nat → Nat) (cc ss : Nat) (hh : Heap) (gg : JFrame) : Prop := G p l e ({ frames := 0, cells := 0, slots := 0, locals := 0 } : Room) s m #[(.ref r0), (.ref r1)] below meth c n0 h0 [] (RI (Qq5 Z r0 r1 rw sta cd nv ca nu n ns fr fs fc sN h0)) (FeN s ({ frames := 0, cells := 0, slots := 0, locals := 0 } : Room)) cc ss hh gg
set_option maxRecDepth 65536 in
set_option maxHeartbeats 40000000 in
theorem rm5 (l : Launch) (Z : State) (a0 : Array Value) (hw : ∀ d ∈ tables_1, d.before a0 Z = true) (r0 : Addr) (r1 : Addr) (rw sta cd : Addr) (nv : Value) (ca nu : Int32) (n ns : Nat) (fr fs fc : Nat → Int32) (sN : Nat → Nat) (h0 : Heap) (n0 : Nat) (hn : n0 ≤ h0.size) (O : O_Pt Z h0 r0 (.ref rw) (.ref sta)) (Oc : O_Co Z h0 r1 nv (.ref cd) ca nu) (Ar : ArI Z h0 rw .int n fr) (As : ArI Z h0 sta .int ns fs) (Ac : ArI Z h0 cd .int 6 fc) (hns : 1 ≤ ns ∧ ns ≤ 4) (hn6 : n ≤ 6) (hs : ∀ c, c < ns → (fs c).toInt = (sN c : Int)) (hmo : ∀ c, c + 1 < ns → sN c < sN (c + 1) ∧ sN (c + 1) ≤ n) (hrow : ∀ j, j < n → 0 ≤ (fr j).toInt ∧ (fr j).toInt ≤ 5) :
    Mt l Z (⟨"com/example/tacit/tacit/engine/Partition", "determines", "(Lcom/example/tacit/tacit/engine/Column;)Z"⟩ : MethodName) prog_35_method_3_code 5 (some .boolean) [] ({ frames := 0, cells := 0, slots := 0, locals := 0 } : Room) n0 #[(.ref r0), (.ref r1)] h0 [] (RI (Qq5 Z r0 r1 rw sta cd nv ca nu n ns fr fs fc sN h0)) := by
  refine Mt.intro pn_5 hn (fun x hx => nomatch hx) ?_
  have hz : h0.size ≤ h0.size := Nat.le_refl _
  intro p e s m below meth c B
  refine G.entry (ef_5 m r0 r1) ?_
  show Gg5 p l e s m below meth c n0 h0 Z r0 r1 rw sta cd nv ca nu n ns fr fs fc sN 0 0 h0 (mkF m 0 #[.val (.ref r0), .val (.ref r1), .unset, .unset, .unset] [])
  have hN := own_ofN (n := ns) (by omega)
  refine G.iconst B d5_0 (z := (0 : Int32)) rfl (pc' := 1) rfl ?_
  refine G.istoreN B d5_1 (ls' := #[.val (.ref r0), .val (.ref r1), .val (.int (0 : Int32)), .unset, .unset]) rfl (pc' := 2) rfl ?_
  have loop : ∀ (k : Nat) (cl : Nat) (ci : Int32) (s3 : Slot) (s4 : Slot), (cl + k + 1 = ns) → (ci.toInt = (cl : Int)) → (∀ c, c < cl → Ok fc fr sN c) → (One s3) → (One s4) → Gg5 p l e s m below meth c n0 h0 Z r0 r1 rw sta cd nv ca nu n ns fr fs fc sN 0 0 h0 (mkF m 2 #[.val (.ref r0), .val (.ref r1), .val (.int ci), s3, s4] []) := by
    intro k
    induction k with
    | zero =>
      intro cl ci s3 s4 hc hci hok hs3 hs4
      have hci1 := own_inc hci (by omega)
      refine G.iloadN B d5_2 (v := ci) rfl (pc' := 3) rfl ?_
      refine G.iconst B d5_3 (z := (1 : Int32)) rfl (pc' := 4) rfl ?_
      refine G.iadd B d5_4 (pc' := 5) rfl ?_
      refine G.aloadN B d5_5 (v := (.ref r0)) rfl rfl (pc' := 6) rfl ?_
      refine G.getF B (host := "") (Or.inl (hw _ (List.mem_of_getElem? (i := 17) rfl))) Via.refl O.2.2 d5_6 (pc' := 9) rfl ?_
      refine G.lenI B As (z := (Int32.ofNat ns)) rfl d5_9 (pc' := 10) rfl ?_
      have hc10 : (Int32.ofNat ns).toInt ≤ (ci + (1 : Int32)).toInt := by omega
      refine G.icmp_ge B d5_10 (by decide) (pcT := 83) (by decide) (pc' := 13) rfl (fun _ => ?_) (fun q => absurd q (by first | exact Int.not_lt.mpr hc10 | exact Int.not_le.mpr hc10))
      refine G.iconst B d5_83 (z := (1 : Int32)) rfl (pc' := 84) rfl ?_
      exact G.retZ B d5_84 (by decide) (by decide) (Or.inr rfl) ⟨rfl, Or.inl ⟨rfl, fun c hc => hok c (by omega)⟩⟩
    | succ k ih =>
      intro cl ci s3 s4 hc hci hok hs3 hs4
      have hci1 := own_inc hci (by omega)
      refine G.iloadN B d5_2 (v := ci) rfl (pc' := 3) rfl ?_
      refine G.iconst B d5_3 (z := (1 : Int32)) rfl (pc' := 4) rfl ?_
      refine G.iadd B d5_4 (pc' := 5) rfl ?_
      refine G.aloadN B d5_5 (v := (.ref r0)) rfl rfl (pc' := 6) rfl ?_
      refine G.getF B (host := "") (Or.inl (hw _ (List.mem_of_getElem? (i := 17) rfl))) Via.refl O.2.2 d5_6 (pc' := 9) rfl ?_
      refine G.lenI B As (z := (Int32.ofNat ns)) rfl d5_9 (pc' := 10) rfl ?_
      have hc10 : (ci + (1 : Int32)).toInt < (Int32.ofNat ns).toInt := by omega
      refine G.icmp_ge B d5_10 (by decide) (pcT := 83) (by decide) (pc' := 13) rfl (fun q => absurd q (by first | exact Int.not_lt.mpr hc10 | exact Int.not_le.mpr hc10)) (fun _ => ?_)
      obtain ⟨hm1, hm2⟩ := hmo cl (by omega)
      have hs0 := hs cl (by omega)
      have hs1 := hs (cl + 1) (by omega)
      obtain ⟨hr1, hr2⟩ := own_nn (hrow (sN cl) (by omega))
      refine G.aloadN B d5_13 (v := (.ref r1)) rfl rfl (pc' := 14) rfl ?_
      refine G.getF B (host := "") (Or.inl (hw _ (List.mem_of_getElem? (i := 47) rfl))) Via.refl Oc.2.2.1 d5_14 (pc' := 17) rfl ?_
      refine G.aloadN B d5_17 (v := (.ref r0)) rfl rfl (pc' := 18) rfl ?_
      refine G.getF B (host := "") (Or.inl (hw _ (List.mem_of_getElem? (i := 15) rfl))) Via.refl O.2.1 d5_18 (pc' := 21) rfl ?_
      refine G.aloadN B d5_21 (v := (.ref r0)) rfl rfl (pc' := 22) rfl ?_
      refine G.getF B (host := "") (Or.inl (hw _ (List.mem_of_getElem? (i := 17) rfl))) Via.refl O.2.2 d5_22 (pc' := 25) rfl ?_
      refine G.iloadN B d5_25 (v := ci) rfl (pc' := 26) rfl ?_
      refine G.ldI B As (i := cl) hci (by omega) (x := (fs cl)) rfl d5_26 (pc' := 27) rfl ?_
      refine G.ldI B Ar (i := (sN cl)) hs0 (by omega) (x := (fr (sN cl))) rfl d5_27 (pc' := 28) rfl ?_
      refine G.ldI B Ac (i := (fr (sN cl)).toInt.toNat) hr1 hr2 (x := (VV fc fr (sN cl))) rfl d5_28 (pc' := 29) rfl ?_
      have hos : storeLocals #[.val (.ref r0), .val (.ref r1), .val (.int ci), s3, s4] 3 (.int (VV fc fr (sN cl))) = some #[.val (.ref r0), .val (.ref r1), .val (.int ci), .val (.int (VV fc fr (sN cl))), s4] := by
        rcases hs3 with rfl | ⟨w, rfl, hw⟩
        · rfl
        · cases w <;> first | rfl | (simp [Value.category] at hw)
      refine G.istoreN B d5_29 hos (pc' := 30) rfl ?_
      refine G.aloadN B d5_30 (v := (.ref r0)) rfl rfl (pc' := 31) rfl ?_
      refine G.getF B (host := "") (Or.inl (hw _ (List.mem_of_getElem? (i := 17) rfl))) Via.refl O.2.2 d5_31 (pc' := 34) rfl ?_
      refine G.iloadN B d5_34 (v := ci) rfl (pc' := 35) rfl ?_
      refine G.ldI B As (i := cl) hci (by omega) (x := (fs cl)) rfl d5_35 (pc' := 36) rfl ?_
      refine G.iconst B d5_36 (z := (1 : Int32)) rfl (pc' := 37) rfl ?_
      refine G.iadd B d5_37 (pc' := 38) rfl ?_
      have hos : storeLocals #[.val (.ref r0), .val (.ref r1), .val (.int ci), .val (.int (VV fc fr (sN cl))), s4] 4 (.int ((fs cl) + (1 : Int32))) = some #[.val (.ref r0), .val (.ref r1), .val (.int ci), .val (.int (VV fc fr (sN cl))), .val (.int ((fs cl) + (1 : Int32)))] := by
        rcases hs4 with rfl | ⟨w, rfl, hw⟩
        · rfl
        · cases w <;> first | rfl | (simp [Value.category] at hw)
      refine G.istore B d5_38 hos (pc' := 40) rfl ?_
      have hfs := own_inc hs0 (by omega)
      have inner : ∀ (k : Nat) (j : Nat) (ji : Int32), (j + k = sN (cl + 1)) → (sN cl < j) → (ji.toInt = (j : Int)) → (∀ j', sN cl < j' → j' < j → VV fc fr j' = VV fc fr (sN cl)) → Gg5 p l e s m below meth c n0 h0 Z r0 r1 rw sta cd nv ca nu n ns fr fs fc sN 0 0 h0 (mkF m 40 #[.val (.ref r0), .val (.ref r1), .val (.int ci), .val (.int (VV fc fr (sN cl))), .val (.int ji)] []) := by
        intro k
        induction k with
        | zero =>
          intro j ji hj hj1 hji hin
          rw [Nat.add_zero] at hj
          subst hj
          refine G.iload B d5_40 (v := ji) rfl (pc' := 42) rfl ?_
          refine G.aloadN B d5_42 (v := (.ref r0)) rfl rfl (pc' := 43) rfl ?_
          refine G.getF B (host := "") (Or.inl (hw _ (List.mem_of_getElem? (i := 17) rfl))) Via.refl O.2.2 d5_43 (pc' := 46) rfl ?_
          refine G.iloadN B d5_46 (v := ci) rfl (pc' := 47) rfl ?_
          refine G.iconst B d5_47 (z := (1 : Int32)) rfl (pc' := 48) rfl ?_
          refine G.iadd B d5_48 (pc' := 49) rfl ?_
          refine G.ldI B As (i := (cl + 1)) hci1 (by omega) (x := (fs (cl + 1))) rfl d5_49 (pc' := 50) rfl ?_
          have hc50 : (fs (cl + 1)).toInt ≤ ji.toInt := by omega
          refine G.icmp_ge B d5_50 (by decide) (pcT := 77) (by decide) (pc' := 53) rfl (fun _ => ?_) (fun q => absurd q (by first | exact Int.not_lt.mpr hc50 | exact Int.not_le.mpr hc50))
          refine G.iinc B d5_77 (x := ci) rfl (z := (ci + (1 : Int32))) rfl (ls' := #[.val (.ref r0), .val (.ref r1), .val (.int (ci + (1 : Int32))), .val (.int (VV fc fr (sN cl))), .val (.int ji)]) rfl (pc' := 80) rfl ?_
          refine G.goto B d5_80 (by decide) (pc' := 2) (by decide) ?_
          exact ih (cl + 1) (ci + (1 : Int32)) (.val (.int (VV fc fr (sN cl)))) (.val (.int ji)) (by omega) hci1 (fun c hc => by
            by_cases e : c = cl
            · subst e; exact hin
            · exact hok c (by omega)) (One.val rfl) (One.val rfl)
        | succ k ih =>
          intro j ji hj hj1 hji hin
          refine G.iload B d5_40 (v := ji) rfl (pc' := 42) rfl ?_
          refine G.aloadN B d5_42 (v := (.ref r0)) rfl rfl (pc' := 43) rfl ?_
          refine G.getF B (host := "") (Or.inl (hw _ (List.mem_of_getElem? (i := 17) rfl))) Via.refl O.2.2 d5_43 (pc' := 46) rfl ?_
          refine G.iloadN B d5_46 (v := ci) rfl (pc' := 47) rfl ?_
          refine G.iconst B d5_47 (z := (1 : Int32)) rfl (pc' := 48) rfl ?_
          refine G.iadd B d5_48 (pc' := 49) rfl ?_
          refine G.ldI B As (i := (cl + 1)) hci1 (by omega) (x := (fs (cl + 1))) rfl d5_49 (pc' := 50) rfl ?_
          have hc50 : ji.toInt < (fs (cl + 1)).toInt := by omega
          refine G.icmp_ge B d5_50 (by decide) (pcT := 77) (by decide) (pc' := 53) rfl (fun q => absurd q (by first | exact Int.not_lt.mpr hc50 | exact Int.not_le.mpr hc50)) (fun _ => ?_)
          obtain ⟨hr3, hr4⟩ := own_nn (hrow j (by omega))
          refine G.aloadN B d5_53 (v := (.ref r1)) rfl rfl (pc' := 54) rfl ?_
          refine G.getF B (host := "") (Or.inl (hw _ (List.mem_of_getElem? (i := 47) rfl))) Via.refl Oc.2.2.1 d5_54 (pc' := 57) rfl ?_
          refine G.aloadN B d5_57 (v := (.ref r0)) rfl rfl (pc' := 58) rfl ?_
          refine G.getF B (host := "") (Or.inl (hw _ (List.mem_of_getElem? (i := 15) rfl))) Via.refl O.2.1 d5_58 (pc' := 61) rfl ?_
          refine G.iload B d5_61 (v := ji) rfl (pc' := 63) rfl ?_
          refine G.ldI B Ar (i := j) hji (by omega) (x := (fr j)) rfl d5_63 (pc' := 64) rfl ?_
          refine G.ldI B Ac (i := (fr j).toInt.toNat) hr3 hr4 (x := (VV fc fr j)) rfl d5_64 (pc' := 65) rfl ?_
          refine G.iloadN B d5_65 (v := (VV fc fr (sN cl))) rfl (pc' := 66) rfl ?_
          refine G.icmp_eq B d5_66 (by decide) (pcT := 71) (by decide) (pc' := 69) rfl (fun (hc66 : (VV fc fr j) = (VV fc fr (sN cl))) => ?_) (fun (hc66 : (VV fc fr j) ≠ (VV fc fr (sN cl))) => ?_)
          · refine G.iinc B d5_71 (x := ji) rfl (z := (ji + (1 : Int32))) rfl (ls' := #[.val (.ref r0), .val (.ref r1), .val (.int ci), .val (.int (VV fc fr (sN cl))), .val (.int (ji + (1 : Int32)))]) rfl (pc' := 74) rfl ?_
            refine G.goto B d5_74 (by decide) (pc' := 40) (by decide) ?_
            exact ih (j + 1) (ji + (1 : Int32)) (by omega) (by omega) (own_inc hji (by omega)) (fun j' h1 h2 => by
              by_cases e : j' = j
              · subst e; exact hc66
              · exact hin j' h1 (by omega))
          · refine G.iconst B d5_69 (z := (0 : Int32)) rfl (pc' := 70) rfl ?_
            exact G.retZ B d5_70 (by decide) (by decide) (Or.inl rfl) ⟨rfl, Or.inr ⟨rfl, cl, j, by omega, hj1, by omega, hc66⟩⟩
      exact inner (sN (cl + 1) - (sN cl + 1)) (sN cl + 1) (fs cl + (1 : Int32)) (by omega) (by omega) hfs (fun j' h1 h2 => by omega)
  exact loop (ns - 1) 0 (0 : Int32) .unset .unset (by omega) (by decide) (fun c hc => by omega) One.u One.u
def Shp (sh nn : Int32) (ns : Nat) (fs : Nat → Int32) : Prop := (sh = 0 ∧ nn = 0 ∧ ns = 1 ∧ fs 0 = 0) ∨ (sh = 1 ∧ nn = 2 ∧ ns = 2 ∧ fs 0 = 0 ∧ fs 1 = 2) ∨ (sh = 2 ∧ nn = 4 ∧ ns = 2 ∧ fs 0 = 0 ∧ fs 1 = 4) ∨ (sh = 3 ∧ nn = 6 ∧ ns = 2 ∧ fs 0 = 0 ∧ fs 1 = 6) ∨ (sh = 4 ∧ nn = 4 ∧ ns = 3 ∧ fs 0 = 0 ∧ fs 1 = 2 ∧ fs 2 = 4) ∨ (sh = 5 ∧ nn = 5 ∧ ns = 3 ∧ fs 0 = 0 ∧ fs 1 = 3 ∧ fs 2 = 5) ∨ (sh = 6 ∧ nn = 6 ∧ ns = 3 ∧ fs 0 = 0 ∧ fs 1 = 2 ∧ fs 2 = 6) ∨ ((sh ≠ 0 ∧ sh ≠ 1 ∧ sh ≠ 2 ∧ sh ≠ 3 ∧ sh ≠ 4 ∧ sh ≠ 5 ∧ sh ≠ 6) ∧ nn = 6 ∧ ns = 4 ∧ fs 0 = 0 ∧ fs 1 = 2 ∧ fs 2 = 4 ∧ fs 3 = 6)
def Wd (sh w : Int32) (V : Nat → Int32) : Prop := (sh = 0 ∧ ((w = 1 ∧ True) ∨ (w = 0 ∧ ¬ True))) ∨ (sh = 1 ∧ ((w = 1 ∧ (V 0 = V 1)) ∨ (w = 0 ∧ ¬ (V 0 = V 1)))) ∨ (sh = 2 ∧ ((w = 1 ∧ (V 0 = V 1 ∧ V 1 = V 2 ∧ V 2 = V 3)) ∨ (w = 0 ∧ ¬ (V 0 = V 1 ∧ V 1 = V 2 ∧ V 2 = V 3)))) ∨ (sh = 3 ∧ ((w = 1 ∧ (V 0 = V 1 ∧ V 1 = V 2 ∧ V 2 = V 3 ∧ V 3 = V 4 ∧ V 4 = V 5)) ∨ (w = 0 ∧ ¬ (V 0 = V 1 ∧ V 1 = V 2 ∧ V 2 = V 3 ∧ V 3 = V 4 ∧ V 4 = V 5)))) ∨ (sh = 4 ∧ ((w = 1 ∧ (V 0 = V 1 ∧ V 2 = V 3)) ∨ (w = 0 ∧ ¬ (V 0 = V 1 ∧ V 2 = V 3)))) ∨ (sh = 5 ∧ ((w = 1 ∧ (V 0 = V 1 ∧ V 1 = V 2 ∧ V 3 = V 4)) ∨ (w = 0 ∧ ¬ (V 0 = V 1 ∧ V 1 = V 2 ∧ V 3 = V 4)))) ∨ (sh = 6 ∧ ((w = 1 ∧ (V 0 = V 1 ∧ V 2 = V 3 ∧ V 3 = V 4 ∧ V 4 = V 5)) ∨ (w = 0 ∧ ¬ (V 0 = V 1 ∧ V 2 = V 3 ∧ V 3 = V 4 ∧ V 4 = V 5)))) ∨ ((sh ≠ 0 ∧ sh ≠ 1 ∧ sh ≠ 2 ∧ sh ≠ 3 ∧ sh ≠ 4 ∧ sh ≠ 5 ∧ sh ≠ 6) ∧ ((w = 1 ∧ (V 0 = V 1 ∧ V 2 = V 3 ∧ V 4 = V 5)) ∨ (w = 0 ∧ ¬ (V 0 = V 1 ∧ V 2 = V 3 ∧ V 4 = V 5))))
def sN (fs : Nat → Int32) (c : Nat) : Nat := (fs c).toInt.toNat
def Pp (V : Nat → Int32) (ns : Nat) (fs : Nat → Int32) : Prop := ∀ c j, c + 1 < ns → sN fs c < j → j < sN fs (c + 1) → V j = V (sN fs c)
theorem own_bs (x : Int32) : 0 ≤ ((x &&& (2147483647 : Int32)) % (6 : Int32)).toInt ∧ ((x &&& (2147483647 : Int32)) % (6 : Int32)).toInt ≤ 5 := by
  have h := c_mask x 2147483647 31 (by decide) (by decide)
  have h6 : (6 : Int32).toInt = 6 := by decide
  have h5 := (c_irem (x &&& (2147483647 : Int32)) 6 6 h6).1 (by omega)
  omega
theorem own_up {f fo : Nat → Int32} {n : Nat} (i : Nat) (h : ∀ j, j < i → j < n → f j = fo j) : ∀ j, j < i + 1 → j < n → up f i (fo i) j = fo j := by
  intro j h1 h2
  by_cases q : j = i
  · subst q; exact if_pos rfl
  · exact (if_neg q).trans (h j (by omega) h2)
theorem own_upn {f fo : Nat → Int32} {n : Nat} (i : Nat) (h : ∀ j, j < i → j < n → f j = fo j) (hi : n ≤ i) : ∀ j, j < i + 1 → j < n → f j = fo j := fun j h1 h2 => h j (by omega) h2
theorem own_dt {fc fr fo fs : Nat → Int32} {n ns : Nat} {dt : Int32} (hfr : ∀ j, j < 6 → j < n → fr j = fo j) (hn6 : n ≤ 6) (hmo : ∀ c, c + 1 < ns → sN fs c < sN fs (c + 1) ∧ sN fs (c + 1) ≤ n)
    (h : (dt = 1 ∧ ∀ c, c + 1 < ns → Ok fc fr (sN fs) c) ∨ (dt = 0 ∧ ∃ c j, c + 1 < ns ∧ sN fs c < j ∧ j < sN fs (c + 1) ∧ VV fc fr j ≠ VV fc fr (sN fs c))) : (dt = 1 ∧ Pp (VV fc fo) ns fs) ∨ (dt = 0 ∧ ¬ Pp (VV fc fo) ns fs) := by
  have key : ∀ j, j < n → VV fc fr j = VV fc fo j := fun j hj => by unfold VV; rw [hfr j (by omega) hj]
  rcases h with ⟨h1, h2⟩ | ⟨h1, c, j, a, b, d, h2⟩
  · refine Or.inl ⟨h1, fun c j a b d => ?_⟩
    have q := hmo c a
    rw [← key j (by omega), ← key (sN fs c) (by omega)]; exact h2 c a j b d
  · refine Or.inr ⟨h1, fun h => h2 ?_⟩
    have q := hmo c a
    rw [key j (by omega), key (sN fs c) (by omega)]; exact h c j a b d
theorem own_pe {P E : Prop} {dt w : Int32} (h : P ↔ E) (h1 : (dt = 1 ∧ P) ∨ (dt = 0 ∧ ¬ P)) (h2 : (w = 1 ∧ E) ∨ (w = 0 ∧ ¬ E)) : dt = w := by
  rcases h1 with ⟨a, b⟩ | ⟨a, b⟩ <;> rcases h2 with ⟨a2, b2⟩ | ⟨a2, b2⟩
  · rw [a, a2]
  · exact absurd (h.mp b) b2
  · exact absurd (h.mpr b2) b
  · rw [a, a2]
theorem own_pi0 {V fs : Nat → Int32} (h0 : fs 0 = 0) : Pp V 1 fs ↔ True := by
  have s0 : sN fs 0 = 0 := by unfold sN; rw [h0]; decide
  constructor
  · intro _; trivial
  · intro _ c j h1 h2 h3; omega
theorem own_pi1 {V fs : Nat → Int32} (h0 : fs 0 = 0) (h1 : fs 1 = 2) : Pp V 2 fs ↔ (V 0 = V 1) := by
  have s0 : sN fs 0 = 0 := by unfold sN; rw [h0]; decide
  have s1 : sN fs 1 = 2 := by unfold sN; rw [h1]; decide
  constructor
  · intro h
    have a1 : V 1 = V 0 := (h 0 1 (by decide) (by rw [s0]; decide) (Nat.lt_of_lt_of_eq (by decide : 1 < 2) s1.symm)).trans (congrArg V s0)
    exact ((rfl : V 0 = V 0).trans a1.symm)
  · rintro e0 c j h1 h2 h3
    have hc : c = 0 := by omega
    rcases hc with rfl
    · rw [s0]
      have h4 : j < 2 := Nat.lt_of_lt_of_eq h3 s1
      have h5 : 0 < j := Nat.lt_of_le_of_lt (Nat.le_of_eq s0.symm) h2
      have hj : j = 1 := by omega
      rcases hj with rfl
      · exact e0.symm
theorem own_pi2 {V fs : Nat → Int32} (h0 : fs 0 = 0) (h1 : fs 1 = 4) : Pp V 2 fs ↔ (V 0 = V 1 ∧ V 1 = V 2 ∧ V 2 = V 3) := by
  have s0 : sN fs 0 = 0 := by unfold sN; rw [h0]; decide
  have s1 : sN fs 1 = 4 := by unfold sN; rw [h1]; decide
  constructor
  · intro h
    have a1 : V 1 = V 0 := (h 0 1 (by decide) (by rw [s0]; decide) (Nat.lt_of_lt_of_eq (by decide : 1 < 4) s1.symm)).trans (congrArg V s0)
    have a2 : V 2 = V 0 := (h 0 2 (by decide) (by rw [s0]; decide) (Nat.lt_of_lt_of_eq (by decide : 2 < 4) s1.symm)).trans (congrArg V s0)
    have a3 : V 3 = V 0 := (h 0 3 (by decide) (by rw [s0]; decide) (Nat.lt_of_lt_of_eq (by decide : 3 < 4) s1.symm)).trans (congrArg V s0)
    exact ⟨((rfl : V 0 = V 0).trans a1.symm), (a1.trans a2.symm), (a2.trans a3.symm)⟩
  · rintro ⟨e0, e1, e2⟩ c j h1 h2 h3
    have hc : c = 0 := by omega
    rcases hc with rfl
    · rw [s0]
      have h4 : j < 4 := Nat.lt_of_lt_of_eq h3 s1
      have h5 : 0 < j := Nat.lt_of_le_of_lt (Nat.le_of_eq s0.symm) h2
      have hj : j = 1 ∨ j = 2 ∨ j = 3 := by omega
      rcases hj with rfl | rfl | rfl
      · exact e0.symm
      · exact (e1.symm.trans e0.symm)
      · exact (e2.symm.trans (e1.symm.trans e0.symm))
theorem own_pi3 {V fs : Nat → Int32} (h0 : fs 0 = 0) (h1 : fs 1 = 6) : Pp V 2 fs ↔ (V 0 = V 1 ∧ V 1 = V 2 ∧ V 2 = V 3 ∧ V 3 = V 4 ∧ V 4 = V 5) := by
  have s0 : sN fs 0 = 0 := by unfold sN; rw [h0]; decide
  have s1 : sN fs 1 = 6 := by unfold sN; rw [h1]; decide
  constructor
  · intro h
    have a1 : V 1 = V 0 := (h 0 1 (by decide) (by rw [s0]; decide) (Nat.lt_of_lt_of_eq (by decide : 1 < 6) s1.symm)).trans (congrArg V s0)
    have a2 : V 2 = V 0 := (h 0 2 (by decide) (by rw [s0]; decide) (Nat.lt_of_lt_of_eq (by decide : 2 < 6) s1.symm)).trans (congrArg V s0)
    have a3 : V 3 = V 0 := (h 0 3 (by decide) (by rw [s0]; decide) (Nat.lt_of_lt_of_eq (by decide : 3 < 6) s1.symm)).trans (congrArg V s0)
    have a4 : V 4 = V 0 := (h 0 4 (by decide) (by rw [s0]; decide) (Nat.lt_of_lt_of_eq (by decide : 4 < 6) s1.symm)).trans (congrArg V s0)
    have a5 : V 5 = V 0 := (h 0 5 (by decide) (by rw [s0]; decide) (Nat.lt_of_lt_of_eq (by decide : 5 < 6) s1.symm)).trans (congrArg V s0)
    exact ⟨((rfl : V 0 = V 0).trans a1.symm), (a1.trans a2.symm), (a2.trans a3.symm), (a3.trans a4.symm), (a4.trans a5.symm)⟩
  · rintro ⟨e0, e1, e2, e3, e4⟩ c j h1 h2 h3
    have hc : c = 0 := by omega
    rcases hc with rfl
    · rw [s0]
      have h4 : j < 6 := Nat.lt_of_lt_of_eq h3 s1
      have h5 : 0 < j := Nat.lt_of_le_of_lt (Nat.le_of_eq s0.symm) h2
      have hj : j = 1 ∨ j = 2 ∨ j = 3 ∨ j = 4 ∨ j = 5 := by omega
      rcases hj with rfl | rfl | rfl | rfl | rfl
      · exact e0.symm
      · exact (e1.symm.trans e0.symm)
      · exact (e2.symm.trans (e1.symm.trans e0.symm))
      · exact (e3.symm.trans (e2.symm.trans (e1.symm.trans e0.symm)))
      · exact (e4.symm.trans (e3.symm.trans (e2.symm.trans (e1.symm.trans e0.symm))))
theorem own_pi4 {V fs : Nat → Int32} (h0 : fs 0 = 0) (h1 : fs 1 = 2) (h2 : fs 2 = 4) : Pp V 3 fs ↔ (V 0 = V 1 ∧ V 2 = V 3) := by
  have s0 : sN fs 0 = 0 := by unfold sN; rw [h0]; decide
  have s1 : sN fs 1 = 2 := by unfold sN; rw [h1]; decide
  have s2 : sN fs 2 = 4 := by unfold sN; rw [h2]; decide
  constructor
  · intro h
    have a1 : V 1 = V 0 := (h 0 1 (by decide) (by rw [s0]; decide) (Nat.lt_of_lt_of_eq (by decide : 1 < 2) s1.symm)).trans (congrArg V s0)
    have a3 : V 3 = V 2 := (h 1 3 (by decide) (by rw [s1]; decide) (Nat.lt_of_lt_of_eq (by decide : 3 < 4) s2.symm)).trans (congrArg V s1)
    exact ⟨((rfl : V 0 = V 0).trans a1.symm), ((rfl : V 2 = V 2).trans a3.symm)⟩
  · rintro ⟨e0, e2⟩ c j h1 h2 h3
    have hc : c = 0 ∨ c = 1 := by omega
    rcases hc with rfl | rfl
    · rw [s0]
      have h4 : j < 2 := Nat.lt_of_lt_of_eq h3 s1
      have h5 : 0 < j := Nat.lt_of_le_of_lt (Nat.le_of_eq s0.symm) h2
      have hj : j = 1 := by omega
      rcases hj with rfl
      · exact e0.symm
    · rw [s1]
      have h4 : j < 4 := Nat.lt_of_lt_of_eq h3 s2
      have h5 : 2 < j := Nat.lt_of_le_of_lt (Nat.le_of_eq s1.symm) h2
      have hj : j = 3 := by omega
      rcases hj with rfl
      · exact e2.symm
theorem own_pi5 {V fs : Nat → Int32} (h0 : fs 0 = 0) (h1 : fs 1 = 3) (h2 : fs 2 = 5) : Pp V 3 fs ↔ (V 0 = V 1 ∧ V 1 = V 2 ∧ V 3 = V 4) := by
  have s0 : sN fs 0 = 0 := by unfold sN; rw [h0]; decide
  have s1 : sN fs 1 = 3 := by unfold sN; rw [h1]; decide
  have s2 : sN fs 2 = 5 := by unfold sN; rw [h2]; decide
  constructor
  · intro h
    have a1 : V 1 = V 0 := (h 0 1 (by decide) (by rw [s0]; decide) (Nat.lt_of_lt_of_eq (by decide : 1 < 3) s1.symm)).trans (congrArg V s0)
    have a2 : V 2 = V 0 := (h 0 2 (by decide) (by rw [s0]; decide) (Nat.lt_of_lt_of_eq (by decide : 2 < 3) s1.symm)).trans (congrArg V s0)
    have a4 : V 4 = V 3 := (h 1 4 (by decide) (by rw [s1]; decide) (Nat.lt_of_lt_of_eq (by decide : 4 < 5) s2.symm)).trans (congrArg V s1)
    exact ⟨((rfl : V 0 = V 0).trans a1.symm), (a1.trans a2.symm), ((rfl : V 3 = V 3).trans a4.symm)⟩
  · rintro ⟨e0, e1, e3⟩ c j h1 h2 h3
    have hc : c = 0 ∨ c = 1 := by omega
    rcases hc with rfl | rfl
    · rw [s0]
      have h4 : j < 3 := Nat.lt_of_lt_of_eq h3 s1
      have h5 : 0 < j := Nat.lt_of_le_of_lt (Nat.le_of_eq s0.symm) h2
      have hj : j = 1 ∨ j = 2 := by omega
      rcases hj with rfl | rfl
      · exact e0.symm
      · exact (e1.symm.trans e0.symm)
    · rw [s1]
      have h4 : j < 5 := Nat.lt_of_lt_of_eq h3 s2
      have h5 : 3 < j := Nat.lt_of_le_of_lt (Nat.le_of_eq s1.symm) h2
      have hj : j = 4 := by omega
      rcases hj with rfl
      · exact e3.symm
theorem own_pi6 {V fs : Nat → Int32} (h0 : fs 0 = 0) (h1 : fs 1 = 2) (h2 : fs 2 = 6) : Pp V 3 fs ↔ (V 0 = V 1 ∧ V 2 = V 3 ∧ V 3 = V 4 ∧ V 4 = V 5) := by
  have s0 : sN fs 0 = 0 := by unfold sN; rw [h0]; decide
  have s1 : sN fs 1 = 2 := by unfold sN; rw [h1]; decide
  have s2 : sN fs 2 = 6 := by unfold sN; rw [h2]; decide
  constructor
  · intro h
    have a1 : V 1 = V 0 := (h 0 1 (by decide) (by rw [s0]; decide) (Nat.lt_of_lt_of_eq (by decide : 1 < 2) s1.symm)).trans (congrArg V s0)
    have a3 : V 3 = V 2 := (h 1 3 (by decide) (by rw [s1]; decide) (Nat.lt_of_lt_of_eq (by decide : 3 < 6) s2.symm)).trans (congrArg V s1)
    have a4 : V 4 = V 2 := (h 1 4 (by decide) (by rw [s1]; decide) (Nat.lt_of_lt_of_eq (by decide : 4 < 6) s2.symm)).trans (congrArg V s1)
    have a5 : V 5 = V 2 := (h 1 5 (by decide) (by rw [s1]; decide) (Nat.lt_of_lt_of_eq (by decide : 5 < 6) s2.symm)).trans (congrArg V s1)
    exact ⟨((rfl : V 0 = V 0).trans a1.symm), ((rfl : V 2 = V 2).trans a3.symm), (a3.trans a4.symm), (a4.trans a5.symm)⟩
  · rintro ⟨e0, e2, e3, e4⟩ c j h1 h2 h3
    have hc : c = 0 ∨ c = 1 := by omega
    rcases hc with rfl | rfl
    · rw [s0]
      have h4 : j < 2 := Nat.lt_of_lt_of_eq h3 s1
      have h5 : 0 < j := Nat.lt_of_le_of_lt (Nat.le_of_eq s0.symm) h2
      have hj : j = 1 := by omega
      rcases hj with rfl
      · exact e0.symm
    · rw [s1]
      have h4 : j < 6 := Nat.lt_of_lt_of_eq h3 s2
      have h5 : 2 < j := Nat.lt_of_le_of_lt (Nat.le_of_eq s1.symm) h2
      have hj : j = 3 ∨ j = 4 ∨ j = 5 := by omega
      rcases hj with rfl | rfl | rfl
      · exact e2.symm
      · exact (e3.symm.trans e2.symm)
      · exact (e4.symm.trans (e3.symm.trans e2.symm))
theorem own_pi7 {V fs : Nat → Int32} (h0 : fs 0 = 0) (h1 : fs 1 = 2) (h2 : fs 2 = 4) (h3 : fs 3 = 6) : Pp V 4 fs ↔ (V 0 = V 1 ∧ V 2 = V 3 ∧ V 4 = V 5) := by
  have s0 : sN fs 0 = 0 := by unfold sN; rw [h0]; decide
  have s1 : sN fs 1 = 2 := by unfold sN; rw [h1]; decide
  have s2 : sN fs 2 = 4 := by unfold sN; rw [h2]; decide
  have s3 : sN fs 3 = 6 := by unfold sN; rw [h3]; decide
  constructor
  · intro h
    have a1 : V 1 = V 0 := (h 0 1 (by decide) (by rw [s0]; decide) (Nat.lt_of_lt_of_eq (by decide : 1 < 2) s1.symm)).trans (congrArg V s0)
    have a3 : V 3 = V 2 := (h 1 3 (by decide) (by rw [s1]; decide) (Nat.lt_of_lt_of_eq (by decide : 3 < 4) s2.symm)).trans (congrArg V s1)
    have a5 : V 5 = V 4 := (h 2 5 (by decide) (by rw [s2]; decide) (Nat.lt_of_lt_of_eq (by decide : 5 < 6) s3.symm)).trans (congrArg V s2)
    exact ⟨((rfl : V 0 = V 0).trans a1.symm), ((rfl : V 2 = V 2).trans a3.symm), ((rfl : V 4 = V 4).trans a5.symm)⟩
  · rintro ⟨e0, e2, e4⟩ c j h1 h2 h3
    have hc : c = 0 ∨ c = 1 ∨ c = 2 := by omega
    rcases hc with rfl | rfl | rfl
    · rw [s0]
      have h4 : j < 2 := Nat.lt_of_lt_of_eq h3 s1
      have h5 : 0 < j := Nat.lt_of_le_of_lt (Nat.le_of_eq s0.symm) h2
      have hj : j = 1 := by omega
      rcases hj with rfl
      · exact e0.symm
    · rw [s1]
      have h4 : j < 4 := Nat.lt_of_lt_of_eq h3 s2
      have h5 : 2 < j := Nat.lt_of_le_of_lt (Nat.le_of_eq s1.symm) h2
      have hj : j = 3 := by omega
      rcases hj with rfl
      · exact e2.symm
    · rw [s2]
      have h4 : j < 6 := Nat.lt_of_lt_of_eq h3 s3
      have h5 : 4 < j := Nat.lt_of_le_of_lt (Nat.le_of_eq s2.symm) h2
      have hj : j = 5 := by omega
      rcases hj with rfl
      · exact e4.symm
theorem own_law {sh nn dt w : Int32} {ns : Nat} {V fs : Nat → Int32} (h : Shp sh nn ns fs) (h1 : (dt = 1 ∧ Pp V ns fs) ∨ (dt = 0 ∧ ¬ Pp V ns fs)) (h2 : Wd sh w V) : dt = w := by
  unfold Shp at h
  unfold Wd at h2
  rcases h with ⟨a, -, rfl, k0⟩ | ⟨a, -, rfl, k0, k1⟩ | ⟨a, -, rfl, k0, k1⟩ | ⟨a, -, rfl, k0, k1⟩ | ⟨a, -, rfl, k0, k1, k2⟩ | ⟨a, -, rfl, k0, k1, k2⟩ | ⟨a, -, rfl, k0, k1, k2⟩ | ⟨a, -, rfl, k0, k1, k2, k3⟩
  · rcases h2 with ⟨b, q⟩ | ⟨b, q⟩ | ⟨b, q⟩ | ⟨b, q⟩ | ⟨b, q⟩ | ⟨b, q⟩ | ⟨b, q⟩ | ⟨b, q⟩
    · exact own_pe (own_pi0 k0) h1 q
    · exact absurd (a.symm.trans b) (by decide)
    · exact absurd (a.symm.trans b) (by decide)
    · exact absurd (a.symm.trans b) (by decide)
    · exact absurd (a.symm.trans b) (by decide)
    · exact absurd (a.symm.trans b) (by decide)
    · exact absurd (a.symm.trans b) (by decide)
    · exact absurd a b.1
  · rcases h2 with ⟨b, q⟩ | ⟨b, q⟩ | ⟨b, q⟩ | ⟨b, q⟩ | ⟨b, q⟩ | ⟨b, q⟩ | ⟨b, q⟩ | ⟨b, q⟩
    · exact absurd (a.symm.trans b) (by decide)
    · exact own_pe (own_pi1 k0 k1) h1 q
    · exact absurd (a.symm.trans b) (by decide)
    · exact absurd (a.symm.trans b) (by decide)
    · exact absurd (a.symm.trans b) (by decide)
    · exact absurd (a.symm.trans b) (by decide)
    · exact absurd (a.symm.trans b) (by decide)
    · exact absurd a b.2.1
  · rcases h2 with ⟨b, q⟩ | ⟨b, q⟩ | ⟨b, q⟩ | ⟨b, q⟩ | ⟨b, q⟩ | ⟨b, q⟩ | ⟨b, q⟩ | ⟨b, q⟩
    · exact absurd (a.symm.trans b) (by decide)
    · exact absurd (a.symm.trans b) (by decide)
    · exact own_pe (own_pi2 k0 k1) h1 q
    · exact absurd (a.symm.trans b) (by decide)
    · exact absurd (a.symm.trans b) (by decide)
    · exact absurd (a.symm.trans b) (by decide)
    · exact absurd (a.symm.trans b) (by decide)
    · exact absurd a b.2.2.1
  · rcases h2 with ⟨b, q⟩ | ⟨b, q⟩ | ⟨b, q⟩ | ⟨b, q⟩ | ⟨b, q⟩ | ⟨b, q⟩ | ⟨b, q⟩ | ⟨b, q⟩
    · exact absurd (a.symm.trans b) (by decide)
    · exact absurd (a.symm.trans b) (by decide)
    · exact absurd (a.symm.trans b) (by decide)
    · exact own_pe (own_pi3 k0 k1) h1 q
    · exact absurd (a.symm.trans b) (by decide)
    · exact absurd (a.symm.trans b) (by decide)
    · exact absurd (a.symm.trans b) (by decide)
    · exact absurd a b.2.2.2.1
  · rcases h2 with ⟨b, q⟩ | ⟨b, q⟩ | ⟨b, q⟩ | ⟨b, q⟩ | ⟨b, q⟩ | ⟨b, q⟩ | ⟨b, q⟩ | ⟨b, q⟩
    · exact absurd (a.symm.trans b) (by decide)
    · exact absurd (a.symm.trans b) (by decide)
    · exact absurd (a.symm.trans b) (by decide)
    · exact absurd (a.symm.trans b) (by decide)
    · exact own_pe (own_pi4 k0 k1 k2) h1 q
    · exact absurd (a.symm.trans b) (by decide)
    · exact absurd (a.symm.trans b) (by decide)
    · exact absurd a b.2.2.2.2.1
  · rcases h2 with ⟨b, q⟩ | ⟨b, q⟩ | ⟨b, q⟩ | ⟨b, q⟩ | ⟨b, q⟩ | ⟨b, q⟩ | ⟨b, q⟩ | ⟨b, q⟩
    · exact absurd (a.symm.trans b) (by decide)
    · exact absurd (a.symm.trans b) (by decide)
    · exact absurd (a.symm.trans b) (by decide)
    · exact absurd (a.symm.trans b) (by decide)
    · exact absurd (a.symm.trans b) (by decide)
    · exact own_pe (own_pi5 k0 k1 k2) h1 q
    · exact absurd (a.symm.trans b) (by decide)
    · exact absurd a b.2.2.2.2.2.1
  · rcases h2 with ⟨b, q⟩ | ⟨b, q⟩ | ⟨b, q⟩ | ⟨b, q⟩ | ⟨b, q⟩ | ⟨b, q⟩ | ⟨b, q⟩ | ⟨b, q⟩
    · exact absurd (a.symm.trans b) (by decide)
    · exact absurd (a.symm.trans b) (by decide)
    · exact absurd (a.symm.trans b) (by decide)
    · exact absurd (a.symm.trans b) (by decide)
    · exact absurd (a.symm.trans b) (by decide)
    · exact absurd (a.symm.trans b) (by decide)
    · exact own_pe (own_pi6 k0 k1 k2) h1 q
    · exact absurd a b.2.2.2.2.2.2
  · rcases h2 with ⟨b, q⟩ | ⟨b, q⟩ | ⟨b, q⟩ | ⟨b, q⟩ | ⟨b, q⟩ | ⟨b, q⟩ | ⟨b, q⟩ | ⟨b, q⟩
    · exact absurd b a.1
    · exact absurd b a.2.1
    · exact absurd b a.2.2.1
    · exact absurd b a.2.2.2.1
    · exact absurd b a.2.2.2.2.1
    · exact absurd b a.2.2.2.2.2.1
    · exact absurd b a.2.2.2.2.2.2
    · exact own_pe (own_pi7 k0 k1 k2 k3) h1 q
theorem own_shn {sh nn : Int32} {ns : Nat} {fs : Nat → Int32} (h : Shp sh nn ns fs) : ∃ n : Nat, nn.toInt = (n : Int) ∧ n ≤ 6 := by
  unfold Shp at h
  rcases h with ⟨_, rfl, _⟩ | ⟨_, rfl, _⟩ | ⟨_, rfl, _⟩ | ⟨_, rfl, _⟩ | ⟨_, rfl, _⟩ | ⟨_, rfl, _⟩ | ⟨_, rfl, _⟩ | ⟨_, rfl, _⟩
  · exact ⟨0, by decide, by decide⟩
  · exact ⟨2, by decide, by decide⟩
  · exact ⟨4, by decide, by decide⟩
  · exact ⟨6, by decide, by decide⟩
  · exact ⟨4, by decide, by decide⟩
  · exact ⟨5, by decide, by decide⟩
  · exact ⟨6, by decide, by decide⟩
  · exact ⟨6, by decide, by decide⟩
theorem own_shs {sh nn : Int32} {ns n : Nat} {fs : Nat → Int32} (h : Shp sh nn ns fs) (hnn : nn.toInt = (n : Int)) : (1 ≤ ns ∧ ns ≤ 4) ∧ (∀ c, c < ns → (fs c).toInt = (sN fs c : Int)) ∧ (∀ c, c + 1 < ns → sN fs c < sN fs (c + 1) ∧ sN fs (c + 1) ≤ n) := by
  unfold Shp at h
  rcases h with ⟨-, rfl, rfl, h0⟩ | ⟨-, rfl, rfl, h0, h1⟩ | ⟨-, rfl, rfl, h0, h1⟩ | ⟨-, rfl, rfl, h0, h1⟩ | ⟨-, rfl, rfl, h0, h1, h2⟩ | ⟨-, rfl, rfl, h0, h1, h2⟩ | ⟨-, rfl, rfl, h0, h1, h2⟩ | ⟨-, rfl, rfl, h0, h1, h2, h3⟩
  · have hn : (0 : Int) = (n : Int) := hnn
    have s0 : sN fs 0 = 0 := by unfold sN; rw [h0]; decide
    refine ⟨by decide, fun c hc => ?_, fun c hc => ?_⟩
    · have q : c = 0 := by omega
      rcases q with rfl
      · rw [s0, h0]; decide
    · omega
  · have hn : (2 : Int) = (n : Int) := hnn
    have s0 : sN fs 0 = 0 := by unfold sN; rw [h0]; decide
    have s1 : sN fs 1 = 2 := by unfold sN; rw [h1]; decide
    refine ⟨by decide, fun c hc => ?_, fun c hc => ?_⟩
    · have q : c = 0 ∨ c = 1 := by omega
      rcases q with rfl | rfl
      · rw [s0, h0]; decide
      · rw [s1, h1]; decide
    · have q : c = 0 := by omega
      rcases q with rfl
      · have s : sN fs (0 + 1) = 2 := s1
        rw [s0, s]; omega
  · have hn : (4 : Int) = (n : Int) := hnn
    have s0 : sN fs 0 = 0 := by unfold sN; rw [h0]; decide
    have s1 : sN fs 1 = 4 := by unfold sN; rw [h1]; decide
    refine ⟨by decide, fun c hc => ?_, fun c hc => ?_⟩
    · have q : c = 0 ∨ c = 1 := by omega
      rcases q with rfl | rfl
      · rw [s0, h0]; decide
      · rw [s1, h1]; decide
    · have q : c = 0 := by omega
      rcases q with rfl
      · have s : sN fs (0 + 1) = 4 := s1
        rw [s0, s]; omega
  · have hn : (6 : Int) = (n : Int) := hnn
    have s0 : sN fs 0 = 0 := by unfold sN; rw [h0]; decide
    have s1 : sN fs 1 = 6 := by unfold sN; rw [h1]; decide
    refine ⟨by decide, fun c hc => ?_, fun c hc => ?_⟩
    · have q : c = 0 ∨ c = 1 := by omega
      rcases q with rfl | rfl
      · rw [s0, h0]; decide
      · rw [s1, h1]; decide
    · have q : c = 0 := by omega
      rcases q with rfl
      · have s : sN fs (0 + 1) = 6 := s1
        rw [s0, s]; omega
  · have hn : (4 : Int) = (n : Int) := hnn
    have s0 : sN fs 0 = 0 := by unfold sN; rw [h0]; decide
    have s1 : sN fs 1 = 2 := by unfold sN; rw [h1]; decide
    have s2 : sN fs 2 = 4 := by unfold sN; rw [h2]; decide
    refine ⟨by decide, fun c hc => ?_, fun c hc => ?_⟩
    · have q : c = 0 ∨ c = 1 ∨ c = 2 := by omega
      rcases q with rfl | rfl | rfl
      · rw [s0, h0]; decide
      · rw [s1, h1]; decide
      · rw [s2, h2]; decide
    · have q : c = 0 ∨ c = 1 := by omega
      rcases q with rfl | rfl
      · have s : sN fs (0 + 1) = 2 := s1
        rw [s0, s]; omega
      · have s : sN fs (1 + 1) = 4 := s2
        rw [s1, s]; omega
  · have hn : (5 : Int) = (n : Int) := hnn
    have s0 : sN fs 0 = 0 := by unfold sN; rw [h0]; decide
    have s1 : sN fs 1 = 3 := by unfold sN; rw [h1]; decide
    have s2 : sN fs 2 = 5 := by unfold sN; rw [h2]; decide
    refine ⟨by decide, fun c hc => ?_, fun c hc => ?_⟩
    · have q : c = 0 ∨ c = 1 ∨ c = 2 := by omega
      rcases q with rfl | rfl | rfl
      · rw [s0, h0]; decide
      · rw [s1, h1]; decide
      · rw [s2, h2]; decide
    · have q : c = 0 ∨ c = 1 := by omega
      rcases q with rfl | rfl
      · have s : sN fs (0 + 1) = 3 := s1
        rw [s0, s]; omega
      · have s : sN fs (1 + 1) = 5 := s2
        rw [s1, s]; omega
  · have hn : (6 : Int) = (n : Int) := hnn
    have s0 : sN fs 0 = 0 := by unfold sN; rw [h0]; decide
    have s1 : sN fs 1 = 2 := by unfold sN; rw [h1]; decide
    have s2 : sN fs 2 = 6 := by unfold sN; rw [h2]; decide
    refine ⟨by decide, fun c hc => ?_, fun c hc => ?_⟩
    · have q : c = 0 ∨ c = 1 ∨ c = 2 := by omega
      rcases q with rfl | rfl | rfl
      · rw [s0, h0]; decide
      · rw [s1, h1]; decide
      · rw [s2, h2]; decide
    · have q : c = 0 ∨ c = 1 := by omega
      rcases q with rfl | rfl
      · have s : sN fs (0 + 1) = 2 := s1
        rw [s0, s]; omega
      · have s : sN fs (1 + 1) = 6 := s2
        rw [s1, s]; omega
  · have hn : (6 : Int) = (n : Int) := hnn
    have s0 : sN fs 0 = 0 := by unfold sN; rw [h0]; decide
    have s1 : sN fs 1 = 2 := by unfold sN; rw [h1]; decide
    have s2 : sN fs 2 = 4 := by unfold sN; rw [h2]; decide
    have s3 : sN fs 3 = 6 := by unfold sN; rw [h3]; decide
    refine ⟨by decide, fun c hc => ?_, fun c hc => ?_⟩
    · have q : c = 0 ∨ c = 1 ∨ c = 2 ∨ c = 3 := by omega
      rcases q with rfl | rfl | rfl | rfl
      · rw [s0, h0]; decide
      · rw [s1, h1]; decide
      · rw [s2, h2]; decide
      · rw [s3, h3]; decide
    · have q : c = 0 ∨ c = 1 ∨ c = 2 := by omega
      rcases q with rfl | rfl | rfl
      · have s : sN fs (0 + 1) = 2 := s1
        rw [s0, s]; omega
      · have s : sN fs (1 + 1) = 4 := s2
        rw [s1, s]; omega
      · have s : sN fs (2 + 1) = 6 := s3
        rw [s2, s]; omega
theorem pn_0 : plainFor x = true := plainFor_of_name (by first | (simp [plainName, overriddenIn]; done) | decide +kernel)
theorem ef_0 (m : MethodId) (p0 : Int32) (p1 : Int32) (p2 : Int32) : entryFrame m #[(.int p0), (.int p1), (.int p2)] maxLocals = mkF m 0 #[.val (.int p0), .val (.int p1), .val (.int p2), .unset, .unset, .unset, .unset, .unset, .unset, .unset, .unset, .unset, .unset, .unset, .unset, .unset, .unset, .unset, .unset, .unset, .unset] [] := by first | (simp [entryFrame, mkF, argsToLocals, Value.category, maxLocals]; done) | rfl
theorem pd_1 : parseMethodDescriptor "(IZI)I" = some ⟨[.int, .boolean, .int], some .int⟩ := by decide +kernel
theorem pd_2 : parseMethodDescriptor "([I[I)V" = some ⟨[(.array .int), (.array .int)], none⟩ := by decide +kernel
theorem pd_3 : parseMethodDescriptor "(Ljava/lang/String;[IIZ)V" = some ⟨[(.object "java/lang/String"), (.array .int), .int, .boolean], none⟩ := by decide +kernel
theorem pd_4 : parseMethodDescriptor "(Lcom/example/tacit/tacit/engine/Column;)Z" = some ⟨[(.object "com/example/tacit/tacit/engine/Column")], some .boolean⟩ := by decide +kernel
def Qq0 (Z : State) (p0 : Int32) (p1 : Int32) (p2 : Int32)  (h0 : Heap) : Int32 → Heap → Prop := fun z _ => z = 1
abbrev Gg0 (p : Program) (l : Launch) (e : Env) (s : State) (m : MethodId) (below : List Frame) (meth : Method) (c : Code) (n0 : Nat) (h0 : Heap) (Z : State) (p0 : Int32) (p1 : Int32) (p2 : Int32)  (cc ss : Nat) (hh : Heap) (gg : JFrame) : Prop := G p l e room_1 s m #[(.int p0), (.int p1), (.int p2)] below meth c n0 h0 [] (RI (Qq0 Z p0 p1 p2  h0)) (FeW s room_1) cc ss hh gg
abbrev Ggseg1 (p : Program) (l : Launch) (e : Env) (s : State) (m : MethodId) (below : List Frame) (meth : Method) (c : Code) (n0 : Nat) (h0 hE : Heap) (Z : State) (p0 : Int32) (p1 : Int32) (p2 : Int32) (sh : Int32) (dn : Int32) (bs : Int32) (nn : Int32) (sg : Addr) (cd : Addr) (od : Addr) (sta : Addr) (rw : Addr) (pt : Addr) (co : Addr) (n : Nat) (ns : Nat) (fc : Nat → Int32) (fo : Nat → Int32) (fs : Nat → Int32) (fr : Nat → Int32) (cc ss : Nat) (hh : Heap) (gg : JFrame) : Prop := G p l e room_1 s m #[(.int p0), (.int p1), (.int p2)] below meth c n0 h0 [co] (RI (Qq0 Z p0 p1 p2  hE)) (FeN s room_1) cc ss hh gg
set_option maxRecDepth 65536 in
set_option maxHeartbeats 40000000 in
theorem seg1 {l : Launch} {Z : State} {a0 : Array Value} (hw : ∀ d ∈ tables_1, d.before a0 Z = true) {p : Program} {e : Env} {s : State} {m : MethodId} {below : List Frame} {meth : Method} {c : Code} {n0 : Nat} {h0 : Heap} (hE : Heap) (p0 : Int32) (p1 : Int32) (p2 : Int32) (sh : Int32) (dn : Int32) (bs : Int32) (nn : Int32) (sg : Addr) (cd : Addr) (od : Addr) (sta : Addr) (rw : Addr) (pt : Addr) (co : Addr) (n : Nat) (ns : Nat) (fc : Nat → Int32) (fo : Nat → Int32) (fs : Nat → Int32) (fr : Nat → Int32) (B : Cx p s m meth c Z x.cls x.name code maxLocals ret n0 h0 [co]) (A_cd : ArI Z h0 cd .int 6 fc) (A_od : ArI Z h0 od .int 6 fo) (A_sta : ArI Z h0 sta .int ns fs) (A_rw : ArI Z h0 rw .int n fr) (O_pt : O_Pt Z h0 pt (.ref rw) (.ref sta)) (O_co : O_Co Z h0 co .null .null 0 0) (ne_cd_co : cd ≠ co) (ne_od_co : od ≠ co) (ne_sta_co : sta ≠ co) (ne_rw_co : rw ≠ co) (ne_pt_co : pt ≠ co) (hshp : Shp sh nn ns fs) (hnn : nn.toInt = (n : Int)) (hn6 : n ≤ 6) (hfr : ∀ j, j < 6 → j < n → fr j = fo j) (hfo : ∀ j, j < 6 → 0 ≤ (fo j).toInt ∧ (fo j).toInt ≤ 5) :
    Ggseg1 p l e s m below meth c n0 h0 hE Z p0 p1 p2 sh dn bs nn sg cd od sta rw pt co n ns fc fo fs fr 8 36 h0 (mkF m 481 #[.val (.int p0), .val (.int p1), .val (.int p2), .val (.int sh), .val (.int dn), .val (.int bs), .val (.ref cd), .val (.ref od), .val (.int nn), .val (.ref sta), .val (.ref rw), .val (.ref pt), .unset, .unset, .unset, .unset, .unset, .unset, .unset, .unset, .unset] [(.ref sg), (.ref co), (.ref co)]) := by
  have hn : n0 ≤ h0.size := B.2.2.2.2.1
  have hz : h0.size ≤ h0.size := Nat.le_refl _
  refine G.aload B at_481 (v := (.ref cd)) rfl rfl (pc' := 483) rfl ?_
  refine G.iconst B at_483 (z := (4 : Int32)) rfl (pc' := 484) rfl ?_
  refine G.iconst B at_484 (z := (0 : Int32)) rfl (pc' := 485) rfl ?_
  refine G.callC (y := (⟨"com/example/tacit/tacit/engine/Column", "<init>", "(Ljava/lang/String;[IIZ)V"⟩ : MethodName)) (a := co) B rfl (hw _ (List.mem_of_getElem? (i := 30) rfl)) (hw _ (List.mem_of_getElem? (i := 31) rfl)) rfl (rm := ({ frames := 1, cells := 0, slots := 0, locals := 12 } : Room)) (ws' := [co]) (rm4 l Z a0 hw co sg cd (4 : Int32) (0 : Int32) .null .null 0 0 _ n0 hn O_co (own_fr B (Or.inl (List.mem_of_getElem? (i := 0) rfl)))) (allS (Or.inl (List.mem_of_getElem? (i := 0) rfl)) all0) (hw _ (List.mem_of_getElem? (i := 32) rfl)) (hw _ (List.mem_of_getElem? (i := 21) rfl)) (by decide) rfl (argsL := [(.ref sg), (.ref cd), (.int (4 : Int32)), (.int (0 : Int32))]) (rest := [(.ref co)]) rfl (lenOf pd_3 rfl) (by decide) (W := 1) (Nat.le_of_eq rfl) (by decide) (by decide) (by decide) at_485 (pc' := 488) rfl ?_
  rintro _ h1 K1 ⟨rfl, O_co⟩
  replace hn := Nat.le_trans hn K1.1
  replace hz := Nat.le_trans hz K1.1
  replace A_cd := A_cd.keep K1 (ninS ne_cd_co nin0)
  replace A_od := A_od.keep K1 (ninS ne_od_co nin0)
  replace A_sta := A_sta.keep K1 (ninS ne_sta_co nin0)
  replace A_rw := A_rw.keep K1 (ninS ne_rw_co nin0)
  replace O_pt := O_pt.keep K1 (ninS ne_pt_co nin0)
  show Ggseg1 p l e s m below meth c n0 h0 hE Z p0 p1 p2 sh dn bs nn sg cd od sta rw pt co n ns fc fo fs fr 8 36 h1 (mkF m 488 #[.val (.int p0), .val (.int p1), .val (.int p2), .val (.int sh), .val (.int dn), .val (.int bs), .val (.ref cd), .val (.ref od), .val (.int nn), .val (.ref sta), .val (.ref rw), .val (.ref pt), .unset, .unset, .unset, .unset, .unset, .unset, .unset, .unset, .unset] [(.ref co)])
  obtain ⟨hns, hss, hmo⟩ := own_shs hshp hnn
  have hrow : ∀ j, j < n → 0 ≤ (fr j).toInt ∧ (fr j).toInt ≤ 5 := fun j hj => by
    rw [hfr j (by omega) hj]; exact hfo j (by omega)
  refine G.astore B at_488 rfl (ls' := #[.val (.int p0), .val (.int p1), .val (.int p2), .val (.int sh), .val (.int dn), .val (.int bs), .val (.ref cd), .val (.ref od), .val (.int nn), .val (.ref sta), .val (.ref rw), .val (.ref pt), .val (.ref co), .unset, .unset, .unset, .unset, .unset, .unset, .unset, .unset]) rfl (pc' := 490) rfl ?_
  refine G.aload B at_490 (v := (.ref pt)) rfl rfl (pc' := 492) rfl ?_
  refine G.aload B at_492 (v := (.ref co)) rfl rfl (pc' := 494) rfl ?_
  refine G.callV (y := (⟨"com/example/tacit/tacit/engine/Partition", "determines", "(Lcom/example/tacit/tacit/engine/Column;)Z"⟩ : MethodName)) (a := pt) B O_pt.1 (hw _ (List.mem_of_getElem? (i := 42) rfl)) (hw _ (List.mem_of_getElem? (i := 43) rfl)) (hw _ (List.mem_of_getElem? (i := 45) rfl)) (hw _ (List.mem_of_getElem? (i := 44) rfl)) (rm := ({ frames := 0, cells := 0, slots := 0, locals := 0 } : Room)) (ws' := []) (rm5 l Z a0 hw pt co rw sta cd (.ref sg) (4 : Int32) (nar .boolean (0 : Int32)) n ns fr fs fc (sN fs) _ n0 hn O_pt O_co A_rw A_sta A_cd hns hn6 hss hmo hrow) (fun x hx => nomatch hx) (hw _ (List.mem_of_getElem? (i := 46) rfl)) (hw _ (List.mem_of_getElem? (i := 8) rfl)) (by decide) rfl (argsL := [(.ref co)]) (rest := []) rfl (lenOf pd_4 rfl) (by decide) (W := 0) (Nat.le_of_eq rfl) (by decide) (by decide) (by decide) at_494 (pc' := 497) rfl ?_
  rintro _ _ K2 ⟨dt, rfl, rfl, hdt⟩
  show Ggseg1 p l e s m below meth c n0 h0 hE Z p0 p1 p2 sh dn bs nn sg cd od sta rw pt co n ns fc fo fs fr 8 36 h1 (mkF m 497 #[.val (.int p0), .val (.int p1), .val (.int p2), .val (.int sh), .val (.int dn), .val (.int bs), .val (.ref cd), .val (.ref od), .val (.int nn), .val (.ref sta), .val (.ref rw), .val (.ref pt), .val (.ref co), .unset, .unset, .unset, .unset, .unset, .unset, .unset, .unset] [(.int dt)])
  have hP := own_dt hfr hn6 hmo hdt
  have hk0 := own_nn (hfo 0 (by decide))
  refine G.istore B at_497 (ls' := #[.val (.int p0), .val (.int p1), .val (.int p2), .val (.int sh), .val (.int dn), .val (.int bs), .val (.ref cd), .val (.ref od), .val (.int nn), .val (.ref sta), .val (.ref rw), .val (.ref pt), .val (.ref co), .val (.int dt), .unset, .unset, .unset, .unset, .unset, .unset, .unset]) rfl (pc' := 499) rfl ?_
  refine G.aload B at_499 (v := (.ref cd)) rfl rfl (pc' := 501) rfl ?_
  refine G.aload B at_501 (v := (.ref od)) rfl rfl (pc' := 503) rfl ?_
  refine G.iconst B at_503 (z := (0 : Int32)) rfl (pc' := 504) rfl ?_
  refine G.ldI B A_od (i := 0) (by decide) (by decide) (x := (fo 0)) rfl at_504 (pc' := 505) rfl ?_
  refine G.ldI B A_cd (i := (fo 0).toInt.toNat) hk0.1 hk0.2 (x := (VV fc fo 0)) rfl at_505 (pc' := 506) rfl ?_
  have hk1 := own_nn (hfo 1 (by decide))
  refine G.istore B at_506 (ls' := #[.val (.int p0), .val (.int p1), .val (.int p2), .val (.int sh), .val (.int dn), .val (.int bs), .val (.ref cd), .val (.ref od), .val (.int nn), .val (.ref sta), .val (.ref rw), .val (.ref pt), .val (.ref co), .val (.int dt), .val (.int (VV fc fo 0)), .unset, .unset, .unset, .unset, .unset, .unset]) rfl (pc' := 508) rfl ?_
  refine G.aload B at_508 (v := (.ref cd)) rfl rfl (pc' := 510) rfl ?_
  refine G.aload B at_510 (v := (.ref od)) rfl rfl (pc' := 512) rfl ?_
  refine G.iconst B at_512 (z := (1 : Int32)) rfl (pc' := 513) rfl ?_
  refine G.ldI B A_od (i := 1) (by decide) (by decide) (x := (fo 1)) rfl at_513 (pc' := 514) rfl ?_
  refine G.ldI B A_cd (i := (fo 1).toInt.toNat) hk1.1 hk1.2 (x := (VV fc fo 1)) rfl at_514 (pc' := 515) rfl ?_
  have hk2 := own_nn (hfo 2 (by decide))
  refine G.istore B at_515 (ls' := #[.val (.int p0), .val (.int p1), .val (.int p2), .val (.int sh), .val (.int dn), .val (.int bs), .val (.ref cd), .val (.ref od), .val (.int nn), .val (.ref sta), .val (.ref rw), .val (.ref pt), .val (.ref co), .val (.int dt), .val (.int (VV fc fo 0)), .val (.int (VV fc fo 1)), .unset, .unset, .unset, .unset, .unset]) rfl (pc' := 517) rfl ?_
  refine G.aload B at_517 (v := (.ref cd)) rfl rfl (pc' := 519) rfl ?_
  refine G.aload B at_519 (v := (.ref od)) rfl rfl (pc' := 521) rfl ?_
  refine G.iconst B at_521 (z := (2 : Int32)) rfl (pc' := 522) rfl ?_
  refine G.ldI B A_od (i := 2) (by decide) (by decide) (x := (fo 2)) rfl at_522 (pc' := 523) rfl ?_
  refine G.ldI B A_cd (i := (fo 2).toInt.toNat) hk2.1 hk2.2 (x := (VV fc fo 2)) rfl at_523 (pc' := 524) rfl ?_
  have hk3 := own_nn (hfo 3 (by decide))
  refine G.istore B at_524 (ls' := #[.val (.int p0), .val (.int p1), .val (.int p2), .val (.int sh), .val (.int dn), .val (.int bs), .val (.ref cd), .val (.ref od), .val (.int nn), .val (.ref sta), .val (.ref rw), .val (.ref pt), .val (.ref co), .val (.int dt), .val (.int (VV fc fo 0)), .val (.int (VV fc fo 1)), .val (.int (VV fc fo 2)), .unset, .unset, .unset, .unset]) rfl (pc' := 526) rfl ?_
  refine G.aload B at_526 (v := (.ref cd)) rfl rfl (pc' := 528) rfl ?_
  refine G.aload B at_528 (v := (.ref od)) rfl rfl (pc' := 530) rfl ?_
  refine G.iconst B at_530 (z := (3 : Int32)) rfl (pc' := 531) rfl ?_
  refine G.ldI B A_od (i := 3) (by decide) (by decide) (x := (fo 3)) rfl at_531 (pc' := 532) rfl ?_
  refine G.ldI B A_cd (i := (fo 3).toInt.toNat) hk3.1 hk3.2 (x := (VV fc fo 3)) rfl at_532 (pc' := 533) rfl ?_
  have hk4 := own_nn (hfo 4 (by decide))
  refine G.istore B at_533 (ls' := #[.val (.int p0), .val (.int p1), .val (.int p2), .val (.int sh), .val (.int dn), .val (.int bs), .val (.ref cd), .val (.ref od), .val (.int nn), .val (.ref sta), .val (.ref rw), .val (.ref pt), .val (.ref co), .val (.int dt), .val (.int (VV fc fo 0)), .val (.int (VV fc fo 1)), .val (.int (VV fc fo 2)), .val (.int (VV fc fo 3)), .unset, .unset, .unset]) rfl (pc' := 535) rfl ?_
  refine G.aload B at_535 (v := (.ref cd)) rfl rfl (pc' := 537) rfl ?_
  refine G.aload B at_537 (v := (.ref od)) rfl rfl (pc' := 539) rfl ?_
  refine G.iconst B at_539 (z := (4 : Int32)) rfl (pc' := 540) rfl ?_
  refine G.ldI B A_od (i := 4) (by decide) (by decide) (x := (fo 4)) rfl at_540 (pc' := 541) rfl ?_
  refine G.ldI B A_cd (i := (fo 4).toInt.toNat) hk4.1 hk4.2 (x := (VV fc fo 4)) rfl at_541 (pc' := 542) rfl ?_
  have hk5 := own_nn (hfo 5 (by decide))
  refine G.istore B at_542 (ls' := #[.val (.int p0), .val (.int p1), .val (.int p2), .val (.int sh), .val (.int dn), .val (.int bs), .val (.ref cd), .val (.ref od), .val (.int nn), .val (.ref sta), .val (.ref rw), .val (.ref pt), .val (.ref co), .val (.int dt), .val (.int (VV fc fo 0)), .val (.int (VV fc fo 1)), .val (.int (VV fc fo 2)), .val (.int (VV fc fo 3)), .val (.int (VV fc fo 4)), .unset, .unset]) rfl (pc' := 544) rfl ?_
  refine G.aload B at_544 (v := (.ref cd)) rfl rfl (pc' := 546) rfl ?_
  refine G.aload B at_546 (v := (.ref od)) rfl rfl (pc' := 548) rfl ?_
  refine G.iconst B at_548 (z := (5 : Int32)) rfl (pc' := 549) rfl ?_
  refine G.ldI B A_od (i := 5) (by decide) (by decide) (x := (fo 5)) rfl at_549 (pc' := 550) rfl ?_
  refine G.ldI B A_cd (i := (fo 5).toInt.toNat) hk5.1 hk5.2 (x := (VV fc fo 5)) rfl at_550 (pc' := 551) rfl ?_
  refine G.istore B at_551 (ls' := #[.val (.int p0), .val (.int p1), .val (.int p2), .val (.int sh), .val (.int dn), .val (.int bs), .val (.ref cd), .val (.ref od), .val (.int nn), .val (.ref sta), .val (.ref rw), .val (.ref pt), .val (.ref co), .val (.int dt), .val (.int (VV fc fo 0)), .val (.int (VV fc fo 1)), .val (.int (VV fc fo 2)), .val (.int (VV fc fo 3)), .val (.int (VV fc fo 4)), .val (.int (VV fc fo 5)), .unset]) rfl (pc' := 553) rfl ?_
  show Ggseg1 p l e s m below meth c n0 h0 hE Z p0 p1 p2 sh dn bs nn sg cd od sta rw pt co n ns fc fo fs fr 8 36 h1 (mkF m 553 #[.val (.int p0), .val (.int p1), .val (.int p2), .val (.int sh), .val (.int dn), .val (.int bs), .val (.ref cd), .val (.ref od), .val (.int nn), .val (.ref sta), .val (.ref rw), .val (.ref pt), .val (.ref co), .val (.int dt), .val (.int (VV fc fo 0)), .val (.int (VV fc fo 1)), .val (.int (VV fc fo 2)), .val (.int (VV fc fo 3)), .val (.int (VV fc fo 4)), .val (.int (VV fc fo 5)), .unset] [])
  suffices K808 : ∀ (w : Int32), (Wd sh w (VV fc fo)) → Ggseg1 p l e s m below meth c n0 h0 hE Z p0 p1 p2 sh dn bs nn sg cd od sta rw pt co n ns fc fo fs fr 8 36 h1 (mkF m 808 #[.val (.int p0), .val (.int p1), .val (.int p2), .val (.int sh), .val (.int dn), .val (.int bs), .val (.ref cd), .val (.ref od), .val (.int nn), .val (.ref sta), .val (.ref rw), .val (.ref pt), .val (.ref co), .val (.int dt), .val (.int (VV fc fo 0)), .val (.int (VV fc fo 1)), .val (.int (VV fc fo 2)), .val (.int (VV fc fo 3)), .val (.int (VV fc fo 4)), .val (.int (VV fc fo 5)), .val (.int w)] []) by
    refine G.iloadN B at_553 (v := sh) rfl (pc' := 554) rfl ?_
    refine G.if_ne B at_554 (by decide) (pcT := 563) (by decide) (pc' := 557) rfl (fun (hc554 : sh ≠ 0) => ?_) (fun (hc554 : sh = 0) => ?_)
    · refine G.iloadN B at_563 (v := sh) rfl (pc' := 564) rfl ?_
      refine G.iconst B at_564 (z := (1 : Int32)) rfl (pc' := 565) rfl ?_
      refine G.icmp_ne B at_565 (by decide) (pcT := 585) (by decide) (pc' := 568) rfl (fun (hc565 : sh ≠ (1 : Int32)) => ?_) (fun (hc565 : sh = (1 : Int32)) => ?_)
      · refine G.iloadN B at_585 (v := sh) rfl (pc' := 586) rfl ?_
        refine G.iconst B at_586 (z := (2 : Int32)) rfl (pc' := 587) rfl ?_
        refine G.icmp_ne B at_587 (by decide) (pcT := 621) (by decide) (pc' := 590) rfl (fun (hc587 : sh ≠ (2 : Int32)) => ?_) (fun (hc587 : sh = (2 : Int32)) => ?_)
        · refine G.iloadN B at_621 (v := sh) rfl (pc' := 622) rfl ?_
          refine G.iconst B at_622 (z := (3 : Int32)) rfl (pc' := 623) rfl ?_
          refine G.icmp_ne B at_623 (by decide) (pcT := 671) (by decide) (pc' := 626) rfl (fun (hc623 : sh ≠ (3 : Int32)) => ?_) (fun (hc623 : sh = (3 : Int32)) => ?_)
          · refine G.iloadN B at_671 (v := sh) rfl (pc' := 672) rfl ?_
            refine G.iconst B at_672 (z := (4 : Int32)) rfl (pc' := 673) rfl ?_
            refine G.icmp_ne B at_673 (by decide) (pcT := 700) (by decide) (pc' := 676) rfl (fun (hc673 : sh ≠ (4 : Int32)) => ?_) (fun (hc673 : sh = (4 : Int32)) => ?_)
            · refine G.iloadN B at_700 (v := sh) rfl (pc' := 701) rfl ?_
              refine G.iconst B at_701 (z := (5 : Int32)) rfl (pc' := 702) rfl ?_
              refine G.icmp_ne B at_702 (by decide) (pcT := 736) (by decide) (pc' := 705) rfl (fun (hc702 : sh ≠ (5 : Int32)) => ?_) (fun (hc702 : sh = (5 : Int32)) => ?_)
              · refine G.iloadN B at_736 (v := sh) rfl (pc' := 737) rfl ?_
                refine G.bipush B at_737 (z := (6 : Int32)) rfl (pc' := 739) rfl ?_
                refine G.icmp_ne B at_739 (by decide) (pcT := 780) (by decide) (pc' := 742) rfl (fun (hc739 : sh ≠ (6 : Int32)) => ?_) (fun (hc739 : sh = (6 : Int32)) => ?_)
                · refine G.iload B at_780 (v := (VV fc fo 0)) rfl (pc' := 782) rfl ?_
                  refine G.iload B at_782 (v := (VV fc fo 1)) rfl (pc' := 784) rfl ?_
                  refine G.icmp_ne B at_784 (by decide) (pcT := 805) (by decide) (pc' := 787) rfl (fun (hc784 : (VV fc fo 0) ≠ (VV fc fo 1)) => ?_) (fun (hc784 : (VV fc fo 0) = (VV fc fo 1)) => ?_)
                  · refine G.iconst B at_805 (z := (0 : Int32)) rfl (pc' := 806) rfl ?_
                    refine G.istore B at_806 (ls' := #[.val (.int p0), .val (.int p1), .val (.int p2), .val (.int sh), .val (.int dn), .val (.int bs), .val (.ref cd), .val (.ref od), .val (.int nn), .val (.ref sta), .val (.ref rw), .val (.ref pt), .val (.ref co), .val (.int dt), .val (.int (VV fc fo 0)), .val (.int (VV fc fo 1)), .val (.int (VV fc fo 2)), .val (.int (VV fc fo 3)), .val (.int (VV fc fo 4)), .val (.int (VV fc fo 5)), .val (.int (0 : Int32))]) rfl (pc' := 808) rfl ?_
                    exact K808 (0 : Int32) (Or.inr (Or.inr (Or.inr (Or.inr (Or.inr (Or.inr (Or.inr (⟨⟨hc554, hc565, hc587, hc623, hc673, hc702, hc739⟩, Or.inr ⟨rfl, fun q => hc784 q.1⟩⟩))))))))
                  · refine G.iload B at_787 (v := (VV fc fo 2)) rfl (pc' := 789) rfl ?_
                    refine G.iload B at_789 (v := (VV fc fo 3)) rfl (pc' := 791) rfl ?_
                    refine G.icmp_ne B at_791 (by decide) (pcT := 805) (by decide) (pc' := 794) rfl (fun (hc791 : (VV fc fo 2) ≠ (VV fc fo 3)) => ?_) (fun (hc791 : (VV fc fo 2) = (VV fc fo 3)) => ?_)
                    · refine G.iconst B at_805 (z := (0 : Int32)) rfl (pc' := 806) rfl ?_
                      refine G.istore B at_806 (ls' := #[.val (.int p0), .val (.int p1), .val (.int p2), .val (.int sh), .val (.int dn), .val (.int bs), .val (.ref cd), .val (.ref od), .val (.int nn), .val (.ref sta), .val (.ref rw), .val (.ref pt), .val (.ref co), .val (.int dt), .val (.int (VV fc fo 0)), .val (.int (VV fc fo 1)), .val (.int (VV fc fo 2)), .val (.int (VV fc fo 3)), .val (.int (VV fc fo 4)), .val (.int (VV fc fo 5)), .val (.int (0 : Int32))]) rfl (pc' := 808) rfl ?_
                      exact K808 (0 : Int32) (Or.inr (Or.inr (Or.inr (Or.inr (Or.inr (Or.inr (Or.inr (⟨⟨hc554, hc565, hc587, hc623, hc673, hc702, hc739⟩, Or.inr ⟨rfl, fun q => hc791 q.2.1⟩⟩))))))))
                    · refine G.iload B at_794 (v := (VV fc fo 4)) rfl (pc' := 796) rfl ?_
                      refine G.iload B at_796 (v := (VV fc fo 5)) rfl (pc' := 798) rfl ?_
                      refine G.icmp_ne B at_798 (by decide) (pcT := 805) (by decide) (pc' := 801) rfl (fun (hc798 : (VV fc fo 4) ≠ (VV fc fo 5)) => ?_) (fun (hc798 : (VV fc fo 4) = (VV fc fo 5)) => ?_)
                      · refine G.iconst B at_805 (z := (0 : Int32)) rfl (pc' := 806) rfl ?_
                        refine G.istore B at_806 (ls' := #[.val (.int p0), .val (.int p1), .val (.int p2), .val (.int sh), .val (.int dn), .val (.int bs), .val (.ref cd), .val (.ref od), .val (.int nn), .val (.ref sta), .val (.ref rw), .val (.ref pt), .val (.ref co), .val (.int dt), .val (.int (VV fc fo 0)), .val (.int (VV fc fo 1)), .val (.int (VV fc fo 2)), .val (.int (VV fc fo 3)), .val (.int (VV fc fo 4)), .val (.int (VV fc fo 5)), .val (.int (0 : Int32))]) rfl (pc' := 808) rfl ?_
                        exact K808 (0 : Int32) (Or.inr (Or.inr (Or.inr (Or.inr (Or.inr (Or.inr (Or.inr (⟨⟨hc554, hc565, hc587, hc623, hc673, hc702, hc739⟩, Or.inr ⟨rfl, fun q => hc798 q.2.2⟩⟩))))))))
                      · refine G.iconst B at_801 (z := (1 : Int32)) rfl (pc' := 802) rfl ?_
                        refine G.goto B at_802 (by decide) (pc' := 806) (by decide) ?_
                        refine G.istore B at_806 (ls' := #[.val (.int p0), .val (.int p1), .val (.int p2), .val (.int sh), .val (.int dn), .val (.int bs), .val (.ref cd), .val (.ref od), .val (.int nn), .val (.ref sta), .val (.ref rw), .val (.ref pt), .val (.ref co), .val (.int dt), .val (.int (VV fc fo 0)), .val (.int (VV fc fo 1)), .val (.int (VV fc fo 2)), .val (.int (VV fc fo 3)), .val (.int (VV fc fo 4)), .val (.int (VV fc fo 5)), .val (.int (1 : Int32))]) rfl (pc' := 808) rfl ?_
                        exact K808 (1 : Int32) (Or.inr (Or.inr (Or.inr (Or.inr (Or.inr (Or.inr (Or.inr (⟨⟨hc554, hc565, hc587, hc623, hc673, hc702, hc739⟩, Or.inl ⟨rfl, hc784, hc791, hc798⟩⟩))))))))
                · refine G.iload B at_742 (v := (VV fc fo 0)) rfl (pc' := 744) rfl ?_
                  refine G.iload B at_744 (v := (VV fc fo 1)) rfl (pc' := 746) rfl ?_
                  refine G.icmp_ne B at_746 (by decide) (pcT := 774) (by decide) (pc' := 749) rfl (fun (hc746 : (VV fc fo 0) ≠ (VV fc fo 1)) => ?_) (fun (hc746 : (VV fc fo 0) = (VV fc fo 1)) => ?_)
                  · refine G.iconst B at_774 (z := (0 : Int32)) rfl (pc' := 775) rfl ?_
                    refine G.istore B at_775 (ls' := #[.val (.int p0), .val (.int p1), .val (.int p2), .val (.int sh), .val (.int dn), .val (.int bs), .val (.ref cd), .val (.ref od), .val (.int nn), .val (.ref sta), .val (.ref rw), .val (.ref pt), .val (.ref co), .val (.int dt), .val (.int (VV fc fo 0)), .val (.int (VV fc fo 1)), .val (.int (VV fc fo 2)), .val (.int (VV fc fo 3)), .val (.int (VV fc fo 4)), .val (.int (VV fc fo 5)), .val (.int (0 : Int32))]) rfl (pc' := 777) rfl ?_
                    refine G.goto B at_777 (by decide) (pc' := 808) (by decide) ?_
                    exact K808 (0 : Int32) (Or.inr (Or.inr (Or.inr (Or.inr (Or.inr (Or.inr (Or.inl ⟨hc739, Or.inr ⟨rfl, fun q => hc746 q.1⟩⟩)))))))
                  · refine G.iload B at_749 (v := (VV fc fo 2)) rfl (pc' := 751) rfl ?_
                    refine G.iload B at_751 (v := (VV fc fo 3)) rfl (pc' := 753) rfl ?_
                    refine G.icmp_ne B at_753 (by decide) (pcT := 774) (by decide) (pc' := 756) rfl (fun (hc753 : (VV fc fo 2) ≠ (VV fc fo 3)) => ?_) (fun (hc753 : (VV fc fo 2) = (VV fc fo 3)) => ?_)
                    · refine G.iconst B at_774 (z := (0 : Int32)) rfl (pc' := 775) rfl ?_
                      refine G.istore B at_775 (ls' := #[.val (.int p0), .val (.int p1), .val (.int p2), .val (.int sh), .val (.int dn), .val (.int bs), .val (.ref cd), .val (.ref od), .val (.int nn), .val (.ref sta), .val (.ref rw), .val (.ref pt), .val (.ref co), .val (.int dt), .val (.int (VV fc fo 0)), .val (.int (VV fc fo 1)), .val (.int (VV fc fo 2)), .val (.int (VV fc fo 3)), .val (.int (VV fc fo 4)), .val (.int (VV fc fo 5)), .val (.int (0 : Int32))]) rfl (pc' := 777) rfl ?_
                      refine G.goto B at_777 (by decide) (pc' := 808) (by decide) ?_
                      exact K808 (0 : Int32) (Or.inr (Or.inr (Or.inr (Or.inr (Or.inr (Or.inr (Or.inl ⟨hc739, Or.inr ⟨rfl, fun q => hc753 q.2.1⟩⟩)))))))
                    · refine G.iload B at_756 (v := (VV fc fo 3)) rfl (pc' := 758) rfl ?_
                      refine G.iload B at_758 (v := (VV fc fo 4)) rfl (pc' := 760) rfl ?_
                      refine G.icmp_ne B at_760 (by decide) (pcT := 774) (by decide) (pc' := 763) rfl (fun (hc760 : (VV fc fo 3) ≠ (VV fc fo 4)) => ?_) (fun (hc760 : (VV fc fo 3) = (VV fc fo 4)) => ?_)
                      · refine G.iconst B at_774 (z := (0 : Int32)) rfl (pc' := 775) rfl ?_
                        refine G.istore B at_775 (ls' := #[.val (.int p0), .val (.int p1), .val (.int p2), .val (.int sh), .val (.int dn), .val (.int bs), .val (.ref cd), .val (.ref od), .val (.int nn), .val (.ref sta), .val (.ref rw), .val (.ref pt), .val (.ref co), .val (.int dt), .val (.int (VV fc fo 0)), .val (.int (VV fc fo 1)), .val (.int (VV fc fo 2)), .val (.int (VV fc fo 3)), .val (.int (VV fc fo 4)), .val (.int (VV fc fo 5)), .val (.int (0 : Int32))]) rfl (pc' := 777) rfl ?_
                        refine G.goto B at_777 (by decide) (pc' := 808) (by decide) ?_
                        exact K808 (0 : Int32) (Or.inr (Or.inr (Or.inr (Or.inr (Or.inr (Or.inr (Or.inl ⟨hc739, Or.inr ⟨rfl, fun q => hc760 q.2.2.1⟩⟩)))))))
                      · refine G.iload B at_763 (v := (VV fc fo 4)) rfl (pc' := 765) rfl ?_
                        refine G.iload B at_765 (v := (VV fc fo 5)) rfl (pc' := 767) rfl ?_
                        refine G.icmp_ne B at_767 (by decide) (pcT := 774) (by decide) (pc' := 770) rfl (fun (hc767 : (VV fc fo 4) ≠ (VV fc fo 5)) => ?_) (fun (hc767 : (VV fc fo 4) = (VV fc fo 5)) => ?_)
                        · refine G.iconst B at_774 (z := (0 : Int32)) rfl (pc' := 775) rfl ?_
                          refine G.istore B at_775 (ls' := #[.val (.int p0), .val (.int p1), .val (.int p2), .val (.int sh), .val (.int dn), .val (.int bs), .val (.ref cd), .val (.ref od), .val (.int nn), .val (.ref sta), .val (.ref rw), .val (.ref pt), .val (.ref co), .val (.int dt), .val (.int (VV fc fo 0)), .val (.int (VV fc fo 1)), .val (.int (VV fc fo 2)), .val (.int (VV fc fo 3)), .val (.int (VV fc fo 4)), .val (.int (VV fc fo 5)), .val (.int (0 : Int32))]) rfl (pc' := 777) rfl ?_
                          refine G.goto B at_777 (by decide) (pc' := 808) (by decide) ?_
                          exact K808 (0 : Int32) (Or.inr (Or.inr (Or.inr (Or.inr (Or.inr (Or.inr (Or.inl ⟨hc739, Or.inr ⟨rfl, fun q => hc767 q.2.2.2⟩⟩)))))))
                        · refine G.iconst B at_770 (z := (1 : Int32)) rfl (pc' := 771) rfl ?_
                          refine G.goto B at_771 (by decide) (pc' := 775) (by decide) ?_
                          refine G.istore B at_775 (ls' := #[.val (.int p0), .val (.int p1), .val (.int p2), .val (.int sh), .val (.int dn), .val (.int bs), .val (.ref cd), .val (.ref od), .val (.int nn), .val (.ref sta), .val (.ref rw), .val (.ref pt), .val (.ref co), .val (.int dt), .val (.int (VV fc fo 0)), .val (.int (VV fc fo 1)), .val (.int (VV fc fo 2)), .val (.int (VV fc fo 3)), .val (.int (VV fc fo 4)), .val (.int (VV fc fo 5)), .val (.int (1 : Int32))]) rfl (pc' := 777) rfl ?_
                          refine G.goto B at_777 (by decide) (pc' := 808) (by decide) ?_
                          exact K808 (1 : Int32) (Or.inr (Or.inr (Or.inr (Or.inr (Or.inr (Or.inr (Or.inl ⟨hc739, Or.inl ⟨rfl, hc746, hc753, hc760, hc767⟩⟩)))))))
              · refine G.iload B at_705 (v := (VV fc fo 0)) rfl (pc' := 707) rfl ?_
                refine G.iload B at_707 (v := (VV fc fo 1)) rfl (pc' := 709) rfl ?_
                refine G.icmp_ne B at_709 (by decide) (pcT := 730) (by decide) (pc' := 712) rfl (fun (hc709 : (VV fc fo 0) ≠ (VV fc fo 1)) => ?_) (fun (hc709 : (VV fc fo 0) = (VV fc fo 1)) => ?_)
                · refine G.iconst B at_730 (z := (0 : Int32)) rfl (pc' := 731) rfl ?_
                  refine G.istore B at_731 (ls' := #[.val (.int p0), .val (.int p1), .val (.int p2), .val (.int sh), .val (.int dn), .val (.int bs), .val (.ref cd), .val (.ref od), .val (.int nn), .val (.ref sta), .val (.ref rw), .val (.ref pt), .val (.ref co), .val (.int dt), .val (.int (VV fc fo 0)), .val (.int (VV fc fo 1)), .val (.int (VV fc fo 2)), .val (.int (VV fc fo 3)), .val (.int (VV fc fo 4)), .val (.int (VV fc fo 5)), .val (.int (0 : Int32))]) rfl (pc' := 733) rfl ?_
                  refine G.goto B at_733 (by decide) (pc' := 808) (by decide) ?_
                  exact K808 (0 : Int32) (Or.inr (Or.inr (Or.inr (Or.inr (Or.inr (Or.inl ⟨hc702, Or.inr ⟨rfl, fun q => hc709 q.1⟩⟩))))))
                · refine G.iload B at_712 (v := (VV fc fo 1)) rfl (pc' := 714) rfl ?_
                  refine G.iload B at_714 (v := (VV fc fo 2)) rfl (pc' := 716) rfl ?_
                  refine G.icmp_ne B at_716 (by decide) (pcT := 730) (by decide) (pc' := 719) rfl (fun (hc716 : (VV fc fo 1) ≠ (VV fc fo 2)) => ?_) (fun (hc716 : (VV fc fo 1) = (VV fc fo 2)) => ?_)
                  · refine G.iconst B at_730 (z := (0 : Int32)) rfl (pc' := 731) rfl ?_
                    refine G.istore B at_731 (ls' := #[.val (.int p0), .val (.int p1), .val (.int p2), .val (.int sh), .val (.int dn), .val (.int bs), .val (.ref cd), .val (.ref od), .val (.int nn), .val (.ref sta), .val (.ref rw), .val (.ref pt), .val (.ref co), .val (.int dt), .val (.int (VV fc fo 0)), .val (.int (VV fc fo 1)), .val (.int (VV fc fo 2)), .val (.int (VV fc fo 3)), .val (.int (VV fc fo 4)), .val (.int (VV fc fo 5)), .val (.int (0 : Int32))]) rfl (pc' := 733) rfl ?_
                    refine G.goto B at_733 (by decide) (pc' := 808) (by decide) ?_
                    exact K808 (0 : Int32) (Or.inr (Or.inr (Or.inr (Or.inr (Or.inr (Or.inl ⟨hc702, Or.inr ⟨rfl, fun q => hc716 q.2.1⟩⟩))))))
                  · refine G.iload B at_719 (v := (VV fc fo 3)) rfl (pc' := 721) rfl ?_
                    refine G.iload B at_721 (v := (VV fc fo 4)) rfl (pc' := 723) rfl ?_
                    refine G.icmp_ne B at_723 (by decide) (pcT := 730) (by decide) (pc' := 726) rfl (fun (hc723 : (VV fc fo 3) ≠ (VV fc fo 4)) => ?_) (fun (hc723 : (VV fc fo 3) = (VV fc fo 4)) => ?_)
                    · refine G.iconst B at_730 (z := (0 : Int32)) rfl (pc' := 731) rfl ?_
                      refine G.istore B at_731 (ls' := #[.val (.int p0), .val (.int p1), .val (.int p2), .val (.int sh), .val (.int dn), .val (.int bs), .val (.ref cd), .val (.ref od), .val (.int nn), .val (.ref sta), .val (.ref rw), .val (.ref pt), .val (.ref co), .val (.int dt), .val (.int (VV fc fo 0)), .val (.int (VV fc fo 1)), .val (.int (VV fc fo 2)), .val (.int (VV fc fo 3)), .val (.int (VV fc fo 4)), .val (.int (VV fc fo 5)), .val (.int (0 : Int32))]) rfl (pc' := 733) rfl ?_
                      refine G.goto B at_733 (by decide) (pc' := 808) (by decide) ?_
                      exact K808 (0 : Int32) (Or.inr (Or.inr (Or.inr (Or.inr (Or.inr (Or.inl ⟨hc702, Or.inr ⟨rfl, fun q => hc723 q.2.2⟩⟩))))))
                    · refine G.iconst B at_726 (z := (1 : Int32)) rfl (pc' := 727) rfl ?_
                      refine G.goto B at_727 (by decide) (pc' := 731) (by decide) ?_
                      refine G.istore B at_731 (ls' := #[.val (.int p0), .val (.int p1), .val (.int p2), .val (.int sh), .val (.int dn), .val (.int bs), .val (.ref cd), .val (.ref od), .val (.int nn), .val (.ref sta), .val (.ref rw), .val (.ref pt), .val (.ref co), .val (.int dt), .val (.int (VV fc fo 0)), .val (.int (VV fc fo 1)), .val (.int (VV fc fo 2)), .val (.int (VV fc fo 3)), .val (.int (VV fc fo 4)), .val (.int (VV fc fo 5)), .val (.int (1 : Int32))]) rfl (pc' := 733) rfl ?_
                      refine G.goto B at_733 (by decide) (pc' := 808) (by decide) ?_
                      exact K808 (1 : Int32) (Or.inr (Or.inr (Or.inr (Or.inr (Or.inr (Or.inl ⟨hc702, Or.inl ⟨rfl, hc709, hc716, hc723⟩⟩))))))
            · refine G.iload B at_676 (v := (VV fc fo 0)) rfl (pc' := 678) rfl ?_
              refine G.iload B at_678 (v := (VV fc fo 1)) rfl (pc' := 680) rfl ?_
              refine G.icmp_ne B at_680 (by decide) (pcT := 694) (by decide) (pc' := 683) rfl (fun (hc680 : (VV fc fo 0) ≠ (VV fc fo 1)) => ?_) (fun (hc680 : (VV fc fo 0) = (VV fc fo 1)) => ?_)
              · refine G.iconst B at_694 (z := (0 : Int32)) rfl (pc' := 695) rfl ?_
                refine G.istore B at_695 (ls' := #[.val (.int p0), .val (.int p1), .val (.int p2), .val (.int sh), .val (.int dn), .val (.int bs), .val (.ref cd), .val (.ref od), .val (.int nn), .val (.ref sta), .val (.ref rw), .val (.ref pt), .val (.ref co), .val (.int dt), .val (.int (VV fc fo 0)), .val (.int (VV fc fo 1)), .val (.int (VV fc fo 2)), .val (.int (VV fc fo 3)), .val (.int (VV fc fo 4)), .val (.int (VV fc fo 5)), .val (.int (0 : Int32))]) rfl (pc' := 697) rfl ?_
                refine G.goto B at_697 (by decide) (pc' := 808) (by decide) ?_
                exact K808 (0 : Int32) (Or.inr (Or.inr (Or.inr (Or.inr (Or.inl ⟨hc673, Or.inr ⟨rfl, fun q => hc680 q.1⟩⟩)))))
              · refine G.iload B at_683 (v := (VV fc fo 2)) rfl (pc' := 685) rfl ?_
                refine G.iload B at_685 (v := (VV fc fo 3)) rfl (pc' := 687) rfl ?_
                refine G.icmp_ne B at_687 (by decide) (pcT := 694) (by decide) (pc' := 690) rfl (fun (hc687 : (VV fc fo 2) ≠ (VV fc fo 3)) => ?_) (fun (hc687 : (VV fc fo 2) = (VV fc fo 3)) => ?_)
                · refine G.iconst B at_694 (z := (0 : Int32)) rfl (pc' := 695) rfl ?_
                  refine G.istore B at_695 (ls' := #[.val (.int p0), .val (.int p1), .val (.int p2), .val (.int sh), .val (.int dn), .val (.int bs), .val (.ref cd), .val (.ref od), .val (.int nn), .val (.ref sta), .val (.ref rw), .val (.ref pt), .val (.ref co), .val (.int dt), .val (.int (VV fc fo 0)), .val (.int (VV fc fo 1)), .val (.int (VV fc fo 2)), .val (.int (VV fc fo 3)), .val (.int (VV fc fo 4)), .val (.int (VV fc fo 5)), .val (.int (0 : Int32))]) rfl (pc' := 697) rfl ?_
                  refine G.goto B at_697 (by decide) (pc' := 808) (by decide) ?_
                  exact K808 (0 : Int32) (Or.inr (Or.inr (Or.inr (Or.inr (Or.inl ⟨hc673, Or.inr ⟨rfl, fun q => hc687 q.2⟩⟩)))))
                · refine G.iconst B at_690 (z := (1 : Int32)) rfl (pc' := 691) rfl ?_
                  refine G.goto B at_691 (by decide) (pc' := 695) (by decide) ?_
                  refine G.istore B at_695 (ls' := #[.val (.int p0), .val (.int p1), .val (.int p2), .val (.int sh), .val (.int dn), .val (.int bs), .val (.ref cd), .val (.ref od), .val (.int nn), .val (.ref sta), .val (.ref rw), .val (.ref pt), .val (.ref co), .val (.int dt), .val (.int (VV fc fo 0)), .val (.int (VV fc fo 1)), .val (.int (VV fc fo 2)), .val (.int (VV fc fo 3)), .val (.int (VV fc fo 4)), .val (.int (VV fc fo 5)), .val (.int (1 : Int32))]) rfl (pc' := 697) rfl ?_
                  refine G.goto B at_697 (by decide) (pc' := 808) (by decide) ?_
                  exact K808 (1 : Int32) (Or.inr (Or.inr (Or.inr (Or.inr (Or.inl ⟨hc673, Or.inl ⟨rfl, hc680, hc687⟩⟩)))))
          · refine G.iload B at_626 (v := (VV fc fo 0)) rfl (pc' := 628) rfl ?_
            refine G.iload B at_628 (v := (VV fc fo 1)) rfl (pc' := 630) rfl ?_
            refine G.icmp_ne B at_630 (by decide) (pcT := 665) (by decide) (pc' := 633) rfl (fun (hc630 : (VV fc fo 0) ≠ (VV fc fo 1)) => ?_) (fun (hc630 : (VV fc fo 0) = (VV fc fo 1)) => ?_)
            · refine G.iconst B at_665 (z := (0 : Int32)) rfl (pc' := 666) rfl ?_
              refine G.istore B at_666 (ls' := #[.val (.int p0), .val (.int p1), .val (.int p2), .val (.int sh), .val (.int dn), .val (.int bs), .val (.ref cd), .val (.ref od), .val (.int nn), .val (.ref sta), .val (.ref rw), .val (.ref pt), .val (.ref co), .val (.int dt), .val (.int (VV fc fo 0)), .val (.int (VV fc fo 1)), .val (.int (VV fc fo 2)), .val (.int (VV fc fo 3)), .val (.int (VV fc fo 4)), .val (.int (VV fc fo 5)), .val (.int (0 : Int32))]) rfl (pc' := 668) rfl ?_
              refine G.goto B at_668 (by decide) (pc' := 808) (by decide) ?_
              exact K808 (0 : Int32) (Or.inr (Or.inr (Or.inr (Or.inl ⟨hc623, Or.inr ⟨rfl, fun q => hc630 q.1⟩⟩))))
            · refine G.iload B at_633 (v := (VV fc fo 1)) rfl (pc' := 635) rfl ?_
              refine G.iload B at_635 (v := (VV fc fo 2)) rfl (pc' := 637) rfl ?_
              refine G.icmp_ne B at_637 (by decide) (pcT := 665) (by decide) (pc' := 640) rfl (fun (hc637 : (VV fc fo 1) ≠ (VV fc fo 2)) => ?_) (fun (hc637 : (VV fc fo 1) = (VV fc fo 2)) => ?_)
              · refine G.iconst B at_665 (z := (0 : Int32)) rfl (pc' := 666) rfl ?_
                refine G.istore B at_666 (ls' := #[.val (.int p0), .val (.int p1), .val (.int p2), .val (.int sh), .val (.int dn), .val (.int bs), .val (.ref cd), .val (.ref od), .val (.int nn), .val (.ref sta), .val (.ref rw), .val (.ref pt), .val (.ref co), .val (.int dt), .val (.int (VV fc fo 0)), .val (.int (VV fc fo 1)), .val (.int (VV fc fo 2)), .val (.int (VV fc fo 3)), .val (.int (VV fc fo 4)), .val (.int (VV fc fo 5)), .val (.int (0 : Int32))]) rfl (pc' := 668) rfl ?_
                refine G.goto B at_668 (by decide) (pc' := 808) (by decide) ?_
                exact K808 (0 : Int32) (Or.inr (Or.inr (Or.inr (Or.inl ⟨hc623, Or.inr ⟨rfl, fun q => hc637 q.2.1⟩⟩))))
              · refine G.iload B at_640 (v := (VV fc fo 2)) rfl (pc' := 642) rfl ?_
                refine G.iload B at_642 (v := (VV fc fo 3)) rfl (pc' := 644) rfl ?_
                refine G.icmp_ne B at_644 (by decide) (pcT := 665) (by decide) (pc' := 647) rfl (fun (hc644 : (VV fc fo 2) ≠ (VV fc fo 3)) => ?_) (fun (hc644 : (VV fc fo 2) = (VV fc fo 3)) => ?_)
                · refine G.iconst B at_665 (z := (0 : Int32)) rfl (pc' := 666) rfl ?_
                  refine G.istore B at_666 (ls' := #[.val (.int p0), .val (.int p1), .val (.int p2), .val (.int sh), .val (.int dn), .val (.int bs), .val (.ref cd), .val (.ref od), .val (.int nn), .val (.ref sta), .val (.ref rw), .val (.ref pt), .val (.ref co), .val (.int dt), .val (.int (VV fc fo 0)), .val (.int (VV fc fo 1)), .val (.int (VV fc fo 2)), .val (.int (VV fc fo 3)), .val (.int (VV fc fo 4)), .val (.int (VV fc fo 5)), .val (.int (0 : Int32))]) rfl (pc' := 668) rfl ?_
                  refine G.goto B at_668 (by decide) (pc' := 808) (by decide) ?_
                  exact K808 (0 : Int32) (Or.inr (Or.inr (Or.inr (Or.inl ⟨hc623, Or.inr ⟨rfl, fun q => hc644 q.2.2.1⟩⟩))))
                · refine G.iload B at_647 (v := (VV fc fo 3)) rfl (pc' := 649) rfl ?_
                  refine G.iload B at_649 (v := (VV fc fo 4)) rfl (pc' := 651) rfl ?_
                  refine G.icmp_ne B at_651 (by decide) (pcT := 665) (by decide) (pc' := 654) rfl (fun (hc651 : (VV fc fo 3) ≠ (VV fc fo 4)) => ?_) (fun (hc651 : (VV fc fo 3) = (VV fc fo 4)) => ?_)
                  · refine G.iconst B at_665 (z := (0 : Int32)) rfl (pc' := 666) rfl ?_
                    refine G.istore B at_666 (ls' := #[.val (.int p0), .val (.int p1), .val (.int p2), .val (.int sh), .val (.int dn), .val (.int bs), .val (.ref cd), .val (.ref od), .val (.int nn), .val (.ref sta), .val (.ref rw), .val (.ref pt), .val (.ref co), .val (.int dt), .val (.int (VV fc fo 0)), .val (.int (VV fc fo 1)), .val (.int (VV fc fo 2)), .val (.int (VV fc fo 3)), .val (.int (VV fc fo 4)), .val (.int (VV fc fo 5)), .val (.int (0 : Int32))]) rfl (pc' := 668) rfl ?_
                    refine G.goto B at_668 (by decide) (pc' := 808) (by decide) ?_
                    exact K808 (0 : Int32) (Or.inr (Or.inr (Or.inr (Or.inl ⟨hc623, Or.inr ⟨rfl, fun q => hc651 q.2.2.2.1⟩⟩))))
                  · refine G.iload B at_654 (v := (VV fc fo 4)) rfl (pc' := 656) rfl ?_
                    refine G.iload B at_656 (v := (VV fc fo 5)) rfl (pc' := 658) rfl ?_
                    refine G.icmp_ne B at_658 (by decide) (pcT := 665) (by decide) (pc' := 661) rfl (fun (hc658 : (VV fc fo 4) ≠ (VV fc fo 5)) => ?_) (fun (hc658 : (VV fc fo 4) = (VV fc fo 5)) => ?_)
                    · refine G.iconst B at_665 (z := (0 : Int32)) rfl (pc' := 666) rfl ?_
                      refine G.istore B at_666 (ls' := #[.val (.int p0), .val (.int p1), .val (.int p2), .val (.int sh), .val (.int dn), .val (.int bs), .val (.ref cd), .val (.ref od), .val (.int nn), .val (.ref sta), .val (.ref rw), .val (.ref pt), .val (.ref co), .val (.int dt), .val (.int (VV fc fo 0)), .val (.int (VV fc fo 1)), .val (.int (VV fc fo 2)), .val (.int (VV fc fo 3)), .val (.int (VV fc fo 4)), .val (.int (VV fc fo 5)), .val (.int (0 : Int32))]) rfl (pc' := 668) rfl ?_
                      refine G.goto B at_668 (by decide) (pc' := 808) (by decide) ?_
                      exact K808 (0 : Int32) (Or.inr (Or.inr (Or.inr (Or.inl ⟨hc623, Or.inr ⟨rfl, fun q => hc658 q.2.2.2.2⟩⟩))))
                    · refine G.iconst B at_661 (z := (1 : Int32)) rfl (pc' := 662) rfl ?_
                      refine G.goto B at_662 (by decide) (pc' := 666) (by decide) ?_
                      refine G.istore B at_666 (ls' := #[.val (.int p0), .val (.int p1), .val (.int p2), .val (.int sh), .val (.int dn), .val (.int bs), .val (.ref cd), .val (.ref od), .val (.int nn), .val (.ref sta), .val (.ref rw), .val (.ref pt), .val (.ref co), .val (.int dt), .val (.int (VV fc fo 0)), .val (.int (VV fc fo 1)), .val (.int (VV fc fo 2)), .val (.int (VV fc fo 3)), .val (.int (VV fc fo 4)), .val (.int (VV fc fo 5)), .val (.int (1 : Int32))]) rfl (pc' := 668) rfl ?_
                      refine G.goto B at_668 (by decide) (pc' := 808) (by decide) ?_
                      exact K808 (1 : Int32) (Or.inr (Or.inr (Or.inr (Or.inl ⟨hc623, Or.inl ⟨rfl, hc630, hc637, hc644, hc651, hc658⟩⟩))))
        · refine G.iload B at_590 (v := (VV fc fo 0)) rfl (pc' := 592) rfl ?_
          refine G.iload B at_592 (v := (VV fc fo 1)) rfl (pc' := 594) rfl ?_
          refine G.icmp_ne B at_594 (by decide) (pcT := 615) (by decide) (pc' := 597) rfl (fun (hc594 : (VV fc fo 0) ≠ (VV fc fo 1)) => ?_) (fun (hc594 : (VV fc fo 0) = (VV fc fo 1)) => ?_)
          · refine G.iconst B at_615 (z := (0 : Int32)) rfl (pc' := 616) rfl ?_
            refine G.istore B at_616 (ls' := #[.val (.int p0), .val (.int p1), .val (.int p2), .val (.int sh), .val (.int dn), .val (.int bs), .val (.ref cd), .val (.ref od), .val (.int nn), .val (.ref sta), .val (.ref rw), .val (.ref pt), .val (.ref co), .val (.int dt), .val (.int (VV fc fo 0)), .val (.int (VV fc fo 1)), .val (.int (VV fc fo 2)), .val (.int (VV fc fo 3)), .val (.int (VV fc fo 4)), .val (.int (VV fc fo 5)), .val (.int (0 : Int32))]) rfl (pc' := 618) rfl ?_
            refine G.goto B at_618 (by decide) (pc' := 808) (by decide) ?_
            exact K808 (0 : Int32) (Or.inr (Or.inr (Or.inl ⟨hc587, Or.inr ⟨rfl, fun q => hc594 q.1⟩⟩)))
          · refine G.iload B at_597 (v := (VV fc fo 1)) rfl (pc' := 599) rfl ?_
            refine G.iload B at_599 (v := (VV fc fo 2)) rfl (pc' := 601) rfl ?_
            refine G.icmp_ne B at_601 (by decide) (pcT := 615) (by decide) (pc' := 604) rfl (fun (hc601 : (VV fc fo 1) ≠ (VV fc fo 2)) => ?_) (fun (hc601 : (VV fc fo 1) = (VV fc fo 2)) => ?_)
            · refine G.iconst B at_615 (z := (0 : Int32)) rfl (pc' := 616) rfl ?_
              refine G.istore B at_616 (ls' := #[.val (.int p0), .val (.int p1), .val (.int p2), .val (.int sh), .val (.int dn), .val (.int bs), .val (.ref cd), .val (.ref od), .val (.int nn), .val (.ref sta), .val (.ref rw), .val (.ref pt), .val (.ref co), .val (.int dt), .val (.int (VV fc fo 0)), .val (.int (VV fc fo 1)), .val (.int (VV fc fo 2)), .val (.int (VV fc fo 3)), .val (.int (VV fc fo 4)), .val (.int (VV fc fo 5)), .val (.int (0 : Int32))]) rfl (pc' := 618) rfl ?_
              refine G.goto B at_618 (by decide) (pc' := 808) (by decide) ?_
              exact K808 (0 : Int32) (Or.inr (Or.inr (Or.inl ⟨hc587, Or.inr ⟨rfl, fun q => hc601 q.2.1⟩⟩)))
            · refine G.iload B at_604 (v := (VV fc fo 2)) rfl (pc' := 606) rfl ?_
              refine G.iload B at_606 (v := (VV fc fo 3)) rfl (pc' := 608) rfl ?_
              refine G.icmp_ne B at_608 (by decide) (pcT := 615) (by decide) (pc' := 611) rfl (fun (hc608 : (VV fc fo 2) ≠ (VV fc fo 3)) => ?_) (fun (hc608 : (VV fc fo 2) = (VV fc fo 3)) => ?_)
              · refine G.iconst B at_615 (z := (0 : Int32)) rfl (pc' := 616) rfl ?_
                refine G.istore B at_616 (ls' := #[.val (.int p0), .val (.int p1), .val (.int p2), .val (.int sh), .val (.int dn), .val (.int bs), .val (.ref cd), .val (.ref od), .val (.int nn), .val (.ref sta), .val (.ref rw), .val (.ref pt), .val (.ref co), .val (.int dt), .val (.int (VV fc fo 0)), .val (.int (VV fc fo 1)), .val (.int (VV fc fo 2)), .val (.int (VV fc fo 3)), .val (.int (VV fc fo 4)), .val (.int (VV fc fo 5)), .val (.int (0 : Int32))]) rfl (pc' := 618) rfl ?_
                refine G.goto B at_618 (by decide) (pc' := 808) (by decide) ?_
                exact K808 (0 : Int32) (Or.inr (Or.inr (Or.inl ⟨hc587, Or.inr ⟨rfl, fun q => hc608 q.2.2⟩⟩)))
              · refine G.iconst B at_611 (z := (1 : Int32)) rfl (pc' := 612) rfl ?_
                refine G.goto B at_612 (by decide) (pc' := 616) (by decide) ?_
                refine G.istore B at_616 (ls' := #[.val (.int p0), .val (.int p1), .val (.int p2), .val (.int sh), .val (.int dn), .val (.int bs), .val (.ref cd), .val (.ref od), .val (.int nn), .val (.ref sta), .val (.ref rw), .val (.ref pt), .val (.ref co), .val (.int dt), .val (.int (VV fc fo 0)), .val (.int (VV fc fo 1)), .val (.int (VV fc fo 2)), .val (.int (VV fc fo 3)), .val (.int (VV fc fo 4)), .val (.int (VV fc fo 5)), .val (.int (1 : Int32))]) rfl (pc' := 618) rfl ?_
                refine G.goto B at_618 (by decide) (pc' := 808) (by decide) ?_
                exact K808 (1 : Int32) (Or.inr (Or.inr (Or.inl ⟨hc587, Or.inl ⟨rfl, hc594, hc601, hc608⟩⟩)))
      · refine G.iload B at_568 (v := (VV fc fo 0)) rfl (pc' := 570) rfl ?_
        refine G.iload B at_570 (v := (VV fc fo 1)) rfl (pc' := 572) rfl ?_
        refine G.icmp_ne B at_572 (by decide) (pcT := 579) (by decide) (pc' := 575) rfl (fun (hc572 : (VV fc fo 0) ≠ (VV fc fo 1)) => ?_) (fun (hc572 : (VV fc fo 0) = (VV fc fo 1)) => ?_)
        · refine G.iconst B at_579 (z := (0 : Int32)) rfl (pc' := 580) rfl ?_
          refine G.istore B at_580 (ls' := #[.val (.int p0), .val (.int p1), .val (.int p2), .val (.int sh), .val (.int dn), .val (.int bs), .val (.ref cd), .val (.ref od), .val (.int nn), .val (.ref sta), .val (.ref rw), .val (.ref pt), .val (.ref co), .val (.int dt), .val (.int (VV fc fo 0)), .val (.int (VV fc fo 1)), .val (.int (VV fc fo 2)), .val (.int (VV fc fo 3)), .val (.int (VV fc fo 4)), .val (.int (VV fc fo 5)), .val (.int (0 : Int32))]) rfl (pc' := 582) rfl ?_
          refine G.goto B at_582 (by decide) (pc' := 808) (by decide) ?_
          exact K808 (0 : Int32) (Or.inr (Or.inl ⟨hc565, Or.inr ⟨rfl, fun q => hc572 q⟩⟩))
        · refine G.iconst B at_575 (z := (1 : Int32)) rfl (pc' := 576) rfl ?_
          refine G.goto B at_576 (by decide) (pc' := 580) (by decide) ?_
          refine G.istore B at_580 (ls' := #[.val (.int p0), .val (.int p1), .val (.int p2), .val (.int sh), .val (.int dn), .val (.int bs), .val (.ref cd), .val (.ref od), .val (.int nn), .val (.ref sta), .val (.ref rw), .val (.ref pt), .val (.ref co), .val (.int dt), .val (.int (VV fc fo 0)), .val (.int (VV fc fo 1)), .val (.int (VV fc fo 2)), .val (.int (VV fc fo 3)), .val (.int (VV fc fo 4)), .val (.int (VV fc fo 5)), .val (.int (1 : Int32))]) rfl (pc' := 582) rfl ?_
          refine G.goto B at_582 (by decide) (pc' := 808) (by decide) ?_
          exact K808 (1 : Int32) (Or.inr (Or.inl ⟨hc565, Or.inl ⟨rfl, hc572⟩⟩))
    · refine G.iconst B at_557 (z := (1 : Int32)) rfl (pc' := 558) rfl ?_
      refine G.istore B at_558 (ls' := #[.val (.int p0), .val (.int p1), .val (.int p2), .val (.int sh), .val (.int dn), .val (.int bs), .val (.ref cd), .val (.ref od), .val (.int nn), .val (.ref sta), .val (.ref rw), .val (.ref pt), .val (.ref co), .val (.int dt), .val (.int (VV fc fo 0)), .val (.int (VV fc fo 1)), .val (.int (VV fc fo 2)), .val (.int (VV fc fo 3)), .val (.int (VV fc fo 4)), .val (.int (VV fc fo 5)), .val (.int (1 : Int32))]) rfl (pc' := 560) rfl ?_
      refine G.goto B at_560 (by decide) (pc' := 808) (by decide) ?_
      exact K808 (1 : Int32) (Or.inl ⟨hc554, Or.inl ⟨rfl, trivial⟩⟩)
  intro w hj808
  refine G.iload B at_808 (v := dt) rfl (pc' := 810) rfl ?_
  refine G.iload B at_810 (v := w) rfl (pc' := 812) rfl ?_
  have hc812 : dt = w := own_law hshp hP hj808
  refine G.icmp_ne B at_812 (by decide) (pcT := 819) (by decide) (pc' := 815) rfl (fun q => absurd hc812 q) (fun _ => ?_)
  refine G.iconst B at_815 (z := (1 : Int32)) rfl (pc' := 816) rfl ?_
  refine G.goto B at_816 (by decide) (pc' := 820) (by decide) ?_
  exact G.retZ B at_820 (by decide) (by decide) (Or.inr rfl) rfl
set_option maxRecDepth 65536 in
set_option maxHeartbeats 40000000 in
theorem rm0 (l : Launch) (Z : State) (a0 : Array Value) (hw : ∀ d ∈ tables_1, d.before a0 Z = true) (p0 : Int32) (p1 : Int32) (p2 : Int32)  (h0 : Heap) (n0 : Nat) (hn : n0 ≤ h0.size)  :
    MtW l Z x code maxLocals ret tables_1 room_1 n0 #[(.int p0), (.int p1), (.int p2)] h0 [] (RI (Qq0 Z p0 p1 p2  h0)) := by
  refine MtW.intro pn_0 hn (fun x hx => nomatch hx) ?_
  have hz : h0.size ≤ h0.size := Nat.le_refl _
  intro p e s m below meth c B
  refine G.entry (ef_0 m p0 p1 p2) ?_
  show Gg0 p l e s m below meth c n0 h0 Z p0 p1 p2  0 0 h0 (mkF m 0 #[.val (.int p0), .val (.int p1), .val (.int p2), .unset, .unset, .unset, .unset, .unset, .unset, .unset, .unset, .unset, .unset, .unset, .unset, .unset, .unset, .unset, .unset, .unset, .unset] [])
  refine G.iloadN B at_0 (v := p0) rfl (pc' := 1) rfl ?_
  refine G.bipush B at_1 (z := (7 : Int32)) rfl (pc' := 3) rfl ?_
  refine G.iand B at_3 (pc' := 4) rfl ?_
  refine G.istoreN B at_4 (ls' := #[.val (.int p0), .val (.int p1), .val (.int p2), .val (.int (p0 &&& (7 : Int32))), .unset, .unset, .unset, .unset, .unset, .unset, .unset, .unset, .unset, .unset, .unset, .unset, .unset, .unset, .unset, .unset, .unset]) rfl (pc' := 5) rfl ?_
  obtain ⟨sh, e_sh⟩ : ∃ z, z = (p0 &&& (7 : Int32)) := ⟨_, rfl⟩
  rw [← e_sh]
  show Gg0 p l e s m below meth c n0 h0 Z p0 p1 p2  0 0 h0 (mkF m 5 #[.val (.int p0), .val (.int p1), .val (.int p2), .val (.int sh), .unset, .unset, .unset, .unset, .unset, .unset, .unset, .unset, .unset, .unset, .unset, .unset, .unset, .unset, .unset, .unset, .unset] [])
  suffices K17 : ∀ (dn : Int32), (((p0 &&& (8 : Int32)) = 0 ∧ dn = (0 : Int32)) ∨ ((p0 &&& (8 : Int32)) ≠ 0 ∧ dn = (1 : Int32))) → Gg0 p l e s m below meth c n0 h0 Z p0 p1 p2  0 0 h0 (mkF m 17 #[.val (.int p0), .val (.int p1), .val (.int p2), .val (.int sh), .unset, .unset, .unset, .unset, .unset, .unset, .unset, .unset, .unset, .unset, .unset, .unset, .unset, .unset, .unset, .unset, .unset] [(.int dn)]) by
    refine G.iloadN B at_5 (v := p0) rfl (pc' := 6) rfl ?_
    refine G.bipush B at_6 (z := (8 : Int32)) rfl (pc' := 8) rfl ?_
    refine G.iand B at_8 (pc' := 9) rfl ?_
    refine G.if_eq B at_9 (by decide) (pcT := 16) (by decide) (pc' := 12) rfl (fun (hc9 : (p0 &&& (8 : Int32)) = 0) => ?_) (fun (hc9 : (p0 &&& (8 : Int32)) ≠ 0) => ?_)
    · refine G.iconst B at_16 (z := (0 : Int32)) rfl (pc' := 17) rfl ?_
      exact K17 (0 : Int32) (Or.inl ⟨hc9, rfl⟩)
    · refine G.iconst B at_12 (z := (1 : Int32)) rfl (pc' := 13) rfl ?_
      refine G.goto B at_13 (by decide) (pc' := 17) (by decide) ?_
      exact K17 (1 : Int32) (Or.inr ⟨hc9, rfl⟩)
  intro dn hj17
  clear hj17
  refine G.istore B at_17 (ls' := #[.val (.int p0), .val (.int p1), .val (.int p2), .val (.int sh), .val (.int dn), .unset, .unset, .unset, .unset, .unset, .unset, .unset, .unset, .unset, .unset, .unset, .unset, .unset, .unset, .unset, .unset]) rfl (pc' := 19) rfl ?_
  refine G.iloadN B at_19 (v := p1) rfl (pc' := 20) rfl ?_
  refine G.ldcI B (hw _ (List.mem_of_getElem? (i := 0) rfl)) at_20 (pc' := 22) rfl ?_
  refine G.iand B at_22 (pc' := 23) rfl ?_
  refine G.bipush B at_23 (z := (6 : Int32)) rfl (pc' := 25) rfl ?_
  refine G.irem B at_25 (by decide) (pc' := 26) rfl ?_
  refine G.istore B at_26 (ls' := #[.val (.int p0), .val (.int p1), .val (.int p2), .val (.int sh), .val (.int dn), .val (.int ((p1 &&& (2147483647 : Int32)) % (6 : Int32))), .unset, .unset, .unset, .unset, .unset, .unset, .unset, .unset, .unset, .unset, .unset, .unset, .unset, .unset, .unset]) rfl (pc' := 28) rfl ?_
  obtain ⟨bs, e_bs⟩ : ∃ z, z = ((p1 &&& (2147483647 : Int32)) % (6 : Int32)) := ⟨_, rfl⟩
  rw [← e_bs]
  show Gg0 p l e s m below meth c n0 h0 Z p0 p1 p2  0 0 h0 (mkF m 28 #[.val (.int p0), .val (.int p1), .val (.int p2), .val (.int sh), .val (.int dn), .val (.int bs), .unset, .unset, .unset, .unset, .unset, .unset, .unset, .unset, .unset, .unset, .unset, .unset, .unset, .unset, .unset] [])
  have hbs : 0 ≤ bs.toInt ∧ bs.toInt ≤ 5 := e_bs ▸ own_bs p1
  clear e_bs e_sh
  refine G.bipush B at_28 (z := (6 : Int32)) rfl (pc' := 30) rfl ?_
  refine G.newI B (hw _ (List.mem_of_getElem? (i := 1) rfl)) (n := 6) (by decide) (cap := 6) (by decide) (by decide) at_30 (pc' := 32) rfl (by decide) (by decide) (fun h1 cd hs_cd hf_cd K1 A_cd => ?_)
  replace hn := Nat.le_trans hn K1.1
  replace hz := Nat.le_trans hz K1.1
  show Gg0 p l e s m below meth c n0 h0 Z p0 p1 p2  1 6 h1 (mkF m 32 #[.val (.int p0), .val (.int p1), .val (.int p2), .val (.int sh), .val (.int dn), .val (.int bs), .unset, .unset, .unset, .unset, .unset, .unset, .unset, .unset, .unset, .unset, .unset, .unset, .unset, .unset, .unset] [(.ref cd)])
  refine G.astore B at_32 rfl (ls' := #[.val (.int p0), .val (.int p1), .val (.int p2), .val (.int sh), .val (.int dn), .val (.int bs), .val (.ref cd), .unset, .unset, .unset, .unset, .unset, .unset, .unset, .unset, .unset, .unset, .unset, .unset, .unset, .unset]) rfl (pc' := 34) rfl ?_
  refine G.aload B at_34 (v := (.ref cd)) rfl rfl (pc' := 36) rfl ?_
  refine G.iconst B at_36 (z := (0 : Int32)) rfl (pc' := 37) rfl ?_
  refine G.iloadN B at_37 (v := p2) rfl (pc' := 38) rfl ?_
  refine G.iconst B at_38 (z := (3 : Int32)) rfl (pc' := 39) rfl ?_
  refine G.iand B at_39 (pc' := 40) rfl ?_
  refine G.stI B A_cd (i := 0) (by decide) (by decide) (Or.inr hf_cd) at_40 (pc' := 41) rfl (fun h2 K2 A2 => ?_)
  replace A_cd := A2
  replace hn := Nat.le_trans hn K2.1
  replace hz := Nat.le_trans hz K2.1
  refine G.aload B at_41 (v := (.ref cd)) rfl rfl (pc' := 43) rfl ?_
  refine G.iconst B at_43 (z := (1 : Int32)) rfl (pc' := 44) rfl ?_
  refine G.iloadN B at_44 (v := p2) rfl (pc' := 45) rfl ?_
  refine G.iconst B at_45 (z := (2 : Int32)) rfl (pc' := 46) rfl ?_
  refine G.iushr B at_46 (pc' := 47) rfl ?_
  refine G.iconst B at_47 (z := (3 : Int32)) rfl (pc' := 48) rfl ?_
  refine G.iand B at_48 (pc' := 49) rfl ?_
  refine G.stI B A_cd (i := 1) (by decide) (by decide) (Or.inr hf_cd) at_49 (pc' := 50) rfl (fun h3 K3 A3 => ?_)
  replace A_cd := A3
  replace hn := Nat.le_trans hn K3.1
  replace hz := Nat.le_trans hz K3.1
  refine G.aload B at_50 (v := (.ref cd)) rfl rfl (pc' := 52) rfl ?_
  refine G.iconst B at_52 (z := (2 : Int32)) rfl (pc' := 53) rfl ?_
  refine G.iloadN B at_53 (v := p2) rfl (pc' := 54) rfl ?_
  refine G.iconst B at_54 (z := (4 : Int32)) rfl (pc' := 55) rfl ?_
  refine G.iushr B at_55 (pc' := 56) rfl ?_
  refine G.iconst B at_56 (z := (3 : Int32)) rfl (pc' := 57) rfl ?_
  refine G.iand B at_57 (pc' := 58) rfl ?_
  refine G.stI B A_cd (i := 2) (by decide) (by decide) (Or.inr hf_cd) at_58 (pc' := 59) rfl (fun h4 K4 A4 => ?_)
  replace A_cd := A4
  replace hn := Nat.le_trans hn K4.1
  replace hz := Nat.le_trans hz K4.1
  refine G.aload B at_59 (v := (.ref cd)) rfl rfl (pc' := 61) rfl ?_
  refine G.iconst B at_61 (z := (3 : Int32)) rfl (pc' := 62) rfl ?_
  refine G.iloadN B at_62 (v := p2) rfl (pc' := 63) rfl ?_
  refine G.bipush B at_63 (z := (6 : Int32)) rfl (pc' := 65) rfl ?_
  refine G.iushr B at_65 (pc' := 66) rfl ?_
  refine G.iconst B at_66 (z := (3 : Int32)) rfl (pc' := 67) rfl ?_
  refine G.iand B at_67 (pc' := 68) rfl ?_
  refine G.stI B A_cd (i := 3) (by decide) (by decide) (Or.inr hf_cd) at_68 (pc' := 69) rfl (fun h5 K5 A5 => ?_)
  replace A_cd := A5
  replace hn := Nat.le_trans hn K5.1
  replace hz := Nat.le_trans hz K5.1
  refine G.aload B at_69 (v := (.ref cd)) rfl rfl (pc' := 71) rfl ?_
  refine G.iconst B at_71 (z := (4 : Int32)) rfl (pc' := 72) rfl ?_
  refine G.iloadN B at_72 (v := p2) rfl (pc' := 73) rfl ?_
  refine G.bipush B at_73 (z := (8 : Int32)) rfl (pc' := 75) rfl ?_
  refine G.iushr B at_75 (pc' := 76) rfl ?_
  refine G.iconst B at_76 (z := (3 : Int32)) rfl (pc' := 77) rfl ?_
  refine G.iand B at_77 (pc' := 78) rfl ?_
  refine G.stI B A_cd (i := 4) (by decide) (by decide) (Or.inr hf_cd) at_78 (pc' := 79) rfl (fun h6 K6 A6 => ?_)
  replace A_cd := A6
  replace hn := Nat.le_trans hn K6.1
  replace hz := Nat.le_trans hz K6.1
  refine G.aload B at_79 (v := (.ref cd)) rfl rfl (pc' := 81) rfl ?_
  refine G.iconst B at_81 (z := (5 : Int32)) rfl (pc' := 82) rfl ?_
  refine G.iloadN B at_82 (v := p2) rfl (pc' := 83) rfl ?_
  refine G.bipush B at_83 (z := (10 : Int32)) rfl (pc' := 85) rfl ?_
  refine G.iushr B at_85 (pc' := 86) rfl ?_
  refine G.iconst B at_86 (z := (3 : Int32)) rfl (pc' := 87) rfl ?_
  refine G.iand B at_87 (pc' := 88) rfl ?_
  refine G.stI B A_cd (i := 5) (by decide) (by decide) (Or.inr hf_cd) at_88 (pc' := 89) rfl (fun h7 K7 A7 => ?_)
  replace A_cd := A7
  replace hn := Nat.le_trans hn K7.1
  replace hz := Nat.le_trans hz K7.1
  obtain ⟨fc, e_fc⟩ : ∃ f : Nat → Int32, f = (up (up (up (up (up (up (fun _ => 0) 0 (p2 &&& (3 : Int32))) 1 (((p2.toUInt32 >>> ((2 : Int32) &&& 31).toUInt32).toInt32) &&& (3 : Int32))) 2 (((p2.toUInt32 >>> ((4 : Int32) &&& 31).toUInt32).toInt32) &&& (3 : Int32))) 3 (((p2.toUInt32 >>> ((6 : Int32) &&& 31).toUInt32).toInt32) &&& (3 : Int32))) 4 (((p2.toUInt32 >>> ((8 : Int32) &&& 31).toUInt32).toInt32) &&& (3 : Int32))) 5 (((p2.toUInt32 >>> ((10 : Int32) &&& 31).toUInt32).toInt32) &&& (3 : Int32))) := ⟨_, rfl⟩
  rw [← e_fc] at A_cd
  clear e_fc
  refine G.bipush B at_89 (z := (6 : Int32)) rfl (pc' := 91) rfl ?_
  refine G.newI B (hw _ (List.mem_of_getElem? (i := 1) rfl)) (n := 6) (by decide) (cap := 6) (by decide) (by decide) at_91 (pc' := 93) rfl (by decide) (by decide) (fun h8 od hs_od hf_od K8 A_od => ?_)
  have ne_cd_od : cd ≠ od := Nat.ne_of_lt (hs_od ▸ A_cd.lt)
  replace hn := Nat.le_trans hn K8.1
  replace hz := Nat.le_trans hz K8.1
  replace A_cd := A_cd.keep K8 nin0
  show Gg0 p l e s m below meth c n0 h0 Z p0 p1 p2  2 12 h8 (mkF m 93 #[.val (.int p0), .val (.int p1), .val (.int p2), .val (.int sh), .val (.int dn), .val (.int bs), .val (.ref cd), .unset, .unset, .unset, .unset, .unset, .unset, .unset, .unset, .unset, .unset, .unset, .unset, .unset, .unset] [(.ref od)])
  refine G.astore B at_93 rfl (ls' := #[.val (.int p0), .val (.int p1), .val (.int p2), .val (.int sh), .val (.int dn), .val (.int bs), .val (.ref cd), .val (.ref od), .unset, .unset, .unset, .unset, .unset, .unset, .unset, .unset, .unset, .unset, .unset, .unset, .unset]) rfl (pc' := 95) rfl ?_
  refine G.aload B at_95 (v := (.ref od)) rfl rfl (pc' := 97) rfl ?_
  refine G.iconst B at_97 (z := (0 : Int32)) rfl (pc' := 98) rfl ?_
  refine G.iload B at_98 (v := bs) rfl (pc' := 100) rfl ?_
  refine G.iload B at_100 (v := dn) rfl (pc' := 102) rfl ?_
  refine G.iconst B at_102 (z := (0 : Int32)) rfl (pc' := 103) rfl ?_
  refine G.callS (y := (⟨"com/example/tacit/tacit/engine/PartitionDeterminesPinLaw", "at", "(IZI)I"⟩ : MethodName)) B (hw _ (List.mem_of_getElem? (i := 2) rfl)) (hw _ (List.mem_of_getElem? (i := 3) rfl)) (rm := ({ frames := 0, cells := 0, slots := 0, locals := 0 } : Room)) (ws' := []) (rm1 l Z a0 hw bs dn (0 : Int32) _ n0 hn hbs (by decide)) (fun x hx => nomatch hx) (hw _ (List.mem_of_getElem? (i := 5) rfl)) (hw _ (List.mem_of_getElem? (i := 4) rfl)) (by decide) rfl (argsL := [(.int bs), (.int dn), (.int (0 : Int32))]) (rest := [(.int (0 : Int32)), (.ref od)]) rfl (lenOf pd_1 rfl) (by decide) (W := 2) (Nat.le_of_eq rfl) (by decide) (by decide) (by decide) at_103 (pc' := 106) rfl ?_
  rintro _ _ K9 ⟨o0, rfl, rfl, ho0⟩
  show Gg0 p l e s m below meth c n0 h0 Z p0 p1 p2  2 12 h8 (mkF m 106 #[.val (.int p0), .val (.int p1), .val (.int p2), .val (.int sh), .val (.int dn), .val (.int bs), .val (.ref cd), .val (.ref od), .unset, .unset, .unset, .unset, .unset, .unset, .unset, .unset, .unset, .unset, .unset, .unset, .unset] [(.int o0), (.int (0 : Int32)), (.ref od)])
  refine G.stI B A_od (i := 0) (by decide) (by decide) (Or.inr hf_od) at_106 (pc' := 107) rfl (fun h10 K10 A10 => ?_)
  replace A_od := A10
  replace hn := Nat.le_trans hn K10.1
  replace hz := Nat.le_trans hz K10.1
  replace A_cd := A_cd.keep K10 (ninS ne_cd_od nin0)
  refine G.aload B at_107 (v := (.ref od)) rfl rfl (pc' := 109) rfl ?_
  refine G.iconst B at_109 (z := (1 : Int32)) rfl (pc' := 110) rfl ?_
  refine G.iload B at_110 (v := bs) rfl (pc' := 112) rfl ?_
  refine G.iload B at_112 (v := dn) rfl (pc' := 114) rfl ?_
  refine G.iconst B at_114 (z := (1 : Int32)) rfl (pc' := 115) rfl ?_
  refine G.callS (y := (⟨"com/example/tacit/tacit/engine/PartitionDeterminesPinLaw", "at", "(IZI)I"⟩ : MethodName)) B (hw _ (List.mem_of_getElem? (i := 2) rfl)) (hw _ (List.mem_of_getElem? (i := 3) rfl)) (rm := ({ frames := 0, cells := 0, slots := 0, locals := 0 } : Room)) (ws' := []) (rm1 l Z a0 hw bs dn (1 : Int32) _ n0 hn hbs (by decide)) (fun x hx => nomatch hx) (hw _ (List.mem_of_getElem? (i := 5) rfl)) (hw _ (List.mem_of_getElem? (i := 4) rfl)) (by decide) rfl (argsL := [(.int bs), (.int dn), (.int (1 : Int32))]) (rest := [(.int (1 : Int32)), (.ref od)]) rfl (lenOf pd_1 rfl) (by decide) (W := 2) (Nat.le_of_eq rfl) (by decide) (by decide) (by decide) at_115 (pc' := 118) rfl ?_
  rintro _ _ K11 ⟨o1, rfl, rfl, ho1⟩
  show Gg0 p l e s m below meth c n0 h0 Z p0 p1 p2  2 12 h10 (mkF m 118 #[.val (.int p0), .val (.int p1), .val (.int p2), .val (.int sh), .val (.int dn), .val (.int bs), .val (.ref cd), .val (.ref od), .unset, .unset, .unset, .unset, .unset, .unset, .unset, .unset, .unset, .unset, .unset, .unset, .unset] [(.int o1), (.int (1 : Int32)), (.ref od)])
  refine G.stI B A_od (i := 1) (by decide) (by decide) (Or.inr hf_od) at_118 (pc' := 119) rfl (fun h12 K12 A12 => ?_)
  replace A_od := A12
  replace hn := Nat.le_trans hn K12.1
  replace hz := Nat.le_trans hz K12.1
  replace A_cd := A_cd.keep K12 (ninS ne_cd_od nin0)
  refine G.aload B at_119 (v := (.ref od)) rfl rfl (pc' := 121) rfl ?_
  refine G.iconst B at_121 (z := (2 : Int32)) rfl (pc' := 122) rfl ?_
  refine G.iload B at_122 (v := bs) rfl (pc' := 124) rfl ?_
  refine G.iload B at_124 (v := dn) rfl (pc' := 126) rfl ?_
  refine G.iconst B at_126 (z := (2 : Int32)) rfl (pc' := 127) rfl ?_
  refine G.callS (y := (⟨"com/example/tacit/tacit/engine/PartitionDeterminesPinLaw", "at", "(IZI)I"⟩ : MethodName)) B (hw _ (List.mem_of_getElem? (i := 2) rfl)) (hw _ (List.mem_of_getElem? (i := 3) rfl)) (rm := ({ frames := 0, cells := 0, slots := 0, locals := 0 } : Room)) (ws' := []) (rm1 l Z a0 hw bs dn (2 : Int32) _ n0 hn hbs (by decide)) (fun x hx => nomatch hx) (hw _ (List.mem_of_getElem? (i := 5) rfl)) (hw _ (List.mem_of_getElem? (i := 4) rfl)) (by decide) rfl (argsL := [(.int bs), (.int dn), (.int (2 : Int32))]) (rest := [(.int (2 : Int32)), (.ref od)]) rfl (lenOf pd_1 rfl) (by decide) (W := 2) (Nat.le_of_eq rfl) (by decide) (by decide) (by decide) at_127 (pc' := 130) rfl ?_
  rintro _ _ K13 ⟨o2, rfl, rfl, ho2⟩
  show Gg0 p l e s m below meth c n0 h0 Z p0 p1 p2  2 12 h12 (mkF m 130 #[.val (.int p0), .val (.int p1), .val (.int p2), .val (.int sh), .val (.int dn), .val (.int bs), .val (.ref cd), .val (.ref od), .unset, .unset, .unset, .unset, .unset, .unset, .unset, .unset, .unset, .unset, .unset, .unset, .unset] [(.int o2), (.int (2 : Int32)), (.ref od)])
  refine G.stI B A_od (i := 2) (by decide) (by decide) (Or.inr hf_od) at_130 (pc' := 131) rfl (fun h14 K14 A14 => ?_)
  replace A_od := A14
  replace hn := Nat.le_trans hn K14.1
  replace hz := Nat.le_trans hz K14.1
  replace A_cd := A_cd.keep K14 (ninS ne_cd_od nin0)
  refine G.aload B at_131 (v := (.ref od)) rfl rfl (pc' := 133) rfl ?_
  refine G.iconst B at_133 (z := (3 : Int32)) rfl (pc' := 134) rfl ?_
  refine G.iload B at_134 (v := bs) rfl (pc' := 136) rfl ?_
  refine G.iload B at_136 (v := dn) rfl (pc' := 138) rfl ?_
  refine G.iconst B at_138 (z := (3 : Int32)) rfl (pc' := 139) rfl ?_
  refine G.callS (y := (⟨"com/example/tacit/tacit/engine/PartitionDeterminesPinLaw", "at", "(IZI)I"⟩ : MethodName)) B (hw _ (List.mem_of_getElem? (i := 2) rfl)) (hw _ (List.mem_of_getElem? (i := 3) rfl)) (rm := ({ frames := 0, cells := 0, slots := 0, locals := 0 } : Room)) (ws' := []) (rm1 l Z a0 hw bs dn (3 : Int32) _ n0 hn hbs (by decide)) (fun x hx => nomatch hx) (hw _ (List.mem_of_getElem? (i := 5) rfl)) (hw _ (List.mem_of_getElem? (i := 4) rfl)) (by decide) rfl (argsL := [(.int bs), (.int dn), (.int (3 : Int32))]) (rest := [(.int (3 : Int32)), (.ref od)]) rfl (lenOf pd_1 rfl) (by decide) (W := 2) (Nat.le_of_eq rfl) (by decide) (by decide) (by decide) at_139 (pc' := 142) rfl ?_
  rintro _ _ K15 ⟨o3, rfl, rfl, ho3⟩
  show Gg0 p l e s m below meth c n0 h0 Z p0 p1 p2  2 12 h14 (mkF m 142 #[.val (.int p0), .val (.int p1), .val (.int p2), .val (.int sh), .val (.int dn), .val (.int bs), .val (.ref cd), .val (.ref od), .unset, .unset, .unset, .unset, .unset, .unset, .unset, .unset, .unset, .unset, .unset, .unset, .unset] [(.int o3), (.int (3 : Int32)), (.ref od)])
  refine G.stI B A_od (i := 3) (by decide) (by decide) (Or.inr hf_od) at_142 (pc' := 143) rfl (fun h16 K16 A16 => ?_)
  replace A_od := A16
  replace hn := Nat.le_trans hn K16.1
  replace hz := Nat.le_trans hz K16.1
  replace A_cd := A_cd.keep K16 (ninS ne_cd_od nin0)
  refine G.aload B at_143 (v := (.ref od)) rfl rfl (pc' := 145) rfl ?_
  refine G.iconst B at_145 (z := (4 : Int32)) rfl (pc' := 146) rfl ?_
  refine G.iload B at_146 (v := bs) rfl (pc' := 148) rfl ?_
  refine G.iload B at_148 (v := dn) rfl (pc' := 150) rfl ?_
  refine G.iconst B at_150 (z := (4 : Int32)) rfl (pc' := 151) rfl ?_
  refine G.callS (y := (⟨"com/example/tacit/tacit/engine/PartitionDeterminesPinLaw", "at", "(IZI)I"⟩ : MethodName)) B (hw _ (List.mem_of_getElem? (i := 2) rfl)) (hw _ (List.mem_of_getElem? (i := 3) rfl)) (rm := ({ frames := 0, cells := 0, slots := 0, locals := 0 } : Room)) (ws' := []) (rm1 l Z a0 hw bs dn (4 : Int32) _ n0 hn hbs (by decide)) (fun x hx => nomatch hx) (hw _ (List.mem_of_getElem? (i := 5) rfl)) (hw _ (List.mem_of_getElem? (i := 4) rfl)) (by decide) rfl (argsL := [(.int bs), (.int dn), (.int (4 : Int32))]) (rest := [(.int (4 : Int32)), (.ref od)]) rfl (lenOf pd_1 rfl) (by decide) (W := 2) (Nat.le_of_eq rfl) (by decide) (by decide) (by decide) at_151 (pc' := 154) rfl ?_
  rintro _ _ K17 ⟨o4, rfl, rfl, ho4⟩
  show Gg0 p l e s m below meth c n0 h0 Z p0 p1 p2  2 12 h16 (mkF m 154 #[.val (.int p0), .val (.int p1), .val (.int p2), .val (.int sh), .val (.int dn), .val (.int bs), .val (.ref cd), .val (.ref od), .unset, .unset, .unset, .unset, .unset, .unset, .unset, .unset, .unset, .unset, .unset, .unset, .unset] [(.int o4), (.int (4 : Int32)), (.ref od)])
  refine G.stI B A_od (i := 4) (by decide) (by decide) (Or.inr hf_od) at_154 (pc' := 155) rfl (fun h18 K18 A18 => ?_)
  replace A_od := A18
  replace hn := Nat.le_trans hn K18.1
  replace hz := Nat.le_trans hz K18.1
  replace A_cd := A_cd.keep K18 (ninS ne_cd_od nin0)
  refine G.aload B at_155 (v := (.ref od)) rfl rfl (pc' := 157) rfl ?_
  refine G.iconst B at_157 (z := (5 : Int32)) rfl (pc' := 158) rfl ?_
  refine G.iload B at_158 (v := bs) rfl (pc' := 160) rfl ?_
  refine G.iload B at_160 (v := dn) rfl (pc' := 162) rfl ?_
  refine G.iconst B at_162 (z := (5 : Int32)) rfl (pc' := 163) rfl ?_
  refine G.callS (y := (⟨"com/example/tacit/tacit/engine/PartitionDeterminesPinLaw", "at", "(IZI)I"⟩ : MethodName)) B (hw _ (List.mem_of_getElem? (i := 2) rfl)) (hw _ (List.mem_of_getElem? (i := 3) rfl)) (rm := ({ frames := 0, cells := 0, slots := 0, locals := 0 } : Room)) (ws' := []) (rm1 l Z a0 hw bs dn (5 : Int32) _ n0 hn hbs (by decide)) (fun x hx => nomatch hx) (hw _ (List.mem_of_getElem? (i := 5) rfl)) (hw _ (List.mem_of_getElem? (i := 4) rfl)) (by decide) rfl (argsL := [(.int bs), (.int dn), (.int (5 : Int32))]) (rest := [(.int (5 : Int32)), (.ref od)]) rfl (lenOf pd_1 rfl) (by decide) (W := 2) (Nat.le_of_eq rfl) (by decide) (by decide) (by decide) at_163 (pc' := 166) rfl ?_
  rintro _ _ K19 ⟨o5, rfl, rfl, ho5⟩
  show Gg0 p l e s m below meth c n0 h0 Z p0 p1 p2  2 12 h18 (mkF m 166 #[.val (.int p0), .val (.int p1), .val (.int p2), .val (.int sh), .val (.int dn), .val (.int bs), .val (.ref cd), .val (.ref od), .unset, .unset, .unset, .unset, .unset, .unset, .unset, .unset, .unset, .unset, .unset, .unset, .unset] [(.int o5), (.int (5 : Int32)), (.ref od)])
  refine G.stI B A_od (i := 5) (by decide) (by decide) (Or.inr hf_od) at_166 (pc' := 167) rfl (fun h20 K20 A20 => ?_)
  replace A_od := A20
  replace hn := Nat.le_trans hn K20.1
  replace hz := Nat.le_trans hz K20.1
  replace A_cd := A_cd.keep K20 (ninS ne_cd_od nin0)
  obtain ⟨fo, e_fo⟩ : ∃ f : Nat → Int32, f = (up (up (up (up (up (up (fun _ => 0) 0 o0) 1 o1) 2 o2) 3 o3) 4 o4) 5 o5) := ⟨_, rfl⟩
  have hfo : ∀ j, j < 6 → 0 ≤ (fo j).toInt ∧ (fo j).toInt ≤ 5 := by
    intro j hj
    have q : j = 0 ∨ j = 1 ∨ j = 2 ∨ j = 3 ∨ j = 4 ∨ j = 5 := by omega
    rw [e_fo]
    rcases q with rfl | rfl | rfl | rfl | rfl | rfl
    · exact ho0
    · exact ho1
    · exact ho2
    · exact ho3
    · exact ho4
    · exact ho5
  rw [← e_fo] at A_od
  clear e_fo
  suffices K373 : ∀ (h_373 : Heap) (sta : Addr) (nn : Int32) (ns : Nat) (fs : Nat → Int32), n0 ≤ h_373.size → h0.size ≤ h_373.size → ArI Z h_373 cd .int 6 fc → ArI Z h_373 od .int 6 fo → (h0.size ≤ sta) → (cd ≠ sta) → (od ≠ sta) → (ArI Z h_373 sta .int ns fs) → (Shp sh nn ns fs) → Gg0 p l e s m below meth c n0 h0 Z p0 p1 p2  3 16 h_373 (mkF m 373 #[.val (.int p0), .val (.int p1), .val (.int p2), .val (.int sh), .val (.int dn), .val (.int bs), .val (.ref cd), .val (.ref od), .val (.int nn), .val (.ref sta), .unset, .unset, .unset, .unset, .unset, .unset, .unset, .unset, .unset, .unset, .unset] []) by
    refine G.iloadN B at_167 (v := sh) rfl (pc' := 168) rfl ?_
    refine G.if_ne B at_168 (by decide) (pcT := 186) (by decide) (pc' := 171) rfl (fun (hc168 : sh ≠ 0) => ?_) (fun (hc168 : sh = 0) => ?_)
    · refine G.iloadN B at_186 (v := sh) rfl (pc' := 187) rfl ?_
      refine G.iconst B at_187 (z := (1 : Int32)) rfl (pc' := 188) rfl ?_
      refine G.icmp_ne B at_188 (by decide) (pcT := 210) (by decide) (pc' := 191) rfl (fun (hc188 : sh ≠ (1 : Int32)) => ?_) (fun (hc188 : sh = (1 : Int32)) => ?_)
      · refine G.iloadN B at_210 (v := sh) rfl (pc' := 211) rfl ?_
        refine G.iconst B at_211 (z := (2 : Int32)) rfl (pc' := 212) rfl ?_
        refine G.icmp_ne B at_212 (by decide) (pcT := 234) (by decide) (pc' := 215) rfl (fun (hc212 : sh ≠ (2 : Int32)) => ?_) (fun (hc212 : sh = (2 : Int32)) => ?_)
        · refine G.iloadN B at_234 (v := sh) rfl (pc' := 235) rfl ?_
          refine G.iconst B at_235 (z := (3 : Int32)) rfl (pc' := 236) rfl ?_
          refine G.icmp_ne B at_236 (by decide) (pcT := 260) (by decide) (pc' := 239) rfl (fun (hc236 : sh ≠ (3 : Int32)) => ?_) (fun (hc236 : sh = (3 : Int32)) => ?_)
          · refine G.iloadN B at_260 (v := sh) rfl (pc' := 261) rfl ?_
            refine G.iconst B at_261 (z := (4 : Int32)) rfl (pc' := 262) rfl ?_
            refine G.icmp_ne B at_262 (by decide) (pcT := 288) (by decide) (pc' := 265) rfl (fun (hc262 : sh ≠ (4 : Int32)) => ?_) (fun (hc262 : sh = (4 : Int32)) => ?_)
            · refine G.iloadN B at_288 (v := sh) rfl (pc' := 289) rfl ?_
              refine G.iconst B at_289 (z := (5 : Int32)) rfl (pc' := 290) rfl ?_
              refine G.icmp_ne B at_290 (by decide) (pcT := 316) (by decide) (pc' := 293) rfl (fun (hc290 : sh ≠ (5 : Int32)) => ?_) (fun (hc290 : sh = (5 : Int32)) => ?_)
              · refine G.iloadN B at_316 (v := sh) rfl (pc' := 317) rfl ?_
                refine G.bipush B at_317 (z := (6 : Int32)) rfl (pc' := 319) rfl ?_
                refine G.icmp_ne B at_319 (by decide) (pcT := 347) (by decide) (pc' := 322) rfl (fun (hc319 : sh ≠ (6 : Int32)) => ?_) (fun (hc319 : sh = (6 : Int32)) => ?_)
                · refine G.bipush B at_347 (z := (6 : Int32)) rfl (pc' := 349) rfl ?_
                  refine G.istore B at_349 (ls' := #[.val (.int p0), .val (.int p1), .val (.int p2), .val (.int sh), .val (.int dn), .val (.int bs), .val (.ref cd), .val (.ref od), .val (.int (6 : Int32)), .unset, .unset, .unset, .unset, .unset, .unset, .unset, .unset, .unset, .unset, .unset, .unset]) rfl (pc' := 351) rfl ?_
                  refine G.iconst B at_351 (z := (4 : Int32)) rfl (pc' := 352) rfl ?_
                  refine G.newI B (hw _ (List.mem_of_getElem? (i := 1) rfl)) (n := 4) (by decide) (cap := 4) (by decide) (by decide) at_352 (pc' := 354) rfl (by decide) (by decide) (fun h21 sta hs_sta hf_sta K21 A_sta => ?_)
                  have ne_cd_sta : cd ≠ sta := Nat.ne_of_lt (hs_sta ▸ A_cd.lt)
                  have ne_od_sta : od ≠ sta := Nat.ne_of_lt (hs_sta ▸ A_od.lt)
                  replace hn := Nat.le_trans hn K21.1
                  replace hz := Nat.le_trans hz K21.1
                  replace A_cd := A_cd.keep K21 nin0
                  replace A_od := A_od.keep K21 nin0
                  show Gg0 p l e s m below meth c n0 h0 Z p0 p1 p2  3 16 h21 (mkF m 354 #[.val (.int p0), .val (.int p1), .val (.int p2), .val (.int sh), .val (.int dn), .val (.int bs), .val (.ref cd), .val (.ref od), .val (.int (6 : Int32)), .unset, .unset, .unset, .unset, .unset, .unset, .unset, .unset, .unset, .unset, .unset, .unset] [(.ref sta)])
                  refine G.dup B at_354 rfl (pc' := 355) rfl ?_
                  refine G.iconst B at_355 (z := (0 : Int32)) rfl (pc' := 356) rfl ?_
                  refine G.iconst B at_356 (z := (0 : Int32)) rfl (pc' := 357) rfl ?_
                  refine G.stI B A_sta (i := 0) (by decide) (by decide) (Or.inr hf_sta) at_357 (pc' := 358) rfl (fun h22 K22 A22 => ?_)
                  replace A_sta := A22
                  replace hn := Nat.le_trans hn K22.1
                  replace hz := Nat.le_trans hz K22.1
                  replace A_cd := A_cd.keep K22 (ninS ne_cd_sta nin0)
                  replace A_od := A_od.keep K22 (ninS ne_od_sta nin0)
                  refine G.dup B at_358 rfl (pc' := 359) rfl ?_
                  refine G.iconst B at_359 (z := (1 : Int32)) rfl (pc' := 360) rfl ?_
                  refine G.iconst B at_360 (z := (2 : Int32)) rfl (pc' := 361) rfl ?_
                  refine G.stI B A_sta (i := 1) (by decide) (by decide) (Or.inr hf_sta) at_361 (pc' := 362) rfl (fun h23 K23 A23 => ?_)
                  replace A_sta := A23
                  replace hn := Nat.le_trans hn K23.1
                  replace hz := Nat.le_trans hz K23.1
                  replace A_cd := A_cd.keep K23 (ninS ne_cd_sta nin0)
                  replace A_od := A_od.keep K23 (ninS ne_od_sta nin0)
                  refine G.dup B at_362 rfl (pc' := 363) rfl ?_
                  refine G.iconst B at_363 (z := (2 : Int32)) rfl (pc' := 364) rfl ?_
                  refine G.iconst B at_364 (z := (4 : Int32)) rfl (pc' := 365) rfl ?_
                  refine G.stI B A_sta (i := 2) (by decide) (by decide) (Or.inr hf_sta) at_365 (pc' := 366) rfl (fun h24 K24 A24 => ?_)
                  replace A_sta := A24
                  replace hn := Nat.le_trans hn K24.1
                  replace hz := Nat.le_trans hz K24.1
                  replace A_cd := A_cd.keep K24 (ninS ne_cd_sta nin0)
                  replace A_od := A_od.keep K24 (ninS ne_od_sta nin0)
                  refine G.dup B at_366 rfl (pc' := 367) rfl ?_
                  refine G.iconst B at_367 (z := (3 : Int32)) rfl (pc' := 368) rfl ?_
                  refine G.bipush B at_368 (z := (6 : Int32)) rfl (pc' := 370) rfl ?_
                  refine G.stI B A_sta (i := 3) (by decide) (by decide) (Or.inr hf_sta) at_370 (pc' := 371) rfl (fun h25 K25 A25 => ?_)
                  replace A_sta := A25
                  replace hn := Nat.le_trans hn K25.1
                  replace hz := Nat.le_trans hz K25.1
                  replace A_cd := A_cd.keep K25 (ninS ne_cd_sta nin0)
                  replace A_od := A_od.keep K25 (ninS ne_od_sta nin0)
                  refine G.astore B at_371 rfl (ls' := #[.val (.int p0), .val (.int p1), .val (.int p2), .val (.int sh), .val (.int dn), .val (.int bs), .val (.ref cd), .val (.ref od), .val (.int (6 : Int32)), .val (.ref sta), .unset, .unset, .unset, .unset, .unset, .unset, .unset, .unset, .unset, .unset, .unset]) rfl (pc' := 373) rfl ?_
                  exact K373 h25 sta (6 : Int32) 4 (up (up (up (up (fun _ => 0) 0 (0 : Int32)) 1 (2 : Int32)) 2 (4 : Int32)) 3 (6 : Int32)) hn hz A_cd A_od hf_sta ne_cd_sta ne_od_sta A_sta (Or.inr (Or.inr (Or.inr (Or.inr (Or.inr (Or.inr (Or.inr (⟨⟨hc168, hc188, hc212, hc236, hc262, hc290, hc319⟩, rfl, rfl, rfl, rfl, rfl, rfl⟩))))))))
                · refine G.bipush B at_322 (z := (6 : Int32)) rfl (pc' := 324) rfl ?_
                  refine G.istore B at_324 (ls' := #[.val (.int p0), .val (.int p1), .val (.int p2), .val (.int sh), .val (.int dn), .val (.int bs), .val (.ref cd), .val (.ref od), .val (.int (6 : Int32)), .unset, .unset, .unset, .unset, .unset, .unset, .unset, .unset, .unset, .unset, .unset, .unset]) rfl (pc' := 326) rfl ?_
                  refine G.iconst B at_326 (z := (3 : Int32)) rfl (pc' := 327) rfl ?_
                  refine G.newI B (hw _ (List.mem_of_getElem? (i := 1) rfl)) (n := 3) (by decide) (cap := 4) (by decide) (by decide) at_327 (pc' := 329) rfl (by decide) (by decide) (fun h26 sta hs_sta hf_sta K26 A_sta => ?_)
                  have ne_cd_sta : cd ≠ sta := Nat.ne_of_lt (hs_sta ▸ A_cd.lt)
                  have ne_od_sta : od ≠ sta := Nat.ne_of_lt (hs_sta ▸ A_od.lt)
                  replace hn := Nat.le_trans hn K26.1
                  replace hz := Nat.le_trans hz K26.1
                  replace A_cd := A_cd.keep K26 nin0
                  replace A_od := A_od.keep K26 nin0
                  show Gg0 p l e s m below meth c n0 h0 Z p0 p1 p2  3 16 h26 (mkF m 329 #[.val (.int p0), .val (.int p1), .val (.int p2), .val (.int sh), .val (.int dn), .val (.int bs), .val (.ref cd), .val (.ref od), .val (.int (6 : Int32)), .unset, .unset, .unset, .unset, .unset, .unset, .unset, .unset, .unset, .unset, .unset, .unset] [(.ref sta)])
                  refine G.dup B at_329 rfl (pc' := 330) rfl ?_
                  refine G.iconst B at_330 (z := (0 : Int32)) rfl (pc' := 331) rfl ?_
                  refine G.iconst B at_331 (z := (0 : Int32)) rfl (pc' := 332) rfl ?_
                  refine G.stI B A_sta (i := 0) (by decide) (by decide) (Or.inr hf_sta) at_332 (pc' := 333) rfl (fun h27 K27 A27 => ?_)
                  replace A_sta := A27
                  replace hn := Nat.le_trans hn K27.1
                  replace hz := Nat.le_trans hz K27.1
                  replace A_cd := A_cd.keep K27 (ninS ne_cd_sta nin0)
                  replace A_od := A_od.keep K27 (ninS ne_od_sta nin0)
                  refine G.dup B at_333 rfl (pc' := 334) rfl ?_
                  refine G.iconst B at_334 (z := (1 : Int32)) rfl (pc' := 335) rfl ?_
                  refine G.iconst B at_335 (z := (2 : Int32)) rfl (pc' := 336) rfl ?_
                  refine G.stI B A_sta (i := 1) (by decide) (by decide) (Or.inr hf_sta) at_336 (pc' := 337) rfl (fun h28 K28 A28 => ?_)
                  replace A_sta := A28
                  replace hn := Nat.le_trans hn K28.1
                  replace hz := Nat.le_trans hz K28.1
                  replace A_cd := A_cd.keep K28 (ninS ne_cd_sta nin0)
                  replace A_od := A_od.keep K28 (ninS ne_od_sta nin0)
                  refine G.dup B at_337 rfl (pc' := 338) rfl ?_
                  refine G.iconst B at_338 (z := (2 : Int32)) rfl (pc' := 339) rfl ?_
                  refine G.bipush B at_339 (z := (6 : Int32)) rfl (pc' := 341) rfl ?_
                  refine G.stI B A_sta (i := 2) (by decide) (by decide) (Or.inr hf_sta) at_341 (pc' := 342) rfl (fun h29 K29 A29 => ?_)
                  replace A_sta := A29
                  replace hn := Nat.le_trans hn K29.1
                  replace hz := Nat.le_trans hz K29.1
                  replace A_cd := A_cd.keep K29 (ninS ne_cd_sta nin0)
                  replace A_od := A_od.keep K29 (ninS ne_od_sta nin0)
                  refine G.astore B at_342 rfl (ls' := #[.val (.int p0), .val (.int p1), .val (.int p2), .val (.int sh), .val (.int dn), .val (.int bs), .val (.ref cd), .val (.ref od), .val (.int (6 : Int32)), .val (.ref sta), .unset, .unset, .unset, .unset, .unset, .unset, .unset, .unset, .unset, .unset, .unset]) rfl (pc' := 344) rfl ?_
                  refine G.goto B at_344 (by decide) (pc' := 373) (by decide) ?_
                  exact K373 h29 sta (6 : Int32) 3 (up (up (up (fun _ => 0) 0 (0 : Int32)) 1 (2 : Int32)) 2 (6 : Int32)) hn hz A_cd A_od hf_sta ne_cd_sta ne_od_sta A_sta (Or.inr (Or.inr (Or.inr (Or.inr (Or.inr (Or.inr (Or.inl ⟨hc319, rfl, rfl, rfl, rfl, rfl⟩)))))))
              · refine G.iconst B at_293 (z := (5 : Int32)) rfl (pc' := 294) rfl ?_
                refine G.istore B at_294 (ls' := #[.val (.int p0), .val (.int p1), .val (.int p2), .val (.int sh), .val (.int dn), .val (.int bs), .val (.ref cd), .val (.ref od), .val (.int (5 : Int32)), .unset, .unset, .unset, .unset, .unset, .unset, .unset, .unset, .unset, .unset, .unset, .unset]) rfl (pc' := 296) rfl ?_
                refine G.iconst B at_296 (z := (3 : Int32)) rfl (pc' := 297) rfl ?_
                refine G.newI B (hw _ (List.mem_of_getElem? (i := 1) rfl)) (n := 3) (by decide) (cap := 4) (by decide) (by decide) at_297 (pc' := 299) rfl (by decide) (by decide) (fun h30 sta hs_sta hf_sta K30 A_sta => ?_)
                have ne_cd_sta : cd ≠ sta := Nat.ne_of_lt (hs_sta ▸ A_cd.lt)
                have ne_od_sta : od ≠ sta := Nat.ne_of_lt (hs_sta ▸ A_od.lt)
                replace hn := Nat.le_trans hn K30.1
                replace hz := Nat.le_trans hz K30.1
                replace A_cd := A_cd.keep K30 nin0
                replace A_od := A_od.keep K30 nin0
                show Gg0 p l e s m below meth c n0 h0 Z p0 p1 p2  3 16 h30 (mkF m 299 #[.val (.int p0), .val (.int p1), .val (.int p2), .val (.int sh), .val (.int dn), .val (.int bs), .val (.ref cd), .val (.ref od), .val (.int (5 : Int32)), .unset, .unset, .unset, .unset, .unset, .unset, .unset, .unset, .unset, .unset, .unset, .unset] [(.ref sta)])
                refine G.dup B at_299 rfl (pc' := 300) rfl ?_
                refine G.iconst B at_300 (z := (0 : Int32)) rfl (pc' := 301) rfl ?_
                refine G.iconst B at_301 (z := (0 : Int32)) rfl (pc' := 302) rfl ?_
                refine G.stI B A_sta (i := 0) (by decide) (by decide) (Or.inr hf_sta) at_302 (pc' := 303) rfl (fun h31 K31 A31 => ?_)
                replace A_sta := A31
                replace hn := Nat.le_trans hn K31.1
                replace hz := Nat.le_trans hz K31.1
                replace A_cd := A_cd.keep K31 (ninS ne_cd_sta nin0)
                replace A_od := A_od.keep K31 (ninS ne_od_sta nin0)
                refine G.dup B at_303 rfl (pc' := 304) rfl ?_
                refine G.iconst B at_304 (z := (1 : Int32)) rfl (pc' := 305) rfl ?_
                refine G.iconst B at_305 (z := (3 : Int32)) rfl (pc' := 306) rfl ?_
                refine G.stI B A_sta (i := 1) (by decide) (by decide) (Or.inr hf_sta) at_306 (pc' := 307) rfl (fun h32 K32 A32 => ?_)
                replace A_sta := A32
                replace hn := Nat.le_trans hn K32.1
                replace hz := Nat.le_trans hz K32.1
                replace A_cd := A_cd.keep K32 (ninS ne_cd_sta nin0)
                replace A_od := A_od.keep K32 (ninS ne_od_sta nin0)
                refine G.dup B at_307 rfl (pc' := 308) rfl ?_
                refine G.iconst B at_308 (z := (2 : Int32)) rfl (pc' := 309) rfl ?_
                refine G.iconst B at_309 (z := (5 : Int32)) rfl (pc' := 310) rfl ?_
                refine G.stI B A_sta (i := 2) (by decide) (by decide) (Or.inr hf_sta) at_310 (pc' := 311) rfl (fun h33 K33 A33 => ?_)
                replace A_sta := A33
                replace hn := Nat.le_trans hn K33.1
                replace hz := Nat.le_trans hz K33.1
                replace A_cd := A_cd.keep K33 (ninS ne_cd_sta nin0)
                replace A_od := A_od.keep K33 (ninS ne_od_sta nin0)
                refine G.astore B at_311 rfl (ls' := #[.val (.int p0), .val (.int p1), .val (.int p2), .val (.int sh), .val (.int dn), .val (.int bs), .val (.ref cd), .val (.ref od), .val (.int (5 : Int32)), .val (.ref sta), .unset, .unset, .unset, .unset, .unset, .unset, .unset, .unset, .unset, .unset, .unset]) rfl (pc' := 313) rfl ?_
                refine G.goto B at_313 (by decide) (pc' := 373) (by decide) ?_
                exact K373 h33 sta (5 : Int32) 3 (up (up (up (fun _ => 0) 0 (0 : Int32)) 1 (3 : Int32)) 2 (5 : Int32)) hn hz A_cd A_od hf_sta ne_cd_sta ne_od_sta A_sta (Or.inr (Or.inr (Or.inr (Or.inr (Or.inr (Or.inl ⟨hc290, rfl, rfl, rfl, rfl, rfl⟩))))))
            · refine G.iconst B at_265 (z := (4 : Int32)) rfl (pc' := 266) rfl ?_
              refine G.istore B at_266 (ls' := #[.val (.int p0), .val (.int p1), .val (.int p2), .val (.int sh), .val (.int dn), .val (.int bs), .val (.ref cd), .val (.ref od), .val (.int (4 : Int32)), .unset, .unset, .unset, .unset, .unset, .unset, .unset, .unset, .unset, .unset, .unset, .unset]) rfl (pc' := 268) rfl ?_
              refine G.iconst B at_268 (z := (3 : Int32)) rfl (pc' := 269) rfl ?_
              refine G.newI B (hw _ (List.mem_of_getElem? (i := 1) rfl)) (n := 3) (by decide) (cap := 4) (by decide) (by decide) at_269 (pc' := 271) rfl (by decide) (by decide) (fun h34 sta hs_sta hf_sta K34 A_sta => ?_)
              have ne_cd_sta : cd ≠ sta := Nat.ne_of_lt (hs_sta ▸ A_cd.lt)
              have ne_od_sta : od ≠ sta := Nat.ne_of_lt (hs_sta ▸ A_od.lt)
              replace hn := Nat.le_trans hn K34.1
              replace hz := Nat.le_trans hz K34.1
              replace A_cd := A_cd.keep K34 nin0
              replace A_od := A_od.keep K34 nin0
              show Gg0 p l e s m below meth c n0 h0 Z p0 p1 p2  3 16 h34 (mkF m 271 #[.val (.int p0), .val (.int p1), .val (.int p2), .val (.int sh), .val (.int dn), .val (.int bs), .val (.ref cd), .val (.ref od), .val (.int (4 : Int32)), .unset, .unset, .unset, .unset, .unset, .unset, .unset, .unset, .unset, .unset, .unset, .unset] [(.ref sta)])
              refine G.dup B at_271 rfl (pc' := 272) rfl ?_
              refine G.iconst B at_272 (z := (0 : Int32)) rfl (pc' := 273) rfl ?_
              refine G.iconst B at_273 (z := (0 : Int32)) rfl (pc' := 274) rfl ?_
              refine G.stI B A_sta (i := 0) (by decide) (by decide) (Or.inr hf_sta) at_274 (pc' := 275) rfl (fun h35 K35 A35 => ?_)
              replace A_sta := A35
              replace hn := Nat.le_trans hn K35.1
              replace hz := Nat.le_trans hz K35.1
              replace A_cd := A_cd.keep K35 (ninS ne_cd_sta nin0)
              replace A_od := A_od.keep K35 (ninS ne_od_sta nin0)
              refine G.dup B at_275 rfl (pc' := 276) rfl ?_
              refine G.iconst B at_276 (z := (1 : Int32)) rfl (pc' := 277) rfl ?_
              refine G.iconst B at_277 (z := (2 : Int32)) rfl (pc' := 278) rfl ?_
              refine G.stI B A_sta (i := 1) (by decide) (by decide) (Or.inr hf_sta) at_278 (pc' := 279) rfl (fun h36 K36 A36 => ?_)
              replace A_sta := A36
              replace hn := Nat.le_trans hn K36.1
              replace hz := Nat.le_trans hz K36.1
              replace A_cd := A_cd.keep K36 (ninS ne_cd_sta nin0)
              replace A_od := A_od.keep K36 (ninS ne_od_sta nin0)
              refine G.dup B at_279 rfl (pc' := 280) rfl ?_
              refine G.iconst B at_280 (z := (2 : Int32)) rfl (pc' := 281) rfl ?_
              refine G.iconst B at_281 (z := (4 : Int32)) rfl (pc' := 282) rfl ?_
              refine G.stI B A_sta (i := 2) (by decide) (by decide) (Or.inr hf_sta) at_282 (pc' := 283) rfl (fun h37 K37 A37 => ?_)
              replace A_sta := A37
              replace hn := Nat.le_trans hn K37.1
              replace hz := Nat.le_trans hz K37.1
              replace A_cd := A_cd.keep K37 (ninS ne_cd_sta nin0)
              replace A_od := A_od.keep K37 (ninS ne_od_sta nin0)
              refine G.astore B at_283 rfl (ls' := #[.val (.int p0), .val (.int p1), .val (.int p2), .val (.int sh), .val (.int dn), .val (.int bs), .val (.ref cd), .val (.ref od), .val (.int (4 : Int32)), .val (.ref sta), .unset, .unset, .unset, .unset, .unset, .unset, .unset, .unset, .unset, .unset, .unset]) rfl (pc' := 285) rfl ?_
              refine G.goto B at_285 (by decide) (pc' := 373) (by decide) ?_
              exact K373 h37 sta (4 : Int32) 3 (up (up (up (fun _ => 0) 0 (0 : Int32)) 1 (2 : Int32)) 2 (4 : Int32)) hn hz A_cd A_od hf_sta ne_cd_sta ne_od_sta A_sta (Or.inr (Or.inr (Or.inr (Or.inr (Or.inl ⟨hc262, rfl, rfl, rfl, rfl, rfl⟩)))))
          · refine G.bipush B at_239 (z := (6 : Int32)) rfl (pc' := 241) rfl ?_
            refine G.istore B at_241 (ls' := #[.val (.int p0), .val (.int p1), .val (.int p2), .val (.int sh), .val (.int dn), .val (.int bs), .val (.ref cd), .val (.ref od), .val (.int (6 : Int32)), .unset, .unset, .unset, .unset, .unset, .unset, .unset, .unset, .unset, .unset, .unset, .unset]) rfl (pc' := 243) rfl ?_
            refine G.iconst B at_243 (z := (2 : Int32)) rfl (pc' := 244) rfl ?_
            refine G.newI B (hw _ (List.mem_of_getElem? (i := 1) rfl)) (n := 2) (by decide) (cap := 4) (by decide) (by decide) at_244 (pc' := 246) rfl (by decide) (by decide) (fun h38 sta hs_sta hf_sta K38 A_sta => ?_)
            have ne_cd_sta : cd ≠ sta := Nat.ne_of_lt (hs_sta ▸ A_cd.lt)
            have ne_od_sta : od ≠ sta := Nat.ne_of_lt (hs_sta ▸ A_od.lt)
            replace hn := Nat.le_trans hn K38.1
            replace hz := Nat.le_trans hz K38.1
            replace A_cd := A_cd.keep K38 nin0
            replace A_od := A_od.keep K38 nin0
            show Gg0 p l e s m below meth c n0 h0 Z p0 p1 p2  3 16 h38 (mkF m 246 #[.val (.int p0), .val (.int p1), .val (.int p2), .val (.int sh), .val (.int dn), .val (.int bs), .val (.ref cd), .val (.ref od), .val (.int (6 : Int32)), .unset, .unset, .unset, .unset, .unset, .unset, .unset, .unset, .unset, .unset, .unset, .unset] [(.ref sta)])
            refine G.dup B at_246 rfl (pc' := 247) rfl ?_
            refine G.iconst B at_247 (z := (0 : Int32)) rfl (pc' := 248) rfl ?_
            refine G.iconst B at_248 (z := (0 : Int32)) rfl (pc' := 249) rfl ?_
            refine G.stI B A_sta (i := 0) (by decide) (by decide) (Or.inr hf_sta) at_249 (pc' := 250) rfl (fun h39 K39 A39 => ?_)
            replace A_sta := A39
            replace hn := Nat.le_trans hn K39.1
            replace hz := Nat.le_trans hz K39.1
            replace A_cd := A_cd.keep K39 (ninS ne_cd_sta nin0)
            replace A_od := A_od.keep K39 (ninS ne_od_sta nin0)
            refine G.dup B at_250 rfl (pc' := 251) rfl ?_
            refine G.iconst B at_251 (z := (1 : Int32)) rfl (pc' := 252) rfl ?_
            refine G.bipush B at_252 (z := (6 : Int32)) rfl (pc' := 254) rfl ?_
            refine G.stI B A_sta (i := 1) (by decide) (by decide) (Or.inr hf_sta) at_254 (pc' := 255) rfl (fun h40 K40 A40 => ?_)
            replace A_sta := A40
            replace hn := Nat.le_trans hn K40.1
            replace hz := Nat.le_trans hz K40.1
            replace A_cd := A_cd.keep K40 (ninS ne_cd_sta nin0)
            replace A_od := A_od.keep K40 (ninS ne_od_sta nin0)
            refine G.astore B at_255 rfl (ls' := #[.val (.int p0), .val (.int p1), .val (.int p2), .val (.int sh), .val (.int dn), .val (.int bs), .val (.ref cd), .val (.ref od), .val (.int (6 : Int32)), .val (.ref sta), .unset, .unset, .unset, .unset, .unset, .unset, .unset, .unset, .unset, .unset, .unset]) rfl (pc' := 257) rfl ?_
            refine G.goto B at_257 (by decide) (pc' := 373) (by decide) ?_
            exact K373 h40 sta (6 : Int32) 2 (up (up (fun _ => 0) 0 (0 : Int32)) 1 (6 : Int32)) hn hz A_cd A_od hf_sta ne_cd_sta ne_od_sta A_sta (Or.inr (Or.inr (Or.inr (Or.inl ⟨hc236, rfl, rfl, rfl, rfl⟩))))
        · refine G.iconst B at_215 (z := (4 : Int32)) rfl (pc' := 216) rfl ?_
          refine G.istore B at_216 (ls' := #[.val (.int p0), .val (.int p1), .val (.int p2), .val (.int sh), .val (.int dn), .val (.int bs), .val (.ref cd), .val (.ref od), .val (.int (4 : Int32)), .unset, .unset, .unset, .unset, .unset, .unset, .unset, .unset, .unset, .unset, .unset, .unset]) rfl (pc' := 218) rfl ?_
          refine G.iconst B at_218 (z := (2 : Int32)) rfl (pc' := 219) rfl ?_
          refine G.newI B (hw _ (List.mem_of_getElem? (i := 1) rfl)) (n := 2) (by decide) (cap := 4) (by decide) (by decide) at_219 (pc' := 221) rfl (by decide) (by decide) (fun h41 sta hs_sta hf_sta K41 A_sta => ?_)
          have ne_cd_sta : cd ≠ sta := Nat.ne_of_lt (hs_sta ▸ A_cd.lt)
          have ne_od_sta : od ≠ sta := Nat.ne_of_lt (hs_sta ▸ A_od.lt)
          replace hn := Nat.le_trans hn K41.1
          replace hz := Nat.le_trans hz K41.1
          replace A_cd := A_cd.keep K41 nin0
          replace A_od := A_od.keep K41 nin0
          show Gg0 p l e s m below meth c n0 h0 Z p0 p1 p2  3 16 h41 (mkF m 221 #[.val (.int p0), .val (.int p1), .val (.int p2), .val (.int sh), .val (.int dn), .val (.int bs), .val (.ref cd), .val (.ref od), .val (.int (4 : Int32)), .unset, .unset, .unset, .unset, .unset, .unset, .unset, .unset, .unset, .unset, .unset, .unset] [(.ref sta)])
          refine G.dup B at_221 rfl (pc' := 222) rfl ?_
          refine G.iconst B at_222 (z := (0 : Int32)) rfl (pc' := 223) rfl ?_
          refine G.iconst B at_223 (z := (0 : Int32)) rfl (pc' := 224) rfl ?_
          refine G.stI B A_sta (i := 0) (by decide) (by decide) (Or.inr hf_sta) at_224 (pc' := 225) rfl (fun h42 K42 A42 => ?_)
          replace A_sta := A42
          replace hn := Nat.le_trans hn K42.1
          replace hz := Nat.le_trans hz K42.1
          replace A_cd := A_cd.keep K42 (ninS ne_cd_sta nin0)
          replace A_od := A_od.keep K42 (ninS ne_od_sta nin0)
          refine G.dup B at_225 rfl (pc' := 226) rfl ?_
          refine G.iconst B at_226 (z := (1 : Int32)) rfl (pc' := 227) rfl ?_
          refine G.iconst B at_227 (z := (4 : Int32)) rfl (pc' := 228) rfl ?_
          refine G.stI B A_sta (i := 1) (by decide) (by decide) (Or.inr hf_sta) at_228 (pc' := 229) rfl (fun h43 K43 A43 => ?_)
          replace A_sta := A43
          replace hn := Nat.le_trans hn K43.1
          replace hz := Nat.le_trans hz K43.1
          replace A_cd := A_cd.keep K43 (ninS ne_cd_sta nin0)
          replace A_od := A_od.keep K43 (ninS ne_od_sta nin0)
          refine G.astore B at_229 rfl (ls' := #[.val (.int p0), .val (.int p1), .val (.int p2), .val (.int sh), .val (.int dn), .val (.int bs), .val (.ref cd), .val (.ref od), .val (.int (4 : Int32)), .val (.ref sta), .unset, .unset, .unset, .unset, .unset, .unset, .unset, .unset, .unset, .unset, .unset]) rfl (pc' := 231) rfl ?_
          refine G.goto B at_231 (by decide) (pc' := 373) (by decide) ?_
          exact K373 h43 sta (4 : Int32) 2 (up (up (fun _ => 0) 0 (0 : Int32)) 1 (4 : Int32)) hn hz A_cd A_od hf_sta ne_cd_sta ne_od_sta A_sta (Or.inr (Or.inr (Or.inl ⟨hc212, rfl, rfl, rfl, rfl⟩)))
      · refine G.iconst B at_191 (z := (2 : Int32)) rfl (pc' := 192) rfl ?_
        refine G.istore B at_192 (ls' := #[.val (.int p0), .val (.int p1), .val (.int p2), .val (.int sh), .val (.int dn), .val (.int bs), .val (.ref cd), .val (.ref od), .val (.int (2 : Int32)), .unset, .unset, .unset, .unset, .unset, .unset, .unset, .unset, .unset, .unset, .unset, .unset]) rfl (pc' := 194) rfl ?_
        refine G.iconst B at_194 (z := (2 : Int32)) rfl (pc' := 195) rfl ?_
        refine G.newI B (hw _ (List.mem_of_getElem? (i := 1) rfl)) (n := 2) (by decide) (cap := 4) (by decide) (by decide) at_195 (pc' := 197) rfl (by decide) (by decide) (fun h44 sta hs_sta hf_sta K44 A_sta => ?_)
        have ne_cd_sta : cd ≠ sta := Nat.ne_of_lt (hs_sta ▸ A_cd.lt)
        have ne_od_sta : od ≠ sta := Nat.ne_of_lt (hs_sta ▸ A_od.lt)
        replace hn := Nat.le_trans hn K44.1
        replace hz := Nat.le_trans hz K44.1
        replace A_cd := A_cd.keep K44 nin0
        replace A_od := A_od.keep K44 nin0
        show Gg0 p l e s m below meth c n0 h0 Z p0 p1 p2  3 16 h44 (mkF m 197 #[.val (.int p0), .val (.int p1), .val (.int p2), .val (.int sh), .val (.int dn), .val (.int bs), .val (.ref cd), .val (.ref od), .val (.int (2 : Int32)), .unset, .unset, .unset, .unset, .unset, .unset, .unset, .unset, .unset, .unset, .unset, .unset] [(.ref sta)])
        refine G.dup B at_197 rfl (pc' := 198) rfl ?_
        refine G.iconst B at_198 (z := (0 : Int32)) rfl (pc' := 199) rfl ?_
        refine G.iconst B at_199 (z := (0 : Int32)) rfl (pc' := 200) rfl ?_
        refine G.stI B A_sta (i := 0) (by decide) (by decide) (Or.inr hf_sta) at_200 (pc' := 201) rfl (fun h45 K45 A45 => ?_)
        replace A_sta := A45
        replace hn := Nat.le_trans hn K45.1
        replace hz := Nat.le_trans hz K45.1
        replace A_cd := A_cd.keep K45 (ninS ne_cd_sta nin0)
        replace A_od := A_od.keep K45 (ninS ne_od_sta nin0)
        refine G.dup B at_201 rfl (pc' := 202) rfl ?_
        refine G.iconst B at_202 (z := (1 : Int32)) rfl (pc' := 203) rfl ?_
        refine G.iconst B at_203 (z := (2 : Int32)) rfl (pc' := 204) rfl ?_
        refine G.stI B A_sta (i := 1) (by decide) (by decide) (Or.inr hf_sta) at_204 (pc' := 205) rfl (fun h46 K46 A46 => ?_)
        replace A_sta := A46
        replace hn := Nat.le_trans hn K46.1
        replace hz := Nat.le_trans hz K46.1
        replace A_cd := A_cd.keep K46 (ninS ne_cd_sta nin0)
        replace A_od := A_od.keep K46 (ninS ne_od_sta nin0)
        refine G.astore B at_205 rfl (ls' := #[.val (.int p0), .val (.int p1), .val (.int p2), .val (.int sh), .val (.int dn), .val (.int bs), .val (.ref cd), .val (.ref od), .val (.int (2 : Int32)), .val (.ref sta), .unset, .unset, .unset, .unset, .unset, .unset, .unset, .unset, .unset, .unset, .unset]) rfl (pc' := 207) rfl ?_
        refine G.goto B at_207 (by decide) (pc' := 373) (by decide) ?_
        exact K373 h46 sta (2 : Int32) 2 (up (up (fun _ => 0) 0 (0 : Int32)) 1 (2 : Int32)) hn hz A_cd A_od hf_sta ne_cd_sta ne_od_sta A_sta (Or.inr (Or.inl ⟨hc188, rfl, rfl, rfl, rfl⟩))
    · refine G.iconst B at_171 (z := (0 : Int32)) rfl (pc' := 172) rfl ?_
      refine G.istore B at_172 (ls' := #[.val (.int p0), .val (.int p1), .val (.int p2), .val (.int sh), .val (.int dn), .val (.int bs), .val (.ref cd), .val (.ref od), .val (.int (0 : Int32)), .unset, .unset, .unset, .unset, .unset, .unset, .unset, .unset, .unset, .unset, .unset, .unset]) rfl (pc' := 174) rfl ?_
      refine G.iconst B at_174 (z := (1 : Int32)) rfl (pc' := 175) rfl ?_
      refine G.newI B (hw _ (List.mem_of_getElem? (i := 1) rfl)) (n := 1) (by decide) (cap := 4) (by decide) (by decide) at_175 (pc' := 177) rfl (by decide) (by decide) (fun h47 sta hs_sta hf_sta K47 A_sta => ?_)
      have ne_cd_sta : cd ≠ sta := Nat.ne_of_lt (hs_sta ▸ A_cd.lt)
      have ne_od_sta : od ≠ sta := Nat.ne_of_lt (hs_sta ▸ A_od.lt)
      replace hn := Nat.le_trans hn K47.1
      replace hz := Nat.le_trans hz K47.1
      replace A_cd := A_cd.keep K47 nin0
      replace A_od := A_od.keep K47 nin0
      show Gg0 p l e s m below meth c n0 h0 Z p0 p1 p2  3 16 h47 (mkF m 177 #[.val (.int p0), .val (.int p1), .val (.int p2), .val (.int sh), .val (.int dn), .val (.int bs), .val (.ref cd), .val (.ref od), .val (.int (0 : Int32)), .unset, .unset, .unset, .unset, .unset, .unset, .unset, .unset, .unset, .unset, .unset, .unset] [(.ref sta)])
      refine G.dup B at_177 rfl (pc' := 178) rfl ?_
      refine G.iconst B at_178 (z := (0 : Int32)) rfl (pc' := 179) rfl ?_
      refine G.iconst B at_179 (z := (0 : Int32)) rfl (pc' := 180) rfl ?_
      refine G.stI B A_sta (i := 0) (by decide) (by decide) (Or.inr hf_sta) at_180 (pc' := 181) rfl (fun h48 K48 A48 => ?_)
      replace A_sta := A48
      replace hn := Nat.le_trans hn K48.1
      replace hz := Nat.le_trans hz K48.1
      replace A_cd := A_cd.keep K48 (ninS ne_cd_sta nin0)
      replace A_od := A_od.keep K48 (ninS ne_od_sta nin0)
      refine G.astore B at_181 rfl (ls' := #[.val (.int p0), .val (.int p1), .val (.int p2), .val (.int sh), .val (.int dn), .val (.int bs), .val (.ref cd), .val (.ref od), .val (.int (0 : Int32)), .val (.ref sta), .unset, .unset, .unset, .unset, .unset, .unset, .unset, .unset, .unset, .unset, .unset]) rfl (pc' := 183) rfl ?_
      refine G.goto B at_183 (by decide) (pc' := 373) (by decide) ?_
      exact K373 h48 sta (0 : Int32) 1 (up (fun _ => 0) 0 (0 : Int32)) hn hz A_cd A_od hf_sta ne_cd_sta ne_od_sta A_sta (Or.inl ⟨hc168, rfl, rfl, rfl⟩)
  clear hn hz
  intro h_373 sta nn ns fs hn hz A_cd A_od hf_sta ne_cd_sta ne_od_sta A_sta hshp
  obtain ⟨n, hnn, hn6⟩ := own_shn hshp
  refine G.iload B at_373 (v := nn) rfl (pc' := 375) rfl ?_
  refine G.newI B (hw _ (List.mem_of_getElem? (i := 1) rfl)) (n := n) hnn (cap := 6) hn6 (by decide) at_375 (pc' := 377) rfl (by decide) (by decide) (fun h49 rw hs_rw hf_rw K49 A_rw => ?_)
  have ne_cd_rw : cd ≠ rw := Nat.ne_of_lt (hs_rw ▸ A_cd.lt)
  have ne_od_rw : od ≠ rw := Nat.ne_of_lt (hs_rw ▸ A_od.lt)
  have ne_sta_rw : sta ≠ rw := Nat.ne_of_lt (hs_rw ▸ A_sta.lt)
  replace hn := Nat.le_trans hn K49.1
  replace hz := Nat.le_trans hz K49.1
  replace A_cd := A_cd.keep K49 nin0
  replace A_od := A_od.keep K49 nin0
  replace A_sta := A_sta.keep K49 nin0
  show Gg0 p l e s m below meth c n0 h0 Z p0 p1 p2  4 22 h49 (mkF m 377 #[.val (.int p0), .val (.int p1), .val (.int p2), .val (.int sh), .val (.int dn), .val (.int bs), .val (.ref cd), .val (.ref od), .val (.int nn), .val (.ref sta), .unset, .unset, .unset, .unset, .unset, .unset, .unset, .unset, .unset, .unset, .unset] [(.ref rw)])
  refine G.astore B at_377 rfl (ls' := #[.val (.int p0), .val (.int p1), .val (.int p2), .val (.int sh), .val (.int dn), .val (.int bs), .val (.ref cd), .val (.ref od), .val (.int nn), .val (.ref sta), .val (.ref rw), .unset, .unset, .unset, .unset, .unset, .unset, .unset, .unset, .unset, .unset]) rfl (pc' := 379) rfl ?_
  suffices K392 : ∀ (h_392 : Heap) (fr0 : Nat → Int32), n0 ≤ h_392.size → h0.size ≤ h_392.size → ArI Z h_392 cd .int 6 fc → ArI Z h_392 od .int 6 fo → ArI Z h_392 sta .int ns fs → ArI Z h_392 rw .int n fr0 → (∀ j, j < 1 → j < n → fr0 j = fo j) → Gg0 p l e s m below meth c n0 h0 Z p0 p1 p2  4 22 h_392 (mkF m 392 #[.val (.int p0), .val (.int p1), .val (.int p2), .val (.int sh), .val (.int dn), .val (.int bs), .val (.ref cd), .val (.ref od), .val (.int nn), .val (.ref sta), .val (.ref rw), .unset, .unset, .unset, .unset, .unset, .unset, .unset, .unset, .unset, .unset] []) by
    refine G.iload B at_379 (v := nn) rfl (pc' := 381) rfl ?_
    refine G.if_le B at_381 (by decide) (pcT := 392) (by decide) (pc' := 384) rfl (fun (hc381 : nn.toInt ≤ 0) => ?_) (fun (hc381 : 0 < nn.toInt) => ?_)
    · exact K392 h49 (fun _ => 0) hn hz A_cd A_od A_sta A_rw (own_upn 0 (fun j h1 h2 => absurd h1 (Nat.not_lt_zero j)) (by omega))
    · refine G.aload B at_384 (v := (.ref rw)) rfl rfl (pc' := 386) rfl ?_
      refine G.iconst B at_386 (z := (0 : Int32)) rfl (pc' := 387) rfl ?_
      refine G.aload B at_387 (v := (.ref od)) rfl rfl (pc' := 389) rfl ?_
      refine G.iconst B at_389 (z := (0 : Int32)) rfl (pc' := 390) rfl ?_
      refine G.ldI B A_od (i := 0) (by decide) (by decide) (x := (fo 0)) rfl at_390 (pc' := 391) rfl ?_
      refine G.stI B A_rw (i := 0) (by decide) (by omega) (Or.inr hf_rw) at_391 (pc' := 392) rfl (fun h50 K50 A50 => ?_)
      replace A_rw := A50
      replace hn := Nat.le_trans hn K50.1
      replace hz := Nat.le_trans hz K50.1
      replace A_cd := A_cd.keep K50 (ninS ne_cd_rw nin0)
      replace A_od := A_od.keep K50 (ninS ne_od_rw nin0)
      replace A_sta := A_sta.keep K50 (ninS ne_sta_rw nin0)
      exact K392 h50 (up (fun _ => 0) 0 (fo 0)) hn hz A_cd A_od A_sta A_rw (own_up 0 (fun j h1 h2 => absurd h1 (Nat.not_lt_zero j)))
  clear hn hz
  intro h_392 fr0 hn hz A_cd A_od A_sta A_rw hfr0
  suffices K406 : ∀ (h_406 : Heap) (fr1 : Nat → Int32), n0 ≤ h_406.size → h0.size ≤ h_406.size → ArI Z h_406 cd .int 6 fc → ArI Z h_406 od .int 6 fo → ArI Z h_406 sta .int ns fs → ArI Z h_406 rw .int n fr1 → (∀ j, j < 2 → j < n → fr1 j = fo j) → Gg0 p l e s m below meth c n0 h0 Z p0 p1 p2  4 22 h_406 (mkF m 406 #[.val (.int p0), .val (.int p1), .val (.int p2), .val (.int sh), .val (.int dn), .val (.int bs), .val (.ref cd), .val (.ref od), .val (.int nn), .val (.ref sta), .val (.ref rw), .unset, .unset, .unset, .unset, .unset, .unset, .unset, .unset, .unset, .unset] []) by
    refine G.iload B at_392 (v := nn) rfl (pc' := 394) rfl ?_
    refine G.iconst B at_394 (z := (1 : Int32)) rfl (pc' := 395) rfl ?_
    refine G.icmp_le B at_395 (by decide) (pcT := 406) (by decide) (pc' := 398) rfl (fun (hc395 : nn.toInt ≤ 1) => ?_) (fun (hc395 : 1 < nn.toInt) => ?_)
    · exact K406 h_392 fr0 hn hz A_cd A_od A_sta A_rw (own_upn 1 hfr0 (by omega))
    · refine G.aload B at_398 (v := (.ref rw)) rfl rfl (pc' := 400) rfl ?_
      refine G.iconst B at_400 (z := (1 : Int32)) rfl (pc' := 401) rfl ?_
      refine G.aload B at_401 (v := (.ref od)) rfl rfl (pc' := 403) rfl ?_
      refine G.iconst B at_403 (z := (1 : Int32)) rfl (pc' := 404) rfl ?_
      refine G.ldI B A_od (i := 1) (by decide) (by decide) (x := (fo 1)) rfl at_404 (pc' := 405) rfl ?_
      refine G.stI B A_rw (i := 1) (by decide) (by omega) (Or.inr hf_rw) at_405 (pc' := 406) rfl (fun h51 K51 A51 => ?_)
      replace A_rw := A51
      replace hn := Nat.le_trans hn K51.1
      replace hz := Nat.le_trans hz K51.1
      replace A_cd := A_cd.keep K51 (ninS ne_cd_rw nin0)
      replace A_od := A_od.keep K51 (ninS ne_od_rw nin0)
      replace A_sta := A_sta.keep K51 (ninS ne_sta_rw nin0)
      exact K406 h51 (up fr0 1 (fo 1)) hn hz A_cd A_od A_sta A_rw (own_up 1 hfr0)
  clear hn hz
  intro h_406 fr1 hn hz A_cd A_od A_sta A_rw hfr1
  suffices K420 : ∀ (h_420 : Heap) (fr2 : Nat → Int32), n0 ≤ h_420.size → h0.size ≤ h_420.size → ArI Z h_420 cd .int 6 fc → ArI Z h_420 od .int 6 fo → ArI Z h_420 sta .int ns fs → ArI Z h_420 rw .int n fr2 → (∀ j, j < 3 → j < n → fr2 j = fo j) → Gg0 p l e s m below meth c n0 h0 Z p0 p1 p2  4 22 h_420 (mkF m 420 #[.val (.int p0), .val (.int p1), .val (.int p2), .val (.int sh), .val (.int dn), .val (.int bs), .val (.ref cd), .val (.ref od), .val (.int nn), .val (.ref sta), .val (.ref rw), .unset, .unset, .unset, .unset, .unset, .unset, .unset, .unset, .unset, .unset] []) by
    refine G.iload B at_406 (v := nn) rfl (pc' := 408) rfl ?_
    refine G.iconst B at_408 (z := (2 : Int32)) rfl (pc' := 409) rfl ?_
    refine G.icmp_le B at_409 (by decide) (pcT := 420) (by decide) (pc' := 412) rfl (fun (hc409 : nn.toInt ≤ 2) => ?_) (fun (hc409 : 2 < nn.toInt) => ?_)
    · exact K420 h_406 fr1 hn hz A_cd A_od A_sta A_rw (own_upn 2 hfr1 (by omega))
    · refine G.aload B at_412 (v := (.ref rw)) rfl rfl (pc' := 414) rfl ?_
      refine G.iconst B at_414 (z := (2 : Int32)) rfl (pc' := 415) rfl ?_
      refine G.aload B at_415 (v := (.ref od)) rfl rfl (pc' := 417) rfl ?_
      refine G.iconst B at_417 (z := (2 : Int32)) rfl (pc' := 418) rfl ?_
      refine G.ldI B A_od (i := 2) (by decide) (by decide) (x := (fo 2)) rfl at_418 (pc' := 419) rfl ?_
      refine G.stI B A_rw (i := 2) (by decide) (by omega) (Or.inr hf_rw) at_419 (pc' := 420) rfl (fun h52 K52 A52 => ?_)
      replace A_rw := A52
      replace hn := Nat.le_trans hn K52.1
      replace hz := Nat.le_trans hz K52.1
      replace A_cd := A_cd.keep K52 (ninS ne_cd_rw nin0)
      replace A_od := A_od.keep K52 (ninS ne_od_rw nin0)
      replace A_sta := A_sta.keep K52 (ninS ne_sta_rw nin0)
      exact K420 h52 (up fr1 2 (fo 2)) hn hz A_cd A_od A_sta A_rw (own_up 2 hfr1)
  clear hn hz
  intro h_420 fr2 hn hz A_cd A_od A_sta A_rw hfr2
  suffices K434 : ∀ (h_434 : Heap) (fr3 : Nat → Int32), n0 ≤ h_434.size → h0.size ≤ h_434.size → ArI Z h_434 cd .int 6 fc → ArI Z h_434 od .int 6 fo → ArI Z h_434 sta .int ns fs → ArI Z h_434 rw .int n fr3 → (∀ j, j < 4 → j < n → fr3 j = fo j) → Gg0 p l e s m below meth c n0 h0 Z p0 p1 p2  4 22 h_434 (mkF m 434 #[.val (.int p0), .val (.int p1), .val (.int p2), .val (.int sh), .val (.int dn), .val (.int bs), .val (.ref cd), .val (.ref od), .val (.int nn), .val (.ref sta), .val (.ref rw), .unset, .unset, .unset, .unset, .unset, .unset, .unset, .unset, .unset, .unset] []) by
    refine G.iload B at_420 (v := nn) rfl (pc' := 422) rfl ?_
    refine G.iconst B at_422 (z := (3 : Int32)) rfl (pc' := 423) rfl ?_
    refine G.icmp_le B at_423 (by decide) (pcT := 434) (by decide) (pc' := 426) rfl (fun (hc423 : nn.toInt ≤ 3) => ?_) (fun (hc423 : 3 < nn.toInt) => ?_)
    · exact K434 h_420 fr2 hn hz A_cd A_od A_sta A_rw (own_upn 3 hfr2 (by omega))
    · refine G.aload B at_426 (v := (.ref rw)) rfl rfl (pc' := 428) rfl ?_
      refine G.iconst B at_428 (z := (3 : Int32)) rfl (pc' := 429) rfl ?_
      refine G.aload B at_429 (v := (.ref od)) rfl rfl (pc' := 431) rfl ?_
      refine G.iconst B at_431 (z := (3 : Int32)) rfl (pc' := 432) rfl ?_
      refine G.ldI B A_od (i := 3) (by decide) (by decide) (x := (fo 3)) rfl at_432 (pc' := 433) rfl ?_
      refine G.stI B A_rw (i := 3) (by decide) (by omega) (Or.inr hf_rw) at_433 (pc' := 434) rfl (fun h53 K53 A53 => ?_)
      replace A_rw := A53
      replace hn := Nat.le_trans hn K53.1
      replace hz := Nat.le_trans hz K53.1
      replace A_cd := A_cd.keep K53 (ninS ne_cd_rw nin0)
      replace A_od := A_od.keep K53 (ninS ne_od_rw nin0)
      replace A_sta := A_sta.keep K53 (ninS ne_sta_rw nin0)
      exact K434 h53 (up fr2 3 (fo 3)) hn hz A_cd A_od A_sta A_rw (own_up 3 hfr2)
  clear hn hz
  intro h_434 fr3 hn hz A_cd A_od A_sta A_rw hfr3
  suffices K448 : ∀ (h_448 : Heap) (fr4 : Nat → Int32), n0 ≤ h_448.size → h0.size ≤ h_448.size → ArI Z h_448 cd .int 6 fc → ArI Z h_448 od .int 6 fo → ArI Z h_448 sta .int ns fs → ArI Z h_448 rw .int n fr4 → (∀ j, j < 5 → j < n → fr4 j = fo j) → Gg0 p l e s m below meth c n0 h0 Z p0 p1 p2  4 22 h_448 (mkF m 448 #[.val (.int p0), .val (.int p1), .val (.int p2), .val (.int sh), .val (.int dn), .val (.int bs), .val (.ref cd), .val (.ref od), .val (.int nn), .val (.ref sta), .val (.ref rw), .unset, .unset, .unset, .unset, .unset, .unset, .unset, .unset, .unset, .unset] []) by
    refine G.iload B at_434 (v := nn) rfl (pc' := 436) rfl ?_
    refine G.iconst B at_436 (z := (4 : Int32)) rfl (pc' := 437) rfl ?_
    refine G.icmp_le B at_437 (by decide) (pcT := 448) (by decide) (pc' := 440) rfl (fun (hc437 : nn.toInt ≤ 4) => ?_) (fun (hc437 : 4 < nn.toInt) => ?_)
    · exact K448 h_434 fr3 hn hz A_cd A_od A_sta A_rw (own_upn 4 hfr3 (by omega))
    · refine G.aload B at_440 (v := (.ref rw)) rfl rfl (pc' := 442) rfl ?_
      refine G.iconst B at_442 (z := (4 : Int32)) rfl (pc' := 443) rfl ?_
      refine G.aload B at_443 (v := (.ref od)) rfl rfl (pc' := 445) rfl ?_
      refine G.iconst B at_445 (z := (4 : Int32)) rfl (pc' := 446) rfl ?_
      refine G.ldI B A_od (i := 4) (by decide) (by decide) (x := (fo 4)) rfl at_446 (pc' := 447) rfl ?_
      refine G.stI B A_rw (i := 4) (by decide) (by omega) (Or.inr hf_rw) at_447 (pc' := 448) rfl (fun h54 K54 A54 => ?_)
      replace A_rw := A54
      replace hn := Nat.le_trans hn K54.1
      replace hz := Nat.le_trans hz K54.1
      replace A_cd := A_cd.keep K54 (ninS ne_cd_rw nin0)
      replace A_od := A_od.keep K54 (ninS ne_od_rw nin0)
      replace A_sta := A_sta.keep K54 (ninS ne_sta_rw nin0)
      exact K448 h54 (up fr3 4 (fo 4)) hn hz A_cd A_od A_sta A_rw (own_up 4 hfr3)
  clear hn hz
  intro h_448 fr4 hn hz A_cd A_od A_sta A_rw hfr4
  suffices K462 : ∀ (h_462 : Heap) (fr5 : Nat → Int32), n0 ≤ h_462.size → h0.size ≤ h_462.size → ArI Z h_462 cd .int 6 fc → ArI Z h_462 od .int 6 fo → ArI Z h_462 sta .int ns fs → ArI Z h_462 rw .int n fr5 → (∀ j, j < 6 → j < n → fr5 j = fo j) → Gg0 p l e s m below meth c n0 h0 Z p0 p1 p2  4 22 h_462 (mkF m 462 #[.val (.int p0), .val (.int p1), .val (.int p2), .val (.int sh), .val (.int dn), .val (.int bs), .val (.ref cd), .val (.ref od), .val (.int nn), .val (.ref sta), .val (.ref rw), .unset, .unset, .unset, .unset, .unset, .unset, .unset, .unset, .unset, .unset] []) by
    refine G.iload B at_448 (v := nn) rfl (pc' := 450) rfl ?_
    refine G.iconst B at_450 (z := (5 : Int32)) rfl (pc' := 451) rfl ?_
    refine G.icmp_le B at_451 (by decide) (pcT := 462) (by decide) (pc' := 454) rfl (fun (hc451 : nn.toInt ≤ 5) => ?_) (fun (hc451 : 5 < nn.toInt) => ?_)
    · exact K462 h_448 fr4 hn hz A_cd A_od A_sta A_rw (own_upn 5 hfr4 (by omega))
    · refine G.aload B at_454 (v := (.ref rw)) rfl rfl (pc' := 456) rfl ?_
      refine G.iconst B at_456 (z := (5 : Int32)) rfl (pc' := 457) rfl ?_
      refine G.aload B at_457 (v := (.ref od)) rfl rfl (pc' := 459) rfl ?_
      refine G.iconst B at_459 (z := (5 : Int32)) rfl (pc' := 460) rfl ?_
      refine G.ldI B A_od (i := 5) (by decide) (by decide) (x := (fo 5)) rfl at_460 (pc' := 461) rfl ?_
      refine G.stI B A_rw (i := 5) (by decide) (by omega) (Or.inr hf_rw) at_461 (pc' := 462) rfl (fun h55 K55 A55 => ?_)
      replace A_rw := A55
      replace hn := Nat.le_trans hn K55.1
      replace hz := Nat.le_trans hz K55.1
      replace A_cd := A_cd.keep K55 (ninS ne_cd_rw nin0)
      replace A_od := A_od.keep K55 (ninS ne_od_rw nin0)
      replace A_sta := A_sta.keep K55 (ninS ne_sta_rw nin0)
      exact K462 h55 (up fr4 5 (fo 5)) hn hz A_cd A_od A_sta A_rw (own_up 5 hfr4)
  clear hn hz
  intro h_462 fr5 hn hz A_cd A_od A_sta A_rw hfr5
  refine G.newO (q := 2) B (hw _ (List.mem_of_getElem? (i := 6) rfl)) (hw _ (List.mem_of_getElem? (i := 7) rfl)) (hw _ (List.mem_of_getElem? (i := 8) rfl)) at_462 (pc' := 465) rfl (by decide) (by decide) (fun h56 pt hs_pt hf_pt K56 _ E56 D56 => ?_)
  have ne_cd_pt : cd ≠ pt := Nat.ne_of_lt (hs_pt ▸ A_cd.lt)
  have ne_od_pt : od ≠ pt := Nat.ne_of_lt (hs_pt ▸ A_od.lt)
  have ne_sta_pt : sta ≠ pt := Nat.ne_of_lt (hs_pt ▸ A_sta.lt)
  have ne_rw_pt : rw ≠ pt := Nat.ne_of_lt (hs_pt ▸ A_rw.lt)
  replace hn := Nat.le_trans hn K56.1
  replace hz := Nat.le_trans hz K56.1
  replace A_cd := A_cd.keep K56 nin0
  replace A_od := A_od.keep K56 nin0
  replace A_sta := A_sta.keep K56 nin0
  replace A_rw := A_rw.keep K56 nin0
  have O_pt : O_Pt Z h56 pt .null .null := ⟨E56, D56 (Or.inr (hw _ (List.mem_of_getElem? (i := 16) rfl))) (ty := (.array .int)) (by decide), D56 (Or.inr (hw _ (List.mem_of_getElem? (i := 18) rfl))) (ty := (.array .int)) (by decide)⟩
  show Gg0 p l e s m below meth c n0 h0 Z p0 p1 p2  5 24 h56 (mkF m 465 #[.val (.int p0), .val (.int p1), .val (.int p2), .val (.int sh), .val (.int dn), .val (.int bs), .val (.ref cd), .val (.ref od), .val (.int nn), .val (.ref sta), .val (.ref rw), .unset, .unset, .unset, .unset, .unset, .unset, .unset, .unset, .unset, .unset] [(.ref pt)])
  refine G.dup B at_465 rfl (pc' := 466) rfl ?_
  refine G.aload B at_466 (v := (.ref rw)) rfl rfl (pc' := 468) rfl ?_
  refine G.aload B at_468 (v := (.ref sta)) rfl rfl (pc' := 470) rfl ?_
  refine G.callC (y := (⟨"com/example/tacit/tacit/engine/Partition", "<init>", "([I[I)V"⟩ : MethodName)) (a := pt) B rfl (hw _ (List.mem_of_getElem? (i := 9) rfl)) (hw _ (List.mem_of_getElem? (i := 10) rfl)) rfl (rm := ({ frames := 1, cells := 0, slots := 0, locals := 12 } : Room)) (ws' := [pt]) (rm2 l Z a0 hw pt rw sta .null .null _ n0 hn O_pt (own_fr B (Or.inr hf_pt))) (allS (Or.inr hf_pt) all0) (hw _ (List.mem_of_getElem? (i := 11) rfl)) (hw _ (List.mem_of_getElem? (i := 8) rfl)) (by decide) rfl (argsL := [(.ref rw), (.ref sta)]) (rest := [(.ref pt)]) rfl (lenOf pd_2 rfl) (by decide) (W := 1) (Nat.le_of_eq rfl) (by decide) (by decide) (by decide) at_470 (pc' := 473) rfl ?_
  rintro _ h57 K57 ⟨rfl, O_pt⟩
  replace hn := Nat.le_trans hn K57.1
  replace hz := Nat.le_trans hz K57.1
  replace A_cd := A_cd.keep K57 (ninS ne_cd_pt nin0)
  replace A_od := A_od.keep K57 (ninS ne_od_pt nin0)
  replace A_sta := A_sta.keep K57 (ninS ne_sta_pt nin0)
  replace A_rw := A_rw.keep K57 (ninS ne_rw_pt nin0)
  show Gg0 p l e s m below meth c n0 h0 Z p0 p1 p2  5 24 h57 (mkF m 473 #[.val (.int p0), .val (.int p1), .val (.int p2), .val (.int sh), .val (.int dn), .val (.int bs), .val (.ref cd), .val (.ref od), .val (.int nn), .val (.ref sta), .val (.ref rw), .unset, .unset, .unset, .unset, .unset, .unset, .unset, .unset, .unset, .unset] [(.ref pt)])
  refine G.astore B at_473 rfl (ls' := #[.val (.int p0), .val (.int p1), .val (.int p2), .val (.int sh), .val (.int dn), .val (.int bs), .val (.ref cd), .val (.ref od), .val (.int nn), .val (.ref sta), .val (.ref rw), .val (.ref pt), .unset, .unset, .unset, .unset, .unset, .unset, .unset, .unset, .unset]) rfl (pc' := 475) rfl ?_
  refine G.newO (q := 4) B (hw _ (List.mem_of_getElem? (i := 19) rfl)) (hw _ (List.mem_of_getElem? (i := 20) rfl)) (hw _ (List.mem_of_getElem? (i := 21) rfl)) at_475 (pc' := 478) rfl (by decide) (by decide) (fun h58 co hs_co hf_co K58 _ E58 D58 => ?_)
  have ne_cd_co : cd ≠ co := Nat.ne_of_lt (hs_co ▸ A_cd.lt)
  have ne_od_co : od ≠ co := Nat.ne_of_lt (hs_co ▸ A_od.lt)
  have ne_sta_co : sta ≠ co := Nat.ne_of_lt (hs_co ▸ A_sta.lt)
  have ne_rw_co : rw ≠ co := Nat.ne_of_lt (hs_co ▸ A_rw.lt)
  have ne_pt_co : pt ≠ co := Nat.ne_of_lt (hs_co ▸ O_pt.lt)
  replace hn := Nat.le_trans hn K58.1
  replace hz := Nat.le_trans hz K58.1
  replace A_cd := A_cd.keep K58 nin0
  replace A_od := A_od.keep K58 nin0
  replace A_sta := A_sta.keep K58 nin0
  replace A_rw := A_rw.keep K58 nin0
  replace O_pt := O_pt.keep K58 nin0
  have O_co : O_Co Z h58 co .null .null (0 : Int32) (0 : Int32) := ⟨E58, D58 (Or.inr (hw _ (List.mem_of_getElem? (i := 35) rfl))) (ty := (.object "java/lang/String")) (by decide), D58 (Or.inr (hw _ (List.mem_of_getElem? (i := 37) rfl))) (ty := (.array .int)) (by decide), D58 (Or.inr (hw _ (List.mem_of_getElem? (i := 39) rfl))) (ty := .int) (by decide), D58 (Or.inr (hw _ (List.mem_of_getElem? (i := 41) rfl))) (ty := .boolean) (by decide)⟩
  show Gg0 p l e s m below meth c n0 h0 Z p0 p1 p2  6 28 h58 (mkF m 478 #[.val (.int p0), .val (.int p1), .val (.int p2), .val (.int sh), .val (.int dn), .val (.int bs), .val (.ref cd), .val (.ref od), .val (.int nn), .val (.ref sta), .val (.ref rw), .val (.ref pt), .unset, .unset, .unset, .unset, .unset, .unset, .unset, .unset, .unset] [(.ref co)])
  refine G.dup B at_478 rfl (pc' := 479) rfl ?_
  have wS : ∀ a ∈ Bundle.stringAtoms, a.before a0 Z = true := (by
    intro a ha
    simp only [Bundle.stringAtoms, List.mem_cons, List.not_mem_nil, or_false] at ha
    rcases ha with rfl | rfl | rfl | rfl | rfl | rfl | rfl
    · exact hw _ (List.mem_of_getElem? (i := 23) rfl)
    · exact hw _ (List.mem_of_getElem? (i := 24) rfl)
    · exact hw _ (List.mem_of_getElem? (i := 25) rfl)
    · exact hw _ (List.mem_of_getElem? (i := 26) rfl)
    · exact hw _ (List.mem_of_getElem? (i := 27) rfl)
    · exact hw _ (List.mem_of_getElem? (i := 28) rfl)
    · exact hw _ (List.mem_of_getElem? (i := 29) rfl))
  refine G.ldcS (text := "c") (ws2 := [co]) (n := 4) B (hw _ (List.mem_of_getElem? (i := 22) rfl)) wS (by decide) (by decide) (by decide) (by decide) (allS (Or.inr hf_co) all0) at_479 (pc' := 481) rfl (fun vm1 h9 sg K9 B9 => ?_)
  replace hn := Nat.le_trans hn K9.1
  replace hz := Nat.le_trans hz K9.1
  replace A_cd := A_cd.keep K9 nin0
  replace A_od := A_od.keep K9 nin0
  replace A_sta := A_sta.keep K9 nin0
  replace A_rw := A_rw.keep K9 nin0
  replace O_pt := O_pt.keep K9 nin0
  replace O_co := O_co.keep K9 nin0
  exact seg1 hw h0 p0 p1 p2 sh dn bs nn sg cd od sta rw pt co n ns fc fo fs fr5 B9 A_cd A_od A_sta A_rw O_pt O_co ne_cd_co ne_od_co ne_sta_co ne_rw_co ne_pt_co hshp hnn hn6 hfr5 hfo
set_option maxRecDepth 65536 in
set_option maxHeartbeats 40000000 in
theorem comes_1 {Post : Tables → Env → Array Value → State → Outcome → State → Prop} (hpost : ∀ tb e args s v u, (limb_1_1.after args s (.returned v) u = true ∧ limb_1_2.after args s (.returned v) u = true ∧ True) → ReturnedEndW s (.returned v) u (Jvm.fieldLocs frame_1_writes args s ++ Jvm.arrayLocs frame_1_arrays args s ++ Jvm.staticLocs frame_1_statics s) 24 1152 → Post tb e args s (.returned v) u) :
    ArmFor flags0 classFile x code maxLocals ret World_1 tables_1 room_1 Calls_1 rest_1 Pre_1 Post := by
  intro l hfl _ _ p e ha hc hk s m args below hf hA hF happ hP
  obtain ⟨hcalls, hrest, hpre⟩ := hP
  obtain ⟨-, -, -, hnamed, -, -, -, hat⟩ := (Spec.applies_iff hf).mp happ
  obtain ⟨hg, hn⟩ := and_e (Cond.before_iff.mp (show (Jvm.Cond.and given_1 narrow_1).before args s = true from hpre))
  obtain ⟨hq0, hg0⟩ := and_e hg
  obtain ⟨hq1, hg1⟩ := and_e hg0
  obtain ⟨hq2, hg2⟩ := and_e hg1
  obtain ⟨w0, w1, w2, rfl⟩ : ∃ w0 w1 w2 : Value, args = #[w0, w1, w2] := by
    have hs : args.size = 3 := by simpa [Cond.value, given_1] using hq0
    obtain ⟨L⟩ := args
    match L, hs with
    | [w0, w1, w2], _ => exact ⟨w0, w1, w2, rfl⟩
  have hw := fun d (hd : d ∈ tables_1) => atoms_spec (ws := Jvm.Cond.code x code maxLocals ret :: tables_1) hat d (List.mem_cons_of_mem _ hd)
  obtain ⟨i0, e0⟩ := is_v hq1
  obtain rfl : w0 = (.int i0) := Option.some.inj e0
  obtain ⟨i1, e1⟩ := is_v hq2
  obtain rfl : w1 = (.int i1) := Option.some.inj e1
  obtain ⟨i2, e2⟩ := is_v hg2
  obtain rfl : w2 = (.int i2) := Option.some.inj e2
  obtain ⟨n, o, h1, h2, h3, _, L, rfl, ⟨N, -, _, rfl, rfl⟩, hq⟩ := rm0 l s _ hw i0 i1 i2 s.heap s.heap.size (Nat.le_refl _) p e ha hc hk s m _ below hf ((Spec.applies_iff_loose hf).mp happ).1 ⟨rfl, State.Warmed39.refl s, rfl⟩ trivial
  refine ⟨n, _, h1, h2, h3, hpost _ _ _ _ _ _ ⟨Cond.after_iff.mpr rfl, Cond.after_iff.mpr (eq_i res_at (Term.int_eval (1)) rfl), trivial⟩ ⟨hq.1, hq.2.1, hq.2.2.1, (hq.2.2.2.sift fun y hy => Or.inr (N y hy)).mono (by decide) (by decide)⟩⟩
theorem main_1_1 : Claimed_1_1 := comes_1 fun _ _ _ _ _ _ h hF => ⟨h.1, hF⟩
theorem main_1_2 : Claimed_1_2 := comes_1 fun _ _ _ _ _ _ h hF => ⟨h.2.1, hF⟩
end Jvm.Pilot.@@N@@
namespace Jvm.Pilot.@@N@@
open Jvm Jvm.ClassFile Sem Op Lib Jvm.Free Jvm.Stand Jvm.Pilot.@@N@@.Jvm.D
/-! MADE BY PROGRAM (witnessworld.py) out of the Statement's table words and the real class files: 15 classes; the members and pool entries that the words name. The judged class is class 1, her method 1. -/
namespace start1
open Jvm.ClassFile
def u (s : String) : CpInfo := .utf8 (stringToUtf16 s)
/-- a pool by its gaps: so many unusable entries, then the entry; so many at the end -/
def gap : Nat → List CpInfo → List CpInfo
  | 0, r => r
  | n + 1, r => .unusable :: gap n r
def poolList (es : List (Nat × CpInfo)) (last : Nat) : List CpInfo := es.foldr (fun e r => gap e.1 (e.2 :: r)) (gap last [])
def pool (es : List (Nat × CpInfo)) (last : Nat) : Array CpInfo := ⟨poolList es last⟩
def fileOf (pool : Array CpInfo) (this : Nat) (attrs : Array Attribute := #[]) (ms : Array MethodInfo := #[]) (fl : Nat := 33) (sup : Nat := 0) (ifs : Array Nat := #[]) (fds : Array FieldInfo := #[]) : ClassFile where
  minorVersion := 0
  majorVersion := 65
  constantPool := pool
  accessFlags := fl
  thisClass := this
  superClass := sup
  interfaces := ifs
  fields := fds
  methods := ms
  attributes := attrs
def plain (name : String) (sup : Option ClassId) : Class where
  name := name
  kind := .ordinary
  loader := none
  accessFlags := 33
  super := sup
  interfaces := #[]
  cf := none
  fields := #[]
  methods := #[]
  instanceTypes := #[]
  staticTypes := #[]
  resolved := #[]
  callSites := []
  init := .initialized
  statics := none
  mirror := none

def pool0 : Array CpInfo := pool [(5, u "<init>"), (0, u "()V"), (1, .class_ 10), (1, u "java/lang/Object")] 113

def k0c0 : Code := { maxStack := 0, maxLocals := 1, code := object_method_1_code, exceptionTable := #[], attributes := #[] }
def k0m0 : Method := { name := "<init>", desc := "()V", sig := { parameters := [], returnType := none }, accessFlags := 1, code := some k0c0 }
/-- java/lang/Object -/
def k0 : Class := { plain "java/lang/Object" none with
  accessFlags := 33
  interfaces := #[]
  cf := some (fileOf pool0 8 #[] #[{ accessFlags := 1, nameIndex := 5, descriptorIndex := 6, attributes := #[] }] 33 0 #[] #[])
  fields := #[]
  methods := #[k0m0]
  instanceTypes := #[]
  staticTypes := #[]
  resolved := Array.replicate 124 none
  statics := none }

def pool1 : Array CpInfo := pool [(2, .class_ 4), (1, u "java/lang/Object"), (0, u "<init>"), (0, u "()V"), (0, .integer 2147483647), (0, .methodref 9 10), (0, .class_ 11), (0, .nameAndType 12 13), (0, u "com/example/tacit/tacit/engine/PartitionDeterminesPinLaw"), (0, u "at"), (0, u "(IZI)I"), (0, .class_ 15), (0, u "com/example/tacit/tacit/engine/Partition"), (0, .methodref 14 17), (0, .nameAndType 5 18), (0, u "([I[I)V"), (0, .class_ 20), (0, u "com/example/tacit/tacit/engine/Column"), (0, .string 22), (0, u "c"), (0, .methodref 19 24), (0, .nameAndType 5 25), (0, u "(Ljava/lang/String;[IIZ)V"), (0, .methodref 14 27), (0, .nameAndType 28 29), (0, u "determines"), (0, u "(Lcom/example/tacit/tacit/engine/Column;)Z"), (2, u "law"), (0, u "(III)Z")] 5

def k1m0 : Method := { name := "<init>", desc := "()V", sig := { parameters := [], returnType := none }, accessFlags := 1, code := none }
def k1c1 : Code := { maxStack := 6, maxLocals := 21, code := code, exceptionTable := #[], attributes := #[] }
def k1m1 : Method := { name := "law", desc := "(III)Z", sig := { parameters := [.int, .int, .int], returnType := some .boolean }, accessFlags := 9, code := some k1c1 }
def k1c2 : Code := { maxStack := 2, maxLocals := 3, code := method_3_code, exceptionTable := #[], attributes := #[] }
def k1m2 : Method := { name := "at", desc := "(IZI)I", sig := { parameters := [.int, .boolean, .int], returnType := some .int }, accessFlags := 10, code := some k1c2 }
/-- com/example/tacit/tacit/engine/PartitionDeterminesPinLaw -/
def k1 : Class := { plain "com/example/tacit/tacit/engine/PartitionDeterminesPinLaw" (some 0) with
  accessFlags := 49
  interfaces := #[]
  cf := some (fileOf pool1 9 #[] #[{ accessFlags := 1, nameIndex := 5, descriptorIndex := 6, attributes := #[] }, { accessFlags := 9, nameIndex := 32, descriptorIndex := 33, attributes := #[] }, { accessFlags := 10, nameIndex := 12, descriptorIndex := 13, attributes := #[] }] 49 2 #[] #[])
  fields := #[]
  methods := #[k1m0, k1m1, k1m2]
  instanceTypes := #[]
  staticTypes := #[]
  resolved := Array.replicate 39 none
  statics := none }

def pool2 : Array CpInfo := pool [(1, .methodref 2 3), (0, .class_ 4), (0, .nameAndType 5 6), (0, u "java/lang/Object"), (0, u "<init>"), (0, u "()V"), (0, .fieldref 8 9), (0, .class_ 10), (0, .nameAndType 11 12), (0, u "com/example/tacit/tacit/engine/Partition"), (0, u "rows"), (0, u "[I"), (0, .fieldref 8 14), (0, .nameAndType 15 12), (0, u "starts"), (2, u "([I[I)V"), (10, .fieldref 30 31), (0, .class_ 32), (0, .nameAndType 33 12), (0, u "com/example/tacit/tacit/engine/Column"), (0, u "codes"), (6, u "HEADERS"), (0, u "J"), (6, u "determines"), (0, u "(Lcom/example/tacit/tacit/engine/Column;)Z")] 26

def k2c0 : Code := { maxStack := 2, maxLocals := 3, code := prog_35_method_1_code, exceptionTable := #[], attributes := #[] }
def k2m0 : Method := { name := "<init>", desc := "([I[I)V", sig := { parameters := [(.array .int), (.array .int)], returnType := none }, accessFlags := 0, code := some k2c0 }
def k2c1 : Code := { maxStack := 4, maxLocals := 5, code := prog_35_method_3_code, exceptionTable := #[], attributes := #[] }
def k2m1 : Method := { name := "determines", desc := "(Lcom/example/tacit/tacit/engine/Column;)Z", sig := { parameters := [(.object "com/example/tacit/tacit/engine/Column")], returnType := some .boolean }, accessFlags := 1, code := some k2c1 }
/-- com/example/tacit/tacit/engine/Partition -/
def k2 : Class := { plain "com/example/tacit/tacit/engine/Partition" (some 0) with
  accessFlags := 49
  interfaces := #[]
  cf := some (fileOf pool2 8 #[] #[{ accessFlags := 0, nameIndex := 5, descriptorIndex := 18, attributes := #[] }, { accessFlags := 1, nameIndex := 48, descriptorIndex := 49, attributes := #[] }] 49 2 #[] #[{ accessFlags := 26, nameIndex := 40, descriptorIndex := 41, attributes := #[] }, { accessFlags := 16, nameIndex := 11, descriptorIndex := 12, attributes := #[] }, { accessFlags := 16, nameIndex := 15, descriptorIndex := 12, attributes := #[] }])
  fields := #[{ name := "HEADERS", type := .long, accessFlags := 26, slot := 0, constantValue := 0 }, { name := "rows", type := (.array .int), accessFlags := 16, slot := 0, constantValue := 0 }, { name := "starts", type := (.array .int), accessFlags := 16, slot := 1, constantValue := 0 }]
  methods := #[k2m0, k2m1]
  instanceTypes := #[(.array .int), (.array .int)]
  staticTypes := #[.long]
  resolved := Array.replicate 76 none
  statics := none }

def pool3 : Array CpInfo := pool [(1, .methodref 2 3), (0, .class_ 4), (0, .nameAndType 5 6), (0, u "java/lang/Object"), (0, u "<init>"), (0, u "()V"), (0, .fieldref 8 9), (0, .class_ 10), (0, .nameAndType 11 12), (0, u "com/example/tacit/tacit/engine/Column"), (0, u "name"), (0, u "Ljava/lang/String;"), (0, .fieldref 8 14), (0, .nameAndType 15 16), (0, u "codes"), (0, u "[I"), (0, .fieldref 8 18), (0, .nameAndType 19 20), (0, u "cardinality"), (0, u "I"), (0, .fieldref 8 22), (0, .nameAndType 23 24), (0, u "numeric"), (0, u "Z"), (0, u "(Ljava/lang/String;[IIZ)V")] 9

def k3c0 : Code := { maxStack := 2, maxLocals := 5, code := prog_25_method_1_code, exceptionTable := #[], attributes := #[] }
def k3m0 : Method := { name := "<init>", desc := "(Ljava/lang/String;[IIZ)V", sig := { parameters := [(.object "java/lang/String"), (.array .int), .int, .boolean], returnType := none }, accessFlags := 0, code := some k3c0 }
/-- com/example/tacit/tacit/engine/Column -/
def k3 : Class := { plain "com/example/tacit/tacit/engine/Column" (some 0) with
  accessFlags := 49
  interfaces := #[]
  cf := some (fileOf pool3 8 #[] #[{ accessFlags := 0, nameIndex := 5, descriptorIndex := 25, attributes := #[] }] 49 2 #[] #[{ accessFlags := 18, nameIndex := 11, descriptorIndex := 12, attributes := #[] }, { accessFlags := 16, nameIndex := 15, descriptorIndex := 16, attributes := #[] }, { accessFlags := 18, nameIndex := 19, descriptorIndex := 20, attributes := #[] }, { accessFlags := 18, nameIndex := 23, descriptorIndex := 24, attributes := #[] }])
  fields := #[{ name := "name", type := (.object "java/lang/String"), accessFlags := 18, slot := 0, constantValue := 0 }, { name := "codes", type := (.array .int), accessFlags := 16, slot := 1, constantValue := 0 }, { name := "cardinality", type := .int, accessFlags := 18, slot := 2, constantValue := 0 }, { name := "numeric", type := .boolean, accessFlags := 18, slot := 3, constantValue := 0 }]
  methods := #[k3m0]
  instanceTypes := #[(.object "java/lang/String"), (.array .int), .int, .boolean]
  staticTypes := #[]
  resolved := Array.replicate 35 none
  statics := none }

def pool4 : Array CpInfo := pool [(1, .class_ 2), (0, u "java/io/Serializable"), (0, .class_ 4), (0, u "java/lang/Object")] 2

/-- java/io/Serializable -/
def k4 : Class := { plain "java/io/Serializable" (some 0) with
  accessFlags := 1537
  interfaces := #[]
  cf := some (fileOf pool4 1 #[] #[] 1537 3 #[] #[])
  fields := #[]
  methods := #[]
  instanceTypes := #[]
  staticTypes := #[]
  resolved := Array.replicate 7 none
  statics := none }

def pool5 : Array CpInfo := pool [(1, .class_ 2), (0, u "java/lang/Comparable"), (0, .class_ 4), (0, u "java/lang/Object")] 7

/-- java/lang/Comparable -/
def k5 : Class := { plain "java/lang/Comparable" (some 0) with
  accessFlags := 1537
  interfaces := #[]
  cf := some (fileOf pool5 1 #[] #[] 1537 3 #[] #[])
  fields := #[]
  methods := #[]
  instanceTypes := #[]
  staticTypes := #[]
  resolved := Array.replicate 12 none
  statics := none }

def pool6 : Array CpInfo := pool [(2, .class_ 4), (1, u "java/lang/CharSequence"), (42, .class_ 48), (0, u "java/lang/CharSequence$1CodePointIterator"), (10, .class_ 60), (0, u "java/lang/CharSequence$1CharIterator"), (5, .class_ 67), (0, u "java/lang/Object")] 63

/-- java/lang/CharSequence -/
def k6 : Class := { plain "java/lang/CharSequence" (some 0) with
  accessFlags := 1537
  interfaces := #[]
  cf := some (fileOf pool6 2 #[.nestMembers #[47, 59]] #[] 1537 66 #[] #[])
  fields := #[]
  methods := #[]
  instanceTypes := #[]
  staticTypes := #[]
  resolved := Array.replicate 131 none
  statics := none }

def pool7 : Array CpInfo := pool [(1, .class_ 2), (0, u "java/lang/constant/Constable"), (0, .class_ 4), (0, u "java/lang/Object")] 6

/-- java/lang/constant/Constable -/
def k7 : Class := { plain "java/lang/constant/Constable" (some 0) with
  accessFlags := 1537
  interfaces := #[]
  cf := some (fileOf pool7 1 #[] #[] 1537 3 #[] #[])
  fields := #[]
  methods := #[]
  instanceTypes := #[]
  staticTypes := #[]
  resolved := Array.replicate 11 none
  statics := none }

def pool8 : Array CpInfo := pool [(1, .class_ 2), (0, u "java/lang/constant/ConstantDesc"), (0, .class_ 4), (0, u "java/lang/Object")] 32

/-- java/lang/constant/ConstantDesc -/
def k8 : Class := { plain "java/lang/constant/ConstantDesc" (some 0) with
  accessFlags := 1537
  interfaces := #[]
  cf := some (fileOf pool8 1 #[] #[] 1537 3 #[] #[])
  fields := #[]
  methods := #[]
  instanceTypes := #[]
  staticTypes := #[]
  resolved := Array.replicate 37 none
  statics := none }

def pool9 : Array CpInfo := pool [(2, .class_ 4), (1, u "java/lang/Object"), (0, u "<init>"), (0, u "()V"), (3, .class_ 12), (1, u "java/lang/String"), (0, u "value"), (0, u "[B"), (2, u "coder"), (0, u "B"), (2, u "hash"), (0, u "I"), (2, u "hashIsZero"), (0, u "Z"), (13, u "COMPACT_STRINGS"), (534, .class_ 576), (0, u "java/lang/CharSequence"), (22, u "CASE_INSENSITIVE_ORDER"), (0, u "Ljava/util/Comparator;"), (500, u "serialPersistentFields"), (0, u "[Ljava/io/ObjectStreamField;"), (0, .class_ 1104), (0, u "java/lang/String$CaseInsensitiveComparator"), (1, .class_ 1107), (0, u "java/io/Serializable"), (0, .class_ 1109), (0, u "java/lang/Comparable"), (0, .class_ 1111), (0, u "java/lang/constant/Constable"), (0, .class_ 1113), (0, u "java/lang/constant/ConstantDesc"), (2, u "serialVersionUID"), (0, u "J"), (3, u "REPL"), (0, u "C"), (2, u "LATIN1"), (1, u "UTF16")] 323

def k9m0 : Method := { name := "<init>", desc := "()V", sig := { parameters := [], returnType := none }, accessFlags := 1, code := none }
/-- java/lang/String -/
def k9 : Class := { plain "java/lang/String" (some 0) with
  accessFlags := 49
  interfaces := #[4, 5, 6, 7, 8]
  cf := some (fileOf pool9 10 #[.nestMembers #[1103]] #[{ accessFlags := 1, nameIndex := 5, descriptorIndex := 6, attributes := #[] }] 49 2 #[1106, 1108, 575, 1110, 1112] #[{ accessFlags := 18, nameIndex := 13, descriptorIndex := 14, attributes := #[] }, { accessFlags := 18, nameIndex := 17, descriptorIndex := 18, attributes := #[] }, { accessFlags := 2, nameIndex := 21, descriptorIndex := 22, attributes := #[] }, { accessFlags := 2, nameIndex := 25, descriptorIndex := 26, attributes := #[] }, { accessFlags := 26, nameIndex := 1116, descriptorIndex := 1117, attributes := #[] }, { accessFlags := 24, nameIndex := 40, descriptorIndex := 26, attributes := #[] }, { accessFlags := 26, nameIndex := 1101, descriptorIndex := 1102, attributes := #[] }, { accessFlags := 26, nameIndex := 1121, descriptorIndex := 1122, attributes := #[] }, { accessFlags := 25, nameIndex := 599, descriptorIndex := 600, attributes := #[] }, { accessFlags := 24, nameIndex := 1125, descriptorIndex := 18, attributes := #[] }, { accessFlags := 24, nameIndex := 1127, descriptorIndex := 18, attributes := #[] }])
  fields := #[{ name := "value", type := (.array .byte), accessFlags := 18, slot := 0, constantValue := 0 }, { name := "coder", type := .byte, accessFlags := 18, slot := 1, constantValue := 0 }, { name := "hash", type := .int, accessFlags := 2, slot := 2, constantValue := 0 }, { name := "hashIsZero", type := .boolean, accessFlags := 2, slot := 3, constantValue := 0 }, { name := "serialVersionUID", type := .long, accessFlags := 26, slot := 0, constantValue := 0 }, { name := "COMPACT_STRINGS", type := .boolean, accessFlags := 24, slot := 1, constantValue := 0 }, { name := "serialPersistentFields", type := (.array (.object "java/io/ObjectStreamField")), accessFlags := 26, slot := 2, constantValue := 0 }, { name := "REPL", type := .char, accessFlags := 26, slot := 3, constantValue := 0 }, { name := "CASE_INSENSITIVE_ORDER", type := (.object "java/util/Comparator"), accessFlags := 25, slot := 4, constantValue := 0 }, { name := "LATIN1", type := .byte, accessFlags := 24, slot := 5, constantValue := 0 }, { name := "UTF16", type := .byte, accessFlags := 24, slot := 6, constantValue := 0 }]
  methods := #[k9m0]
  instanceTypes := #[(.array .byte), .byte, .int, .boolean]
  staticTypes := #[.long, .boolean, (.array (.object "java/io/ObjectStreamField")), .char, (.object "java/util/Comparator"), .byte, .byte]
  resolved := Array.replicate 1451 none
  statics := none }

def pool10 : Array CpInfo := pool [(1, u "java/lang/Cloneable"), (0, .class_ 1), (0, u "java/lang/Object"), (0, .class_ 3)] 3

/-- java/lang/Cloneable -/
def k10 : Class := { plain "java/lang/Cloneable" (some 0) with
  accessFlags := 1537
  interfaces := #[]
  cf := some (fileOf pool10 2 #[] #[] 1537 4 #[] #[])
  fields := #[]
  methods := #[]
  instanceTypes := #[]
  staticTypes := #[]
  resolved := Array.replicate 8 none
  statics := none }

/-- the primitive byte -/
def k11 : Class := { plain "byte" none with kind := .primitive 'B', accessFlags := 0x411 }
/-- [B -/
def k12 : Class := { plain "[B" (some 0) with kind := .array 11 .byte, interfaces := #[10, 4], accessFlags := 1041 }

/-- the primitive int -/
def k13 : Class := { plain "int" none with kind := .primitive 'I', accessFlags := 0x411 }
/-- [I -/
def k14 : Class := { plain "[I" (some 0) with kind := .array 13 .int, interfaces := #[10, 4], accessFlags := 1041 }

def heap : Heap := #[]
def classes : Array Class := #[k0, k1, k2, k3, k4, k5, k6, k7, k8, k9, k10, k11, k12, k13, k14]
def interned : List (Array UInt16 × Addr) := []
def slotsUsed : Nat := 0
def theMethod : MethodId := ⟨1, 1⟩
def args0 : Array Value := #[.int 5, .int 7, .int 3]
def aboutOver (below : List Frame) : State where
  vm := { classes := classes, interned := interned.toArray }
  heap := heap
  slotsUsed := slotsUsed
  threads := #[{ frames := .invoking theMethod args0 :: below }]
def below0 : List Frame := [.native { method := ⟨0, 0⟩, args := #[] }]
def about1 : State := aboutOver below0
def p0 : Program := .bare "" "" ""
def e0 : Env := launch0.env 0 0 0
theorem w_frames : about1.frames = Frame.invoking theMethod args0 :: below0 := rfl
set_option maxRecDepth 65536 in
theorem w_args : argsFit about1.vm theMethod args0 = true := by decide +kernel
set_option maxRecDepth 65536 in
theorem w_heap : heapFits about1 = true := by decide +kernel
set_option maxRecDepth 65536 in
theorem w_runnable : about1.curStatus? = some .runnable := by decide +kernel
set_option maxRecDepth 65536 in
theorem w_alone : about1.alone = true := by decide +kernel
set_option maxRecDepth 65536 in
theorem w_named : about1.methodNamed? x = some theMethod := by decide +kernel
set_option maxRecDepth 65536 in
theorem w_hears : about1.hears theMethod below0 = true := by decide +kernel
set_option maxRecDepth 65536 in
theorem w_ripe : about1.ripe theMethod args0 below0 = true := by decide +kernel
theorem w_running : about1.status = .running := rfl
set_option maxRecDepth 65536 in
theorem w_room : about1.hasRoom e0.platform room_1 = true :=
  launch0.hasRoom_least _ room_1 (by decide +kernel) (by decide +kernel) (by decide +kernel) (by decide +kernel) (by decide +kernel) (by decide +kernel)
theorem allAtoms_all (ts : List Jvm.Cond) (a : Array Jvm.Value) (st : Jvm.State) : (allAtoms ts).before a st = ts.all (fun c => c.before a st) := by
  induction ts with
  | nil => rfl
  | cons c t ih =>
    show (Jvm.Cond.and c (allAtoms t)).before a st = _
    rw [Jvm.Cond.before_and, ih, List.all_cons]
def words1 : List Jvm.Cond := Jvm.Cond.code x code maxLocals ret :: tables_1
/-- a 'code' word, met by the world's own term for the bytes: nothing is compared byte by byte -/
theorem code_word {y : MethodName} {bytes : ByteArray} {mx : Nat} {rt : Option FieldType} {a : Array Value} {s : State} {m : MethodId} {meth : Method} {c : Code} (h1 : s.methodNamed? y = some m) (h2 : s.vm.method? m = some meth) (h3 : meth.code = some c) (h4 : c.code = bytes)
    (h5 : (c.maxLocals == mx && c.exceptionTable.isEmpty && decide (c.maxStack ≤ mostOperands) && decide (meth.sig.returnType = rt) && !meth.locks && decide (parseMethodDescriptor y.desc = some meth.sig)) = true) : (Jvm.Cond.code y bytes mx rt).before a s = true := by
  simp only [Bool.and_eq_true, beq_iff_eq, Bool.not_eq_true', decide_eq_true_eq] at h5
  obtain ⟨⟨⟨⟨⟨g1, g2⟩, g3⟩, g4⟩, g5⟩, g6⟩ := h5
  simp [Cond.before, Cond.holds, Cond.value, h1, h2, h3, h4, g1, g2, g3, g4, g5, g6]
def isCode : Jvm.Cond → Bool
  | .code _ _ _ _ => true
  | _ => false
theorem all_split {L : List Jvm.Cond} {P : Jvm.Cond → Bool} (h1 : L.all (fun c => isCode c || P c) = true) (h2 : ∀ c ∈ L.filter isCode, P c = true) : L.all P = true := by
  refine List.all_eq_true.mpr fun c hc => ?_
  have h := List.all_eq_true.mp h1 c hc
  rcases Bool.eq_false_or_eq_true (isCode c) with hi | hi
  · exact h2 c (List.mem_filter.mpr ⟨hc, hi⟩)
  · simpa [hi] using h
set_option maxRecDepth 65536 in
theorem w_c0 : (Jvm.Cond.code x code maxLocals ret).before args0 about1 = true := code_word (m := ⟨1, 1⟩) (meth := k1m1) (c := k1c1) (by decide +kernel) rfl rfl rfl (by decide +kernel)
set_option maxRecDepth 65536 in
theorem w_c1 : (Jvm.Cond.code ({ cls := "com/example/tacit/tacit/engine/PartitionDeterminesPinLaw", name := "at", desc := "(IZI)I" } : Jvm.MethodName) method_3_code (3 : Nat) (Option.some Jvm.ClassFile.FieldType.int)).before args0 about1 = true := code_word (m := ⟨1, 2⟩) (meth := k1m2) (c := k1c2) (by decide +kernel) rfl rfl rfl (by decide +kernel)
set_option maxRecDepth 65536 in
theorem w_c2 : (Jvm.Cond.code ({ cls := "com/example/tacit/tacit/engine/Partition", name := "<init>", desc := "([I[I)V" } : Jvm.MethodName) prog_35_method_1_code (3 : Nat) (Option.none : Option Jvm.ClassFile.FieldType)).before args0 about1 = true := code_word (m := ⟨2, 0⟩) (meth := k2m0) (c := k2c0) (by decide +kernel) rfl rfl rfl (by decide +kernel)
set_option maxRecDepth 65536 in
theorem w_c3 : (Jvm.Cond.code ({ cls := "java/lang/Object", name := "<init>", desc := "()V" } : Jvm.MethodName) object_method_1_code (1 : Nat) (Option.none : Option Jvm.ClassFile.FieldType)).before args0 about1 = true := code_word (m := ⟨0, 0⟩) (meth := k0m0) (c := k0c0) (by decide +kernel) rfl rfl rfl (by decide +kernel)
set_option maxRecDepth 65536 in
theorem w_c4 : (Jvm.Cond.code ({ cls := "com/example/tacit/tacit/engine/Column", name := "<init>", desc := "(Ljava/lang/String;[IIZ)V" } : Jvm.MethodName) prog_25_method_1_code (5 : Nat) (Option.none : Option Jvm.ClassFile.FieldType)).before args0 about1 = true := code_word (m := ⟨3, 0⟩) (meth := k3m0) (c := k3c0) (by decide +kernel) rfl rfl rfl (by decide +kernel)
set_option maxRecDepth 65536 in
theorem w_c5 : (Jvm.Cond.code ({ cls := "com/example/tacit/tacit/engine/Partition", name := "determines", desc := "(Lcom/example/tacit/tacit/engine/Column;)Z" } : Jvm.MethodName) prog_35_method_3_code (5 : Nat) (Option.some Jvm.ClassFile.FieldType.boolean)).before args0 about1 = true := code_word (m := ⟨2, 1⟩) (meth := k2m1) (c := k2c1) (by decide +kernel) rfl rfl rfl (by decide +kernel)
def codes1 : List Jvm.Cond := [Jvm.Cond.code x code maxLocals ret, Jvm.Cond.code ({ cls := "com/example/tacit/tacit/engine/PartitionDeterminesPinLaw", name := "at", desc := "(IZI)I" } : Jvm.MethodName) method_3_code (3 : Nat) (Option.some Jvm.ClassFile.FieldType.int), Jvm.Cond.code ({ cls := "com/example/tacit/tacit/engine/Partition", name := "<init>", desc := "([I[I)V" } : Jvm.MethodName) prog_35_method_1_code (3 : Nat) (Option.none : Option Jvm.ClassFile.FieldType), Jvm.Cond.code ({ cls := "java/lang/Object", name := "<init>", desc := "()V" } : Jvm.MethodName) object_method_1_code (1 : Nat) (Option.none : Option Jvm.ClassFile.FieldType), Jvm.Cond.code ({ cls := "com/example/tacit/tacit/engine/Column", name := "<init>", desc := "(Ljava/lang/String;[IIZ)V" } : Jvm.MethodName) prog_25_method_1_code (5 : Nat) (Option.none : Option Jvm.ClassFile.FieldType), Jvm.Cond.code ({ cls := "com/example/tacit/tacit/engine/Partition", name := "determines", desc := "(Lcom/example/tacit/tacit/engine/Column;)Z" } : Jvm.MethodName) prog_35_method_3_code (5 : Nat) (Option.some Jvm.ClassFile.FieldType.boolean)]
set_option maxRecDepth 65536 in
theorem codes_eq : words1.filter isCode = codes1 := rfl
theorem w_codes : ∀ c ∈ words1.filter isCode, c.before args0 about1 = true := by
  rw [codes_eq]
  intro c hc
  simp only [codes1, List.mem_cons, List.not_mem_nil, or_false] at hc
  rcases hc with rfl | rfl | rfl | rfl | rfl | rfl
  · exact w_c0
  · exact w_c1
  · exact w_c2
  · exact w_c3
  · exact w_c4
  · exact w_c5
set_option maxRecDepth 65536 in
theorem w_t1 : (words1.take 24).all (fun c => isCode c || c.before args0 about1) = true := by decide +kernel
set_option maxRecDepth 65536 in
theorem w_t2 : ((words1.drop 24).take 24).all (fun c => isCode c || c.before args0 about1) = true := by decide +kernel
set_option maxRecDepth 65536 in
theorem w_t3 : ((words1.drop 24).drop 24).all (fun c => isCode c || c.before args0 about1) = true := by decide +kernel
theorem w_tables : (allAtoms (Jvm.Cond.code x code maxLocals ret :: tables_1)).before args0 about1 = true := by
  rw [allAtoms_all]
  show words1.all (fun c => c.before args0 about1) = true
  refine all_split ?_ w_codes
  rw [← List.take_append_drop 24 words1, List.all_append, w_t1, ← List.take_append_drop 24 (words1.drop 24), List.all_append, w_t2, w_t3]
  rfl
set_option maxRecDepth 65536 in
theorem w_case : (Jvm.Cond.and given_1 narrow_1).before args0 about1 = true := by decide +kernel
theorem w_applies : (headSpec (Jvm.Cond.code x code maxLocals ret :: tables_1) room_1).applies x e0.platform about1 = true :=
  (Spec.applies_iff w_frames).mpr ⟨w_running, w_runnable, w_alone, w_named, w_hears, w_ripe, w_room, w_tables⟩
theorem atStart : AtStart classFile x code maxLocals ret World_1 tables_1 room_1 Calls_1 rest_1 Pre_1 launch0 p0 e0 about1 theMethod args0 below0 :=
  ⟨lists_1, trivial, launch0.admits_env _ _ _, launch0.least_env, fairChoices_fair.cas, fairChoices_fair.clock, w_frames, w_args, w_heap, w_applies, trivial, trivial, w_case⟩
end start1
theorem witness_1 : WitnessClaimed_1 := ⟨start1.p0, start1.e0, start1.about1, start1.theMethod, start1.args0, start1.below0, start1.atStart⟩
end Jvm.Pilot.@@N@@

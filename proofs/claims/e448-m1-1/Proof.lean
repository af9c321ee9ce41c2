import JvmDerived
import JvmDerived.Pilot.@@N@@Statement
import JvmDerived.Pilot.@@N@@Code
set_option linter.unusedVariables false
set_option linter.unusedSimpArgs false
@@BLOCK:NumsL.lean.txt@@
@@BLOCK:Masks.lean.txt@@
namespace Jvm.RoadKit
open Sem ClassFile Op Lib Jvm.Stand Jvm.Free Jvm.LawKit
section New
variable {p : Program} {l : Launch} {e : Env} {R : Room} {s : State} {m : MethodId} {args : Array Value} {below : List Frame} {meth : Method} {c : Code} {T : State} {locs : List Loc} {cells slots : Nat}
theorem retI (X : Stand p l e R s m args below meth c T locs cells slots) (hx : p.tables.exec = Jvm.exec) {pc : Nat} {Ls : Array Slot} {z : Int32} {rest : List Value} (hret : meth.sig.returnType = some .int) (hd : decode c.code pc = .ok (.ireturn, 1)) {fs : List Frame}
    (hl : ∀ (f : JFrame) (acts : List Action), f.method = m → f.locked = none → f.entered = [] → (doReturn e (T.setTop f) acts (some (.int z))).1 = T.setFrames fs) : Steps p.tables e below (T.setTop (mkF m pc Ls (.int z :: rest))) (T.setFrames fs) := by
  have hm' : T.vm.method? m = some meth := X.method'
  have hn : narrow .int (.int z) = .int z := rfl
  show Steps p.tables e below (T.setTop { method := m, pc := pc, locals := Ls, stack := _ :: rest, locked := none }) _
  jvm_step X.here [X.here.top, hx, hd, hm', hret, hn]
  first | (intro acts; rw [hl _ acts rfl rfl rfl]) | rw [hl _ _ rfl rfl rfl]
  exact Steps.refl _
end New
end Jvm.RoadKit
namespace Jvm.Pilot.@@N@@
open Jvm Jvm.ClassFile Sem Op Lib Jvm.Free Jvm.Stand Jvm.LawKit Jvm.RoadKit Bundle Jvm.Pilot.@@N@@.Jvm.D
-- a layer of my own over the library's laws: a point of a walk (own_W), its end (own_G), a body's contract (own_M)
abbrev OwnK : Type := Program × Launch × Env × State × MethodId × Array Value × List Frame × Method × Code × State
abbrev OwnB : Type := MethodName × ByteArray × Nat × Option FieldType × Room
abbrev OwnB.y (B : OwnB) : MethodName := B.1
abbrev OwnB.bytes (B : OwnB) : ByteArray := B.2.1
abbrev OwnB.ml (B : OwnB) : Nat := B.2.2.1
abbrev OwnB.ret (B : OwnB) : Option FieldType := B.2.2.2.1
abbrev OwnB.rm (B : OwnB) : Room := B.2.2.2.2
def own_W (K : OwnK) (B : OwnB) (Z : State) (n0 : Nat) (h : Heap) (ck cs pc : Nat) (L : Array Slot) (S : List Value) : Prop :=
  match K with
  | (p, l, e, s, m, args, below, meth, c, start) =>
    p.tables.exec = Jvm.exec ∧ Z.Warmed39 s.vm ∧ s.vm.findClass B.y.cls = some m.cls ∧ meth.name = B.y.name ∧ c.code = B.bytes ∧ c.maxLocals = B.ml ∧ meth.sig.returnType = B.ret ∧ meth.locks = false ∧ n0 ≤ h.size ∧
      ∃ (T : State) (locs : List Loc), Stand p l e B.rm s m args below meth c T locs ck cs ∧ T.heap = h ∧ Fr n0 locs ∧
        ∀ tg, Steps p.tables e below (T.setTop (mkF m pc L S)) tg → Steps p.tables e below start tg
def own_G (K : OwnK) (n0 ck cs : Nat) (Q : Option Value → Heap → Prop) : Prop :=
  match K with
  | (p, _, e, s, _, _, below, _, _, start) =>
    ∃ s₂ o, Steps p.tables e below start s₂ ∧ s₂.status = .running ∧ Ended s₂ below o ∧
      ∃ v L, o = .returned v ∧ (Q v s₂.heap ∧ Fr n0 L ∧ n0 ≤ s₂.heap.size) ∧ FrameEnd s o s₂ L ck cs
def own_M (l : Launch) (Z : State) (n0 : Nat) (B : OwnB) (as : Array Value) (h : Heap) (Q : Option Value → Heap → Prop) : Prop :=
  ∀ ws : List Jvm.Cond, MetFree l B.y (head1 (Jvm.Cond.code B.y B.bytes B.ml B.ret :: ws) B.rm) (fun a U => a = as ∧ Z.Warmed39 U.vm ∧ U.heap = h) (fun _ _ _ _ _ => True)
    (fun _ U o U' => ∃ v L, o = .returned v ∧ (Q v U'.heap ∧ Fr n0 L ∧ n0 ≤ U'.heap.size) ∧ FrameEnd U o U' L B.rm.cells B.rm.slots)
theorem own_enter {l : Launch} {Z : State} {n0 : Nat} {B : OwnB} {as : Array Value} {h : Heap} {Q : Option Value → Heap → Prop} (hn0 : n0 ≤ h.size) (pn : plainName B.y.cls = true) {L0 : Array Slot} (ef : ∀ m, entryFrame m as B.ml = mkF m 0 L0 [])
    (body : ∀ K, own_W K B Z n0 h 0 0 0 L0 [] → own_G K n0 B.rm.cells B.rm.slots Q) : own_M l Z n0 B as h Q := by
  intro ws
  refine MetFree.of_bodySF (plainFor_of_name pn) hisR ?_
  intro p e s m args below meth c s₁ Bd hml0 hP hK
  obtain ⟨rfl, hZ, hh⟩ := hP
  exact body (p, l, e, s, m, args, below, meth, c, s₁.setTop (entryFrame m args B.ml)) ⟨Bd.exec, hZ, findClass_of_methodNamed Bd.named, (name_of_methodNamed Bd.named Bd.method).1, Bd.bytes, hml0, Bd.returns, Bd.notSynchronized, hn0, s₁, [], Stand.of_body Bd, by rw [← hh, Bd.state]; rfl, Fr.nil n0, fun t k => castTop (ef m) k⟩
section Own
variable {K : OwnK} {B : OwnB} {Z : State} {n0 : Nat} {h : Heap} {ck cs pc : Nat} {L : Array Slot} {S : List Value} {a0 : Array Value}
theorem own_step {pc' : Nat} {L' : Array Slot} {S' : List Value} (w : own_W K B Z n0 h ck cs pc L S)
    (st : ∀ {p : Program} {l : Launch} {e : Env} {s : State} {m : MethodId} {args : Array Value} {below : List Frame} {meth : Method} {c : Code} {T : State} {locs : List Loc}, Stand p l e B.rm s m args below meth c T locs ck cs → p.tables.exec = Jvm.exec → Z.Warmed39 s.vm → s.vm.findClass B.y.cls = some m.cls → c.code = B.bytes → T.heap = h →
      ∀ tg, Steps p.tables e below (T.setTop (mkF m pc' L' S')) tg → Steps p.tables e below (T.setTop (mkF m pc L S)) tg) : own_W K B Z n0 h ck cs pc' L' S' := by
  obtain ⟨p, l, e, s, m, args, below, meth, c, start⟩ := K
  obtain ⟨hx, hZ, hown, hnm, hby, hml, hret, hlk, hn, T, locs, X, eT, N, pre⟩ := w
  exact ⟨hx, hZ, hown, hnm, hby, hml, hret, hlk, hn, T, locs, X, eT, N, fun tg k => pre tg (st X hx hZ hown hby eT tg k)⟩
theorem own_cast {pc' : Nat} {L' : Array Slot} {S' : List Value} {h' : Heap} {ck' cs' : Nat} (w : own_W K B Z n0 h ck cs pc L S) (e1 : h = h') (e2 : ck = ck') (e3 : cs = cs') (e4 : pc = pc') (e5 : L = L') (e6 : S = S') : own_W K B Z n0 h' ck' cs' pc' L' S' := by
  subst e1 e2 e3 e4 e5 e6; exact w
theorem own_size (w : own_W K B Z n0 h ck cs pc L S) : n0 ≤ h.size := by
  obtain ⟨p, l, e, s, m, args, below, meth, c, start⟩ := K
  exact w.2.2.2.2.2.2.2.2.1
theorem own_iloadN (w : own_W K B Z n0 h ck cs pc L S) {k : Fin 4} {v : Int32} (hd : decode B.bytes pc = .ok (.iload_n k, 1)) (hl : L[k.val]? = some (.val (.int v))) : own_W K B Z n0 h ck cs (pc + 1) L (.int v :: S) :=
  own_step w fun X hx _ _ hby _ tg kt => XS.iloadN X.here hx rfl (hb hby hd) hl kt
theorem own_iload (w : own_W K B Z n0 h ck cs pc L S) {k : Nat} {v : Int32} (hd : decode B.bytes pc = .ok (.iload k, 2)) (hl : L[k]? = some (.val (.int v))) : own_W K B Z n0 h ck cs (pc + 2) L (.int v :: S) :=
  own_step w fun X hx _ _ hby _ tg kt => XS.iload X.here hx rfl (hb hby hd) hl kt
theorem own_lloadN (w : own_W K B Z n0 h ck cs pc L S) {k : Fin 4} {v : Int64} (hd : decode B.bytes pc = .ok (.lload_n k, 1)) (hl : L[k.val]? = some (.val (.long v))) : own_W K B Z n0 h ck cs (pc + 1) L (.long v :: S) :=
  own_step w fun X hx _ _ hby _ tg kt => XS.lloadN X.here hx rfl (hb hby hd) hl kt
theorem own_lload (w : own_W K B Z n0 h ck cs pc L S) {k : Nat} {v : Int64} (hd : decode B.bytes pc = .ok (.lload k, 2)) (hl : L[k]? = some (.val (.long v))) : own_W K B Z n0 h ck cs (pc + 2) L (.long v :: S) :=
  own_step w fun X hx _ _ hby _ tg kt => XS.lload X.here hx rfl (hb hby hd) hl kt
theorem own_aloadN (w : own_W K B Z n0 h ck cs pc L S) {k : Fin 4} {a : Addr} (hd : decode B.bytes pc = .ok (.aload_n k, 1)) (hl : L[k.val]? = some (.val (.ref a))) : own_W K B Z n0 h ck cs (pc + 1) L (.ref a :: S) :=
  own_step w fun X hx _ _ hby _ tg kt => XS.aloadN X.here hx rfl (hb hby hd) hl rfl kt
theorem own_aload (w : own_W K B Z n0 h ck cs pc L S) {k : Nat} {a : Addr} (hd : decode B.bytes pc = .ok (.aload k, 2)) (hl : L[k]? = some (.val (.ref a))) : own_W K B Z n0 h ck cs (pc + 2) L (.ref a :: S) :=
  own_step w fun X hx _ _ hby _ tg kt => XS.aload X.here hx rfl (hb hby hd) hl rfl kt
theorem own_iconst (w : own_W K B Z n0 h ck cs pc L S) {i : Int} {v : Int32} (hd : decode B.bytes pc = .ok (.iconst i, 1)) (hv : Int32.ofInt i = v) : own_W K B Z n0 h ck cs (pc + 1) L (.int v :: S) := by
  subst hv; exact own_step w fun X hx _ _ hby _ tg kt => XS.iconst X.here hx rfl (hb hby hd) kt
theorem own_bipush (w : own_W K B Z n0 h ck cs pc L S) {i : Int} {v : Int32} (hd : decode B.bytes pc = .ok (.bipush i, 2)) (hv : (Int8.ofInt i).toInt32 = v) : own_W K B Z n0 h ck cs (pc + 2) L (.int v :: S) := by
  subst hv; exact own_step w fun X hx _ _ hby _ tg kt => XS.bipush X.here hx rfl (hb hby hd) kt
theorem own_sipush (w : own_W K B Z n0 h ck cs pc L S) {i : Int} {v : Int32} (hd : decode B.bytes pc = .ok (.sipush i, 3)) (hv : (Int16.ofInt i).toInt32 = v) : own_W K B Z n0 h ck cs (pc + 3) L (.int v :: S) := by
  subst hv; exact own_step w fun X hx _ _ hby _ tg kt => XS.sipush X.here hx rfl (hb hby hd) kt
theorem own_lconst (w : own_W K B Z n0 h ck cs pc L S) {k : Fin 2} {v : Int64} (hd : decode B.bytes pc = .ok (.lconst k, 1)) (hv : Int64.ofNat k = v) : own_W K B Z n0 h ck cs (pc + 1) L (.long v :: S) := by
  subst hv; exact own_step w fun X hx _ _ hby _ tg kt => XS.lconst X.here hx rfl (hb hby hd) kt
theorem own_ldc (w : own_W K B Z n0 h ck cs pc L S) {i : Nat} {v : Int32} (hd : decode B.bytes pc = .ok (.ldc i, 2)) (wc : (Jvm.Cond.constant B.y.cls i v).before a0 Z = true) : own_W K B Z n0 h ck cs (pc + 2) L (.int v :: S) :=
  own_step w fun X hx hZ hown hby _ tg kt => X.ldcInt (g := mkF _ pc L S) hx hown (mv hZ wc) rfl (hb hby hd) tg kt
theorem own_ldc2 (w : own_W K B Z n0 h ck cs pc L S) {i : Nat} {v : Int64} (hd : decode B.bytes pc = .ok (.ldc2_w i, 3)) (wc : (Jvm.Cond.constantLong B.y.cls i v).before a0 Z = true) : own_W K B Z n0 h ck cs (pc + 3) L (.long v :: S) :=
  own_step w fun X hx hZ hown hby _ tg kt => X.ldc2Long (g := mkF _ pc L S) hx hown (mv hZ wc) rfl (hb hby hd) tg kt
theorem own_dup {x : Value} (w : own_W K B Z n0 h ck cs pc L (x :: S)) (hd : decode B.bytes pc = .ok (.dup, 1)) (hc : x.category = 1) : own_W K B Z n0 h ck cs (pc + 1) L (x :: x :: S) :=
  own_step w fun X hx _ _ hby _ tg kt => XS.dup X.here hx rfl (hb hby hd) rfl hc kt
theorem own_istoreN {x : Int32} {L' : Array Slot} (w : own_W K B Z n0 h ck cs pc L (.int x :: S)) {k : Fin 4} (hd : decode B.bytes pc = .ok (.istore_n k, 1)) (hl : storeLocals L k.val (.int x) = some L') : own_W K B Z n0 h ck cs (pc + 1) L' S :=
  own_step w fun X hx _ _ hby _ tg kt => XS.istoreN X.here hx rfl (hb hby hd) rfl hl kt
theorem own_istore {x : Int32} {L' : Array Slot} (w : own_W K B Z n0 h ck cs pc L (.int x :: S)) {k : Nat} (hd : decode B.bytes pc = .ok (.istore k, 2)) (hl : storeLocals L k (.int x) = some L') : own_W K B Z n0 h ck cs (pc + 2) L' S :=
  own_step w fun X hx _ _ hby _ tg kt => XS.istore X.here hx rfl (hb hby hd) rfl hl kt
theorem own_lstoreN {x : Int64} {L' : Array Slot} (w : own_W K B Z n0 h ck cs pc L (.long x :: S)) {k : Fin 4} (hd : decode B.bytes pc = .ok (.lstore_n k, 1)) (hl : storeLocals L k.val (.long x) = some L') : own_W K B Z n0 h ck cs (pc + 1) L' S :=
  own_step w fun X hx _ _ hby _ tg kt => XS.lstoreN X.here hx rfl (hb hby hd) rfl hl kt
theorem own_lstore {x : Int64} {L' : Array Slot} (w : own_W K B Z n0 h ck cs pc L (.long x :: S)) {k : Nat} (hd : decode B.bytes pc = .ok (.lstore k, 2)) (hl : storeLocals L k (.long x) = some L') : own_W K B Z n0 h ck cs (pc + 2) L' S :=
  own_step w fun X hx _ _ hby _ tg kt => XS.lstore X.here hx rfl (hb hby hd) rfl hl kt
theorem own_astoreN {a : Addr} {L' : Array Slot} (w : own_W K B Z n0 h ck cs pc L (.ref a :: S)) {k : Fin 4} (hd : decode B.bytes pc = .ok (.astore_n k, 1)) (hl : storeLocals L k.val (.ref a) = some L') : own_W K B Z n0 h ck cs (pc + 1) L' S :=
  own_step w fun X hx _ _ hby _ tg kt => XS.astoreN X.here hx rfl (hb hby hd) rfl rfl hl kt
theorem own_astore {a : Addr} {L' : Array Slot} (w : own_W K B Z n0 h ck cs pc L (.ref a :: S)) {k : Nat} (hd : decode B.bytes pc = .ok (.astore k, 2)) (hl : storeLocals L k (.ref a) = some L') : own_W K B Z n0 h ck cs (pc + 2) L' S :=
  own_step w fun X hx _ _ hby _ tg kt => XS.astore X.here hx rfl (hb hby hd) rfl rfl hl kt
theorem own_iinc {x v : Int32} {L' : Array Slot} (w : own_W K B Z n0 h ck cs pc L S) {k : Nat} {c : Int} (hd : decode B.bytes pc = .ok (.iinc k c, 3)) (hl : L[k]? = some (.val (.int x))) (hv : Int32.ofInt c = v) (hl' : storeLocals L k (.int (x + v)) = some L') : own_W K B Z n0 h ck cs (pc + 3) L' S := by
  subst hv; exact own_step w fun X hx _ _ hby _ tg kt => XS.iinc X.here hx rfl (hb hby hd) hl hl' kt
theorem own_goto (w : own_W K B Z n0 h ck cs pc L S) {o : Int} {pc' : Nat} (hd : decode B.bytes pc = .ok (.goto o, 3)) (ho : 0 ≤ (pc : Int) + o) (hp : ((pc : Int) + o).toNat = pc') : own_W K B Z n0 h ck cs pc' L S :=
  own_step w fun X hx _ _ hby _ tg kt => XS.goto X.here hx rfl (pc0 := pc) rfl (hb hby hd) ho hp kt
theorem own_iadd {x : Int32} {y : Int32} (w : own_W K B Z n0 h ck cs pc L (.int y :: .int x :: S)) (hd : decode B.bytes pc = .ok (.iadd, 1)) : own_W K B Z n0 h ck cs (pc + 1) L (.int (x + y) :: S) :=
  own_step w fun X hx _ _ hby _ tg kt => XS.iadd X.here hx rfl (hb hby hd) rfl kt
theorem own_isub {x : Int32} {y : Int32} (w : own_W K B Z n0 h ck cs pc L (.int y :: .int x :: S)) (hd : decode B.bytes pc = .ok (.isub, 1)) : own_W K B Z n0 h ck cs (pc + 1) L (.int (x - y) :: S) :=
  own_step w fun X hx _ _ hby _ tg kt => XS.isub X.here hx rfl (hb hby hd) rfl kt
theorem own_imul {x : Int32} {y : Int32} (w : own_W K B Z n0 h ck cs pc L (.int y :: .int x :: S)) (hd : decode B.bytes pc = .ok (.imul, 1)) : own_W K B Z n0 h ck cs (pc + 1) L (.int (x * y) :: S) :=
  own_step w fun X hx _ _ hby _ tg kt => XS.imul X.here hx rfl (hb hby hd) rfl kt
theorem own_iand {x : Int32} {y : Int32} (w : own_W K B Z n0 h ck cs pc L (.int y :: .int x :: S)) (hd : decode B.bytes pc = .ok (.iand, 1)) : own_W K B Z n0 h ck cs (pc + 1) L (.int (x &&& y) :: S) :=
  own_step w fun X hx _ _ hby _ tg kt => XS.iand X.here hx rfl (hb hby hd) rfl kt
theorem own_ior {x : Int32} {y : Int32} (w : own_W K B Z n0 h ck cs pc L (.int y :: .int x :: S)) (hd : decode B.bytes pc = .ok (.ior, 1)) : own_W K B Z n0 h ck cs (pc + 1) L (.int (x ||| y) :: S) :=
  own_step w fun X hx _ _ hby _ tg kt => XS.ior X.here hx rfl (hb hby hd) rfl kt
theorem own_ixor {x : Int32} {y : Int32} (w : own_W K B Z n0 h ck cs pc L (.int y :: .int x :: S)) (hd : decode B.bytes pc = .ok (.ixor, 1)) : own_W K B Z n0 h ck cs (pc + 1) L (.int (x ^^^ y) :: S) :=
  own_step w fun X hx _ _ hby _ tg kt => XS.ixor X.here hx rfl (hb hby hd) rfl kt
theorem own_ishl {x : Int32} {y : Int32} (w : own_W K B Z n0 h ck cs pc L (.int y :: .int x :: S)) (hd : decode B.bytes pc = .ok (.ishl, 1)) : own_W K B Z n0 h ck cs (pc + 1) L (.int (x <<< (y &&& 31)) :: S) :=
  own_step w fun X hx _ _ hby _ tg kt => XS.ishl X.here hx rfl (hb hby hd) rfl kt
theorem own_iushr {x : Int32} {y : Int32} (w : own_W K B Z n0 h ck cs pc L (.int y :: .int x :: S)) (hd : decode B.bytes pc = .ok (.iushr, 1)) : own_W K B Z n0 h ck cs (pc + 1) L (.int (XT.ushr x y) :: S) :=
  own_step w fun X hx _ _ hby _ tg kt => XS.iushr X.here hx rfl (hb hby hd) rfl kt
theorem own_irem {x : Int32} {y : Int32} (w : own_W K B Z n0 h ck cs pc L (.int y :: .int x :: S)) (hd : decode B.bytes pc = .ok (.irem, 1)) (hy : y ≠ 0) : own_W K B Z n0 h ck cs (pc + 1) L (.int (x % y) :: S) :=
  own_step w fun X hx _ _ hby _ tg kt => iremM X hx rfl (hb hby hd) rfl hy kt
theorem own_ladd {x : Int64} {y : Int64} (w : own_W K B Z n0 h ck cs pc L (.long y :: .long x :: S)) (hd : decode B.bytes pc = .ok (.ladd, 1)) : own_W K B Z n0 h ck cs (pc + 1) L (.long (x + y) :: S) :=
  own_step w fun X hx _ _ hby _ tg kt => XS.ladd X.here hx rfl (hb hby hd) rfl kt
theorem own_lsub {x : Int64} {y : Int64} (w : own_W K B Z n0 h ck cs pc L (.long y :: .long x :: S)) (hd : decode B.bytes pc = .ok (.lsub, 1)) : own_W K B Z n0 h ck cs (pc + 1) L (.long (x - y) :: S) :=
  own_step w fun X hx _ _ hby _ tg kt => XS.lsub X.here hx rfl (hb hby hd) rfl kt
theorem own_land {x : Int64} {y : Int64} (w : own_W K B Z n0 h ck cs pc L (.long y :: .long x :: S)) (hd : decode B.bytes pc = .ok (.land, 1)) : own_W K B Z n0 h ck cs (pc + 1) L (.long (x &&& y) :: S) :=
  own_step w fun X hx _ _ hby _ tg kt => XS.land X.here hx rfl (hb hby hd) rfl kt
theorem own_lrem {x : Int64} {y : Int64} (w : own_W K B Z n0 h ck cs pc L (.long y :: .long x :: S)) (hd : decode B.bytes pc = .ok (.lrem, 1)) (hy : y ≠ 0) : own_W K B Z n0 h ck cs (pc + 1) L (.long (x - (x / y) * y) :: S) :=
  own_step w fun X hx _ _ hby _ tg kt => XS.lrem X.here hx rfl (hb hby hd) rfl hy kt
theorem own_lushr {x : Int64} {y : Int32} (w : own_W K B Z n0 h ck cs pc L (.int y :: .long x :: S)) (hd : decode B.bytes pc = .ok (.lushr, 1)) : own_W K B Z n0 h ck cs (pc + 1) L (.long (XT.ushrL x y) :: S) :=
  own_step w fun X hx _ _ hby _ tg kt => XT.lushr X.here hx rfl (hb hby hd) rfl kt
theorem own_i2l {x : Int32} (w : own_W K B Z n0 h ck cs pc L (.int x :: S)) (hd : decode B.bytes pc = .ok (.i2l, 1)) : own_W K B Z n0 h ck cs (pc + 1) L (.long (x.toInt64) :: S) :=
  own_step w fun X hx _ _ hby _ tg kt => XS.i2l X.here hx rfl (hb hby hd) rfl kt
theorem own_l2i {x : Int64} (w : own_W K B Z n0 h ck cs pc L (.long x :: S)) (hd : decode B.bytes pc = .ok (.l2i, 1)) : own_W K B Z n0 h ck cs (pc + 1) L (.int (x.toInt32) :: S) :=
  own_step w fun X hx _ _ hby _ tg kt => XS.l2i X.here hx rfl (hb hby hd) rfl kt
theorem own_i2b {x : Int32} (w : own_W K B Z n0 h ck cs pc L (.int x :: S)) (hd : decode B.bytes pc = .ok (.i2b, 1)) : own_W K B Z n0 h ck cs (pc + 1) L (.int (x.toInt8.toInt32) :: S) :=
  own_step w fun X hx _ _ hby _ tg kt => XS.i2b X.here hx rfl (hb hby hd) rfl kt
theorem own_i2c {x : Int32} (w : own_W K B Z n0 h ck cs pc L (.int x :: S)) (hd : decode B.bytes pc = .ok (.i2c, 1)) : own_W K B Z n0 h ck cs (pc + 1) L (.int (x.toUInt32.toUInt16.toUInt32.toInt32) :: S) :=
  own_step w fun X hx _ _ hby _ tg kt => XS.i2c X.here hx rfl (hb hby hd) rfl kt
/-- what a comparison asks of two Ints, and its contrary -/
def own_cd : ClassFile.Cond → Int → Int → Prop
  | .eq, a, b => a = b
  | .ne, a, b => ¬ a = b
  | .lt, a, b => a < b
  | .ge, a, b => ¬ a < b
  | .gt, a, b => b < a
  | .le, a, b => ¬ b < a
def own_cn : ClassFile.Cond → Int → Int → Prop
  | .eq, a, b => ¬ a = b
  | .ne, a, b => a = b
  | .lt, a, b => ¬ a < b
  | .ge, a, b => a < b
  | .gt, a, b => ¬ b < a
  | .le, a, b => b < a
theorem own_yes {x y : Int32} {a b : Int} {cd : ClassFile.Cond} (hx : x.toInt = a) (hy : y.toInt = b) (hc : own_cd cd a b) : if_icmp.holds cd x y = true := by
  subst hx hy
  cases cd with
  | eq => exact (teq (Int32.toInt_inj.mp hc)).1
  | ne => exact (feq (fun q => hc (congrArg _ q))).2
  | lt => exact (tlt (Int32.lt_iff_toInt_lt.mpr hc)).1
  | ge => exact (flt (fun q => hc (Int32.lt_iff_toInt_lt.mp q))).2.1
  | gt => exact (tlt (Int32.lt_iff_toInt_lt.mpr hc)).2.2.1
  | le => exact (flt (fun q => hc (Int32.lt_iff_toInt_lt.mp q))).2.2.2
theorem own_no {x y : Int32} {a b : Int} {cd : ClassFile.Cond} (hx : x.toInt = a) (hy : y.toInt = b) (hc : own_cn cd a b) : if_icmp.holds cd x y = false := by
  subst hx hy
  cases cd with
  | eq => exact (feq (fun q => hc (congrArg _ q))).1
  | ne => exact (teq (Int32.toInt_inj.mp hc)).2
  | lt => exact (flt (fun q => hc (Int32.lt_iff_toInt_lt.mp q))).1
  | ge => exact (tlt (Int32.lt_iff_toInt_lt.mpr hc)).2.1
  | gt => exact (flt (fun q => hc (Int32.lt_iff_toInt_lt.mp q))).2.2.1
  | le => exact (tlt (Int32.lt_iff_toInt_lt.mpr hc)).2.2.2
theorem own_icmpY {x y : Int32} (w : own_W K B Z n0 h ck cs pc L (.int y :: .int x :: S)) {cd : ClassFile.Cond} {o : Int} {pc' : Nat} (hd : decode B.bytes pc = .ok (.if_icmp cd o, 3)) {a b : Int} (hx : x.toInt = a) (hy : y.toInt = b) (hc : own_cd cd a b) (ho : 0 ≤ (pc : Int) + o) (hp : ((pc : Int) + o).toNat = pc') : own_W K B Z n0 h ck cs pc' L S :=
  own_step w fun X hx' _ _ hby _ tg kt => XS.icmpYes X.here hx' rfl (pc0 := pc) rfl (hb hby hd) rfl (own_yes hx hy hc) ho hp kt
theorem own_icmpN {x y : Int32} (w : own_W K B Z n0 h ck cs pc L (.int y :: .int x :: S)) {cd : ClassFile.Cond} {o : Int} (hd : decode B.bytes pc = .ok (.if_icmp cd o, 3)) {a b : Int} (hx : x.toInt = a) (hy : y.toInt = b) (hc : own_cn cd a b) : own_W K B Z n0 h ck cs (pc + 3) L S :=
  own_step w fun X hx' _ _ hby _ tg kt => XS.icmpNo X.here hx' rfl (hb hby hd) rfl (own_no hx hy hc) kt
theorem own_ifY {x : Int32} (w : own_W K B Z n0 h ck cs pc L (.int x :: S)) {cd : ClassFile.Cond} {o : Int} {pc' : Nat} (hd : decode B.bytes pc = .ok (.ifCond cd o, 3)) {a : Int} (hx : x.toInt = a) (hc : own_cd cd a 0) (ho : 0 ≤ (pc : Int) + o) (hp : ((pc : Int) + o).toNat = pc') : own_W K B Z n0 h ck cs pc' L S :=
  own_step w fun X hx' _ _ hby _ tg kt => XS.ifYes X.here hx' rfl (pc0 := pc) rfl (hb hby hd) rfl ((if0 _ _).trans (own_yes (y := 0) hx rfl hc)) ho hp kt
theorem own_ifN {x : Int32} (w : own_W K B Z n0 h ck cs pc L (.int x :: S)) {cd : ClassFile.Cond} {o : Int} (hd : decode B.bytes pc = .ok (.ifCond cd o, 3)) {a : Int} (hx : x.toInt = a) (hc : own_cn cd a 0) : own_W K B Z n0 h ck cs (pc + 3) L S :=
  own_step w fun X hx' _ _ hby _ tg kt => XS.ifNo X.here hx' rfl (hb hby hd) rfl ((if0 _ _).trans (own_no (y := 0) hx rfl hc)) kt
theorem own_end {v : Option Value} {Q : Option Value → Heap → Prop} {gk gs : Nat} (w : own_W K B Z n0 h ck cs pc L S) (hv : B.ret = none → v = none) (hQ : Q v h) (hk : ck ≤ gk) (hs : cs ≤ gs)
    (st : ∀ {p : Program} {l : Launch} {e : Env} {s : State} {m : MethodId} {args : Array Value} {below : List Frame} {meth : Method} {c : Code} {T : State} {locs : List Loc} {fs : List Frame}, Stand p l e B.rm s m args below meth c T locs ck cs → p.tables.exec = Jvm.exec → meth.sig.returnType = B.ret → c.code = B.bytes →
      (∀ (f : JFrame) (acts : List Action), f.method = m → f.locked = none → f.entered = [] → (doReturn e (T.setTop f) acts v).1 = T.setFrames fs) → Steps p.tables e below (T.setTop (mkF m pc L S)) (T.setFrames fs)) : own_G K n0 gk gs Q := by
  obtain ⟨p, l, e, s, m, args, below, meth, c, start⟩ := K
  obtain ⟨hx, hZ, hown, hnm, hby, hml, hret, hlk, hn, T, locs, X, eT, N, pre⟩ := w
  obtain ⟨fs, hr, hrun, hended, hW, hsame⟩ := X.leave (v := v) (fun q => hv (hret.symm.trans q)) hlk
  refine ⟨_, _, pre _ (st X hx hret hby hr), hrun, hended, v, locs, rfl, ⟨?_, N, ?_⟩, ⟨_, rfl⟩, hW, hsame.mono hk hs⟩
  · show Q v T.heap
    rw [eT]; exact hQ
  · show n0 ≤ T.heap.size
    rw [eT]; exact hn
theorem own_retZ {z : Int32} {t : FieldType} {Q : Option Value → Heap → Prop} {gk gs : Nat} (w : own_W K B Z n0 h ck cs pc L (.int z :: S)) (hd : decode B.bytes pc = .ok (.ireturn, 1)) (hret : B.ret = some t) (ht : t = .boolean ∨ t = .byte ∨ t = .char ∨ t = .short) (hQ : Q (some (.int (nar t z))) h) (hk : ck ≤ gk) (hs : cs ≤ gs) : own_G K n0 gk gs Q :=
  own_end w (fun q => by rw [hret] at q; cases q) hQ hk hs fun X hx hr hby hl => retN X hx (hr.trans hret) ht (hb hby hd) hl
theorem own_retI {z : Int32} {Q : Option Value → Heap → Prop} {gk gs : Nat} (w : own_W K B Z n0 h ck cs pc L (.int z :: S)) (hd : decode B.bytes pc = .ok (.ireturn, 1)) (hret : B.ret = some .int) (hQ : Q (some (.int z)) h) (hk : ck ≤ gk) (hs : cs ≤ gs) : own_G K n0 gk gs Q :=
  own_end w (fun q => by rw [hret] at q; cases q) hQ hk hs fun X hx hr hby hl => retI X hx (hr.trans hret) (hb hby hd) hl
theorem own_retV {Q : Option Value → Heap → Prop} {gk gs : Nat} (w : own_W K B Z n0 h ck cs pc L []) (hd : decode B.bytes pc = .ok (.return_, 1)) (hret : B.ret = none) (hQ : Q none h) (hk : ck ≤ gk) (hs : cs ≤ gs) : own_G K n0 gk gs Q :=
  own_end w (fun _ => rfl) hQ hk hs fun X hx hr hby hl => X.returnOut hx (hr.trans hret) (hb hby hd) hl
theorem own_wk {Q Q' : Option Value → Heap → Prop} {gk gs : Nat} (g : own_G K n0 gk gs Q) (q : ∀ v h', Q v h' → Q' v h') : own_G K n0 gk gs Q' := by
  obtain ⟨p, l, e, s, m, args, below, meth, c, start⟩ := K
  obtain ⟨s₂, o, h1, h2, h3, v, L, h4, ⟨h5, h6⟩, h7⟩ := g
  exact ⟨s₂, o, h1, h2, h3, v, L, h4, ⟨q _ _ h5, h6⟩, h7⟩
/-- a static call, by the callee's contract -/
theorem own_callS {By : OwnB} {idx : Nat} {stk rest : List Value} {ps : List FieldType} {r : Option FieldType} {Q : Option Value → Heap → Prop} (as : List Value) (w : own_W K B Z n0 h ck cs pc L stk) (hS : stk = as.reverse ++ rest) (hd : decode B.bytes pc = .ok (.invokestatic idx, 3))
    (w1 : (Jvm.Cond.methodLink B.y.cls idx By.y).before a0 Z = true) (w2 : (Jvm.Cond.static By.y).before a0 Z = true) (w3 : (Jvm.Cond.initialized By.y.cls).before a0 Z = true) (w4 : (Jvm.Cond.code By.y By.bytes By.ml By.ret).before a0 Z = true)
    (hM : ∀ l, own_M l Z n0 By as.toArray h Q) (hy : By.y.cls ≠ "java/lang/invoke/MethodHandle" ∧ By.y.cls ≠ "java/lang/invoke/VarHandle") (hp : parseMethodDescriptor By.y.desc = some ⟨ps, r⟩) (hl : as.length = ps.length) (hsz : L.size = B.ml)
    (hf : By.rm.frames + 1 ≤ B.rm.frames) (hlo : (rest.map fun v => v.category).sum + (By.ml + 11) + By.rm.locals ≤ B.rm.locals) (hc : ck + By.rm.cells ≤ B.rm.cells) (hs : cs + By.rm.slots ≤ B.rm.slots) :
    ∃ v h', Q v h' ∧ own_W K B Z n0 h' (ck + By.rm.cells) (cs + By.rm.slots) (pc + 3) L (v.toList ++ rest) := by
  obtain ⟨p, l, e, s, m, args, below, meth, c, start⟩ := K
  obtain ⟨hx, hZ, hown, hnm, hby, hml, hret, hlk, hn, T, locs, X, eT, N, pre⟩ := w
  obtain ⟨v, _, ⟨T', L', k', n'⟩, -, X', ⟨Lc, hQ, l', y', z'⟩, st⟩ := Jvm.LawKit.callS X hx (y := By.y) hown (mvT hZ w1) (mvT hZ w2) (mvT hZ w3) (mvT hZ w4) hy (backOf (W := (rest.map fun v => v.category).sum) (Q := fun v h' L => Q v h' ∧ Fr n0 L ∧ n0 ≤ h'.size) (hM l []) hZ w4 w3 hf hlo) (g := mkF m pc L stk) rfl (by rw [hml]; exact hsz) (argsL := as) (rest := rest) (lenOf hp hl) hS (by show 2 * 0 + _ ≤ _; exact Nat.le_of_eq (by simp)) (hb hby hd) (fun _ _ => ⟨rfl, eT, hc, hs⟩)
  dsimp only [Pt.U, Pt.locs, Pt.cells, Pt.slots] at X' l' y' z' st hQ
  subst l' y' z'
  exact ⟨v, T'.heap, hQ.1, hx, hZ, hown, hnm, hby, hml, hret, hlk, hQ.2.2, T', _, X', rfl, N.app hQ.2.1, fun tg k => pre tg (st tg k)⟩
/-- a constructor, by its contract -/
theorem own_callI {By : OwnB} {idx : Nat} {stk rest : List Value} {ps : List FieldType} {r : Option FieldType} {Q : Option Value → Heap → Prop} (a : Addr) (as : List Value) (w : own_W K B Z n0 h ck cs pc L stk) (hS : stk = as.reverse ++ .ref a :: rest) (hd : decode B.bytes pc = .ok (.invokespecial idx, 3)) (hni : By.y.name = "<init>") (hnr : By.ret = none)
    (w1 : (Jvm.Cond.methodLink B.y.cls idx By.y).before a0 Z = true) (w2 : (Jvm.Cond.instanceMethod By.y).before a0 Z = true) (w3 : (Jvm.Cond.initialized By.y.cls).before a0 Z = true) (w4 : (Jvm.Cond.code By.y By.bytes By.ml By.ret).before a0 Z = true)
    (hM : ∀ l, own_M l Z n0 By (.ref a :: as).toArray h Q) (hy : By.y.cls ≠ "java/lang/invoke/MethodHandle" ∧ By.y.cls ≠ "java/lang/invoke/VarHandle") (hp : parseMethodDescriptor By.y.desc = some ⟨ps, r⟩) (hl : as.length = ps.length) (hsz : L.size = B.ml)
    (hf : By.rm.frames + 1 ≤ B.rm.frames) (hlo : (rest.map fun v => v.category).sum + (By.ml + 11) + By.rm.locals ≤ B.rm.locals) (hc : ck + By.rm.cells ≤ B.rm.cells) (hs : cs + By.rm.slots ≤ B.rm.slots) :
    ∃ v h', Q v h' ∧ own_W K B Z n0 h' (ck + By.rm.cells) (cs + By.rm.slots) (pc + 3) L (v.toList ++ rest) := by
  obtain ⟨p, l, e, s, m, args, below, meth, c, start⟩ := K
  obtain ⟨hx, hZ, hown, hnm, hby, hml, hret, hlk, hn, T, locs, X, eT, N, pre⟩ := w
  obtain ⟨v, _, ⟨T', L', k', n'⟩, -, X', ⟨Lc, hQ, l', y', z'⟩, st⟩ := X.specialBack hx (y := By.y) hni hown (mvT hZ w1) (mvT hZ w2) (mvT hZ (hnr ▸ w4)) hy (backOf (W := (rest.map fun v => v.category).sum) (Q := fun v h' L => Q v h' ∧ Fr n0 L ∧ n0 ≤ h'.size) (hM l []) hZ w4 w3 hf hlo) (g := mkF m pc L stk) rfl (by rw [hml]; exact hsz) (Steps.refl _) (a := a) (argsL := as) (rest := rest) (lenOf hp hl) hS (by show 2 * 0 + _ ≤ _; exact Nat.le_of_eq (by simp)) (hb hby hd) (fun _ _ => ⟨rfl, eT, hc, hs⟩)
  dsimp only [Pt.U, Pt.locs, Pt.cells, Pt.slots] at X' l' y' z' st hQ
  subst l' y' z'
  exact ⟨v, T'.heap, hQ.1, hx, hZ, hown, hnm, hby, hml, hret, hlk, hQ.2.2, T', _, X', rfl, N.app hQ.2.1, fun tg k => pre tg (st.trans k)⟩
/-- a nest mate's constructor, by its contract -/
theorem own_callN {By : OwnB} {host : String} {idx : Nat} {stk rest : List Value} {ps : List FieldType} {r : Option FieldType} {Q : Option Value → Heap → Prop} (a : Addr) (as : List Value) (w : own_W K B Z n0 h ck cs pc L stk) (hS : stk = as.reverse ++ .ref a :: rest) (hd : decode B.bytes pc = .ok (.invokespecial idx, 3)) (hni : By.y.name = "<init>") (hnr : By.ret = none)
    (w1 : (Jvm.Cond.methodLinkNest B.y.cls idx By.y host).before a0 Z = true) (w2 : (Jvm.Cond.instanceMethod By.y).before a0 Z = true) (w3 : (Jvm.Cond.initialized By.y.cls).before a0 Z = true) (w4 : (Jvm.Cond.code By.y By.bytes By.ml By.ret).before a0 Z = true)
    (hM : ∀ l, own_M l Z n0 By (.ref a :: as).toArray h Q) (hy : By.y.cls ≠ "java/lang/invoke/MethodHandle" ∧ By.y.cls ≠ "java/lang/invoke/VarHandle") (hp : parseMethodDescriptor By.y.desc = some ⟨ps, r⟩) (hl : as.length = ps.length) (hsz : L.size = B.ml)
    (hf : By.rm.frames + 1 ≤ B.rm.frames) (hlo : (rest.map fun v => v.category).sum + (By.ml + 11) + By.rm.locals ≤ B.rm.locals) (hc : ck + By.rm.cells ≤ B.rm.cells) (hs : cs + By.rm.slots ≤ B.rm.slots) :
    ∃ v h', Q v h' ∧ own_W K B Z n0 h' (ck + By.rm.cells) (cs + By.rm.slots) (pc + 3) L (v.toList ++ rest) := by
  obtain ⟨p, l, e, s, m, args, below, meth, c, start⟩ := K
  obtain ⟨hx, hZ, hown, hnm, hby, hml, hret, hlk, hn, T, locs, X, eT, N, pre⟩ := w
  obtain ⟨v, _, ⟨T', L', k', n'⟩, -, X', ⟨Lc, hQ, l', y', z'⟩, st⟩ := X.specialBackNest hx (y := By.y) (host := host) hni hown (Cond.methodLinkNest_wide hZ w1 :) (mvT hZ w2) (mvT hZ (hnr ▸ w4)) hy (backOf (W := (rest.map fun v => v.category).sum) (Q := fun v h' L => Q v h' ∧ Fr n0 L ∧ n0 ≤ h'.size) (hM l []) hZ w4 w3 hf hlo) (g := mkF m pc L stk) rfl (by rw [hml]; exact hsz) (Steps.refl _) (a := a) (argsL := as) (rest := rest) (lenOf hp hl) hS (by show 2 * 0 + _ ≤ _; exact Nat.le_of_eq (by simp)) (hb hby hd) (fun _ _ => ⟨rfl, eT, hc, hs⟩)
  dsimp only [Pt.U, Pt.locs, Pt.cells, Pt.slots] at X' l' y' z' st hQ
  subst l' y' z'
  exact ⟨v, T'.heap, hQ.1, hx, hZ, hown, hnm, hby, hml, hret, hlk, hQ.2.2, T', _, X', rfl, N.app hQ.2.1, fun tg k => pre tg (st.trans k)⟩
/-- an instance method of the object's own class, by its contract -/
theorem own_callV {By : OwnB} {idx : Nat} {stk rest : List Value} {ps : List FieldType} {r : Option FieldType} {Q : Option Value → Heap → Prop} (a : Addr) (as : List Value) (w : own_W K B Z n0 h ck cs pc L stk) (hS : stk = as.reverse ++ .ref a :: rest) (hd : decode B.bytes pc = .ok (.invokevirtual idx, 3)) (E : Exa Z h a By.y.cls)
    (w1 : (Jvm.Cond.methodLink B.y.cls idx By.y).before a0 Z = true) (wd : (Jvm.Cond.declares By.y).before a0 Z = true) (w2 : (Jvm.Cond.instanceMethod By.y).before a0 Z = true) (wsel : (Jvm.Cond.selects By.y.cls By.y By.y).before a0 Z = true) (w3 : (Jvm.Cond.initialized By.y.cls).before a0 Z = true) (w4 : (Jvm.Cond.code By.y By.bytes By.ml By.ret).before a0 Z = true)
    (hM : ∀ l, own_M l Z n0 By (.ref a :: as).toArray h Q) (hy : By.y.cls ≠ "java/lang/invoke/MethodHandle" ∧ By.y.cls ≠ "java/lang/invoke/VarHandle") (hp : parseMethodDescriptor By.y.desc = some ⟨ps, r⟩) (hl : as.length = ps.length) (hsz : L.size = B.ml)
    (hf : By.rm.frames + 1 ≤ B.rm.frames) (hlo : (rest.map fun v => v.category).sum + (By.ml + 11) + By.rm.locals ≤ B.rm.locals) (hc : ck + By.rm.cells ≤ B.rm.cells) (hs : cs + By.rm.slots ≤ B.rm.slots) :
    ∃ v h', Q v h' ∧ own_W K B Z n0 h' (ck + By.rm.cells) (cs + By.rm.slots) (pc + 3) L (v.toList ++ rest) := by
  obtain ⟨p, l, e, s, m, args, below, meth, c, start⟩ := K
  obtain ⟨hx, hZ, hown, hnm, hby, hml, hret, hlk, hn, T, locs, X, eT, N, pre⟩ := w
  obtain ⟨cq, kq, q1, q2, q3⟩ := isOf hZ eT E
  obtain ⟨v, _, ⟨T', L', k', n'⟩, -, X', ⟨Lc, hQ, l', y', z'⟩, st⟩ := X.virtualBack hx (y := By.y) (z := By.y) hown (mvT hZ w1) (mvT hZ wd) (notFace_of_selects (args := #[]) (mvT hZ wsel)) (mvT hZ wsel) (mvT hZ w2) hy (backOf (W := (rest.map fun v => v.category).sum) (Q := fun v h' L => Q v h' ∧ Fr n0 L ∧ n0 ≤ h'.size) (hM l []) hZ w4 w3 hf hlo) q1 q3 (g := mkF m pc L stk) rfl (by rw [hml]; exact hsz) (Steps.refl _) (argsL := as) (rest := rest) (lenOf hp hl) hS (by show 2 * 0 + _ ≤ _; exact Nat.le_of_eq (by simp)) (hb hby hd) (fun _ _ => ⟨rfl, eT, hc, hs⟩)
  dsimp only [Pt.U, Pt.locs, Pt.cells, Pt.slots] at X' l' y' z' st hQ
  subst l' y' z'
  exact ⟨v, T'.heap, hQ.1, hx, hZ, hown, hnm, hby, hml, hret, hlk, hQ.2.2, T', _, X', rfl, N.app hQ.2.1, fun tg k => pre tg (st.trans k)⟩
/-- Object.<init> -/
theorem own_initO {a : Addr} {idx : Nat} (w : own_W K B Z n0 h ck cs pc L (.ref a :: S)) (hd : decode B.bytes pc = .ok (.invokespecial idx, 3)) (w1 : (Jvm.Cond.methodLink B.y.cls idx Lib.objectInit).before a0 Z = true) (w2 : (Jvm.Cond.instanceMethod Lib.objectInit).before a0 Z = true)
    (w3 : (Jvm.Cond.code Lib.objectInit ⟨#[0xb1]⟩ 1 none).before a0 Z = true) (hsz : L.size = B.ml) (hf : 1 ≤ B.rm.frames) (hlo : (S.map fun v => v.category).sum + 12 ≤ B.rm.locals) : own_W K B Z n0 h ck cs (pc + 3) L S := by
  obtain ⟨p, l, e, s, m, args, below, meth, c, start⟩ := K
  obtain ⟨hx, hZ, hown, hnm, hby, hml, hret, hlk, hn, T, locs, X, eT, N, pre⟩ := w
  obtain ⟨T', X', e', st⟩ := initO X hx hZ hown w1 w2 w3 eT (g := mkF m pc L (.ref a :: S)) rfl (by rw [hml]; exact hsz) rfl (hb hby hd) hf (W := (S.map fun v => v.category).sum) (by show 2 * 0 + _ ≤ _; exact Nat.le_of_eq (by simp)) hlo
  exact ⟨hx, hZ, hown, hnm, hby, hml, hret, hlk, hn, T', locs, X', e', N, fun tg k => pre tg (st tg k)⟩
theorem own_getF {a : Addr} {idx : Nat} {O n d : String} {v : Value} (w : own_W K B Z n0 h ck cs pc L (.ref a :: S)) (hd : decode B.bytes pc = .ok (.getfield idx, 3)) (wl : (Jvm.Cond.fieldLink B.y.cls idx O n d).before a0 Z = true) (F : Fld Z h a O n d v) : own_W K B Z n0 h ck cs (pc + 3) L (v :: S) := by
  obtain ⟨p, l, e, s, m, args, below, meth, c, start⟩ := K
  obtain ⟨hx, hZ, hown, hnm, hby, hml, hret, hlk, hn, T, locs, X, eT, N, pre⟩ := w
  obtain ⟨T', X', e', st⟩ := getF X hx hZ hown (host := "") (Or.inl wl) Via.refl eT F (g := mkF m pc L (.ref a :: S)) rfl rfl (hb hby hd)
  exact ⟨hx, hZ, hown, hnm, hby, hml, hret, hlk, hn, T', locs, X', e', N, fun tg k => pre tg (st tg k)⟩
/-- putfield of a final field in a constructor of its class -/
theorem own_putF {a : Addr} {idx kk : Nat} {n d : String} {v old : Value} {ty : FieldType} (w : own_W K B Z n0 h ck cs pc L (v :: .ref a :: S)) (hd : decode B.bytes pc = .ok (.putfield idx, 3)) (wl : (Jvm.Cond.fieldLink B.y.cls idx B.y.cls n d).before a0 Z = true) (F : Fld Z h a B.y.cls n d old) (E : Exa Z h a B.y.cls)
    (wf : (Jvm.Cond.laysFinal B.y.cls B.y.cls n d).before a0 Z = true) (wi : (Jvm.Cond.instantiable B.y.cls kk).before a0 Z = true) (hni : B.y.name = "<init>") (hty : parseFieldDescriptor d = some ty) (hnr : narrow ty v = v) (hft : fits ty v = true) (ga : n0 ≤ a) :
    ∃ h', own_W K B Z n0 h' ck cs (pc + 3) L S ∧ Fld Z h' a B.y.cls n d v ∧ Keep h h' [a] := by
  obtain ⟨p, l, e, s, m, args, below, meth, c, start⟩ := K
  obtain ⟨hx, hZ, hown, hnm, hby, hml, hret, hlk, hn, T, locs, X, eT, N, pre⟩ := w
  obtain ⟨T', h', X', e', W', st⟩ := putF X hx hZ hown (host := "") (Or.inl wl) Via.refl eT F E (Or.inr ⟨wf, rfl, hnm.trans hni⟩) wi hty hnr hft (g := mkF m pc L (v :: .ref a :: S)) rfl rfl (hb hby hd)
  exact ⟨h', ⟨hx, hZ, hown, hnm, hby, hml, hret, hlk, by rw [W'.size]; exact hn, T', _, X', e', Fr.snoc X' N ga, fun tg k => pre tg (st tg k)⟩, F.same W', Keep.of_wr W'⟩
theorem own_newO {idx k : Nat} {C : String} (w : own_W K B Z n0 h ck cs pc L S) (hd : decode B.bytes pc = .ok (.new idx, 3)) (wl : (Jvm.Cond.classLink B.y.cls idx C).before a0 Z = true) (wi : (Jvm.Cond.instantiable C k).before a0 Z = true) (wz : (Jvm.Cond.initialized C).before a0 Z = true) (hc : ck + 1 ≤ B.rm.cells) (hs : cs + k ≤ B.rm.slots) :
    ∃ h' a, own_W K B Z n0 h' (ck + 1) (cs + k) (pc + 3) L (.ref a :: S) ∧ a = h.size ∧ n0 ≤ a ∧ Ext h h' ∧ Exa Z h' a C ∧ (∀ {O nm d : String} {ty : FieldType}, Laid Z a0 C O nm d → parseFieldDescriptor d = some ty → Fld Z h' a O nm d (defaultValue ty)) := by
  obtain ⟨p, l, e, s, m, args, below, meth, c, start⟩ := K
  obtain ⟨hx, hZ, hown, hnm, hby, hml, hret, hlk, hn, T, locs, X, eT, N, pre⟩ := w
  obtain ⟨T', h', X', e', E, A, D, -, st⟩ := newO X hx hZ hown wl wi wz eT (g := mkF m pc L S) rfl (hb hby hd) hc hs
  exact ⟨h', h.size, ⟨hx, hZ, hown, hnm, hby, hml, hret, hlk, Nat.le_trans hn E.1, T', _, X', e', N, fun tg k => pre tg (st tg k)⟩, rfl, hn, E, A, D⟩
/-- an array of ints, bytes or chars, and what it holds -/
def own_A (ty : FieldType) (Z : State) (h : Heap) (a : Addr) (l : List Int32) : Prop := ∃ c : Cell, Arr Z h a c ty ∧ c.slots.size = l.length ∧ l.length < 2 ^ 31 ∧ ∀ i, i < l.length → c.slots[i]? = some (.int (l.getD i 0))
def own_J (Z : State) (h : Heap) (a : Addr) (l : List Int64) : Prop := ∃ c : Cell, Arr Z h a c .long ∧ c.slots.size = l.length ∧ l.length < 2 ^ 31 ∧ ∀ i, i < l.length → c.slots[i]? = some (.long (l.getD i 0))
variable {ty : FieldType} {a b : Addr} {l : List Int32} {lj : List Int64} {h' : Heap}
theorem own_Alt (A : own_A ty Z h a l) : a < h.size := by obtain ⟨c, A, -⟩ := A; exact A.lt
theorem own_Jlt (A : own_J Z h a lj) : a < h.size := by obtain ⟨c, A, -⟩ := A; exact A.lt
theorem own_Aext (A : own_A ty Z h a l) (E : Ext h h') : own_A ty Z h' a l := by obtain ⟨c, A, r⟩ := A; exact ⟨c, A.ext E, r⟩
theorem own_Jext (A : own_J Z h a lj) (E : Ext h h') : own_J Z h' a lj := by obtain ⟨c, A, r⟩ := A; exact ⟨c, A.ext E, r⟩
theorem own_Akeep {ws : List Addr} (A : own_A ty Z h a l) (K : Keep h h' ws) (q : a ∉ ws) : own_A ty Z h' a l := by obtain ⟨c, A, r⟩ := A; exact ⟨c, ⟨K.2.1 a c A.1 q, A.2⟩, r⟩
theorem own_Jkeep {ws : List Addr} (A : own_J Z h a lj) (K : Keep h h' ws) (q : a ∉ ws) : own_J Z h' a lj := by obtain ⟨c, A, r⟩ := A; exact ⟨c, ⟨K.2.1 a c A.1 q, A.2⟩, r⟩
theorem own_nin {x y : Addr} (q : x ≠ y) : x ∉ [y] := ninS q nin0
theorem own_clamp {j : Int32} {i : Nat} (e : j.toInt = i) : j.toNatClampNeg = i := by rw [Int32.toNatClampNeg, e]; rfl
theorem own_inb {j : Int32} {i n : Nat} (e : j.toInt = i) (q : i < n) : ¬ (j < 0 ∨ n ≤ j.toNatClampNeg) := by
  rw [own_clamp e, Int32.lt_iff_toInt_lt, e]
  have : (0 : Int32).toInt = 0 := rfl
  omega
theorem own_setD {l : List Int32} {i : Nat} {x : Int32} (k : Nat) (hk : k < l.length) : (l.set i x).getD k 0 = if i = k then x else l.getD k 0 := by
  simp only [List.getD_eq_getElem?_getD, List.getElem?_set]
  split
  · subst_vars; simp [hk]
  · rfl
theorem own_setJ {l : List Int64} {i : Nat} {x : Int64} (k : Nat) (hk : k < l.length) : (l.set i x).getD k 0 = if i = k then x else l.getD k 0 := by
  simp only [List.getD_eq_getElem?_getD, List.getElem?_set]
  split
  · subst_vars; simp [hk]
  · rfl
theorem own_Aset {c : Cell} {i : Nat} {j x : Int32} (A : Arr Z h a c ty) (hs : c.slots.size = l.length) (hb : l.length < 2 ^ 31) (H : ∀ i, i < l.length → c.slots[i]? = some (.int (l.getD i 0))) (W : Wr h h' a j.toNatClampNeg (.int x)) (e : j.toInt = i) (hi : i < l.length) : own_A ty Z h' a (l.set i x) := by
  refine ⟨_, A.same W, by rw [sz_set, List.length_set]; exact hs, by rw [List.length_set]; exact hb, fun k hk => ?_⟩
  rw [List.length_set] at hk
  rw [own_setD k hk, own_clamp e]
  by_cases u : i = k
  · subst u; simp [Cell.setSlot, hs, hk]
  · rw [if_neg u, ← H k hk]
    exact Array.getElem?_setIfInBounds_ne u
theorem own_Jset {c : Cell} {i : Nat} {j : Int32} {x : Int64} (A : Arr Z h a c .long) (hs : c.slots.size = lj.length) (hb : lj.length < 2 ^ 31) (H : ∀ i, i < lj.length → c.slots[i]? = some (.long (lj.getD i 0))) (W : Wr h h' a j.toNatClampNeg (.long x)) (e : j.toInt = i) (hi : i < lj.length) : own_J Z h' a (lj.set i x) := by
  refine ⟨_, A.same W, by rw [sz_set, List.length_set]; exact hs, by rw [List.length_set]; exact hb, fun k hk => ?_⟩
  rw [List.length_set] at hk
  rw [own_setJ k hk, own_clamp e]
  by_cases u : i = k
  · subst u; simp [Cell.setSlot, hs, hk]
  · rw [if_neg u, ← H k hk]
    exact Array.getElem?_setIfInBounds_ne u
theorem own_iastore {j x : Int32} (w : own_W K B Z n0 h ck cs pc L (.int x :: .int j :: .ref a :: S)) (hd : decode B.bytes pc = .ok (.iastore, 1)) (A : own_A .int Z h a l) (i : Nat) (e : j.toInt = i) (hi : i < l.length) (ga : n0 ≤ a) {l' : List Int32} (el : l.set i x = l') :
    ∃ h', own_W K B Z n0 h' ck cs (pc + 1) L S ∧ own_A .int Z h' a l' ∧ Keep h h' [a] := by
  subst el
  obtain ⟨p, l, e', s, m, args, below, meth, c, start⟩ := K
  obtain ⟨hx, hZ, hown, hnm, hby, hml, hret, hlk, hn, T, locs, X, eT, N, pre⟩ := w
  obtain ⟨cl, Ar, hs, hb1, H⟩ := A
  obtain ⟨T', h', X', e1, W', st⟩ := stI X hx hZ eT Ar (j := j) (own_inb e (by rw [hs]; exact hi)) (g := mkF m pc L (.int x :: .int j :: .ref a :: S)) rfl rfl (hb hby hd)
  exact ⟨h', ⟨hx, hZ, hown, hnm, hby, hml, hret, hlk, by rw [W'.size]; exact hn, T', _, X', e1, Fr.snoc X' N ga, fun tg k => pre tg (st tg k)⟩, own_Aset Ar hs hb1 H W' e hi, Keep.of_wr W'⟩
theorem own_bastore {j x : Int32} (w : own_W K B Z n0 h ck cs pc L (.int x :: .int j :: .ref a :: S)) (hd : decode B.bytes pc = .ok (.bastore, 1)) (A : own_A .byte Z h a l) (i : Nat) (e : j.toInt = i) (hi : i < l.length) (ga : n0 ≤ a) {l' : List Int32} (el : l.set i (nar .byte x) = l') :
    ∃ h', own_W K B Z n0 h' ck cs (pc + 1) L S ∧ own_A .byte Z h' a l' ∧ Keep h h' [a] := by
  subst el
  obtain ⟨p, l, e', s, m, args, below, meth, c, start⟩ := K
  obtain ⟨hx, hZ, hown, hnm, hby, hml, hret, hlk, hn, T, locs, X, eT, N, pre⟩ := w
  obtain ⟨cl, Ar, hs, hb1, H⟩ := A
  obtain ⟨T', h', X', e1, W', st⟩ := stB X hx hZ eT Ar (j := j) (own_inb e (by rw [hs]; exact hi)) (g := mkF m pc L (.int x :: .int j :: .ref a :: S)) rfl rfl (hb hby hd)
  exact ⟨h', ⟨hx, hZ, hown, hnm, hby, hml, hret, hlk, by rw [W'.size]; exact hn, T', _, X', e1, Fr.snoc X' N ga, fun tg k => pre tg (st tg k)⟩, own_Aset Ar hs hb1 H W' e hi, Keep.of_wr W'⟩
theorem own_castore {j x : Int32} (w : own_W K B Z n0 h ck cs pc L (.int x :: .int j :: .ref a :: S)) (hd : decode B.bytes pc = .ok (.castore, 1)) (A : own_A .char Z h a l) (i : Nat) (e : j.toInt = i) (hi : i < l.length) (ga : n0 ≤ a) {l' : List Int32} (el : l.set i (nar .char x) = l') :
    ∃ h', own_W K B Z n0 h' ck cs (pc + 1) L S ∧ own_A .char Z h' a l' ∧ Keep h h' [a] := by
  subst el
  obtain ⟨p, l, e', s, m, args, below, meth, c, start⟩ := K
  obtain ⟨hx, hZ, hown, hnm, hby, hml, hret, hlk, hn, T, locs, X, eT, N, pre⟩ := w
  obtain ⟨cl, Ar, hs, hb1, H⟩ := A
  obtain ⟨T', h', X', e1, W', st⟩ := stC X hx hZ eT Ar (j := j) (own_inb e (by rw [hs]; exact hi)) (g := mkF m pc L (.int x :: .int j :: .ref a :: S)) rfl rfl (hb hby hd)
  exact ⟨h', ⟨hx, hZ, hown, hnm, hby, hml, hret, hlk, by rw [W'.size]; exact hn, T', _, X', e1, Fr.snoc X' N ga, fun tg k => pre tg (st tg k)⟩, own_Aset Ar hs hb1 H W' e hi, Keep.of_wr W'⟩
theorem own_lastore {j : Int32} {x : Int64} (w : own_W K B Z n0 h ck cs pc L (.long x :: .int j :: .ref a :: S)) (hd : decode B.bytes pc = .ok (.lastore, 1)) (A : own_J Z h a lj) (i : Nat) (e : j.toInt = i) (hi : i < lj.length) (ga : n0 ≤ a) {l' : List Int64} (el : lj.set i x = l') :
    ∃ h', own_W K B Z n0 h' ck cs (pc + 1) L S ∧ own_J Z h' a l' ∧ Keep h h' [a] := by
  subst el
  obtain ⟨p, l, e', s, m, args, below, meth, c, start⟩ := K
  obtain ⟨hx, hZ, hown, hnm, hby, hml, hret, hlk, hn, T, locs, X, eT, N, pre⟩ := w
  obtain ⟨cl, Ar, hs, hb1, H⟩ := A
  obtain ⟨T', h', X', e1, W', st⟩ := stJ X hx hZ eT Ar (j := j) (own_inb e (by rw [hs]; exact hi)) (g := mkF m pc L (.long x :: .int j :: .ref a :: S)) rfl rfl (hb hby hd)
  exact ⟨h', ⟨hx, hZ, hown, hnm, hby, hml, hret, hlk, by rw [W'.size]; exact hn, T', _, X', e1, Fr.snoc X' N ga, fun tg k => pre tg (st tg k)⟩, own_Jset Ar hs hb1 H W' e hi, Keep.of_wr W'⟩
theorem own_iaload {j : Int32} (w : own_W K B Z n0 h ck cs pc L (.int j :: .ref a :: S)) (hd : decode B.bytes pc = .ok (.iaload, 1)) (A : own_A .int Z h a l) (i : Nat) (e : j.toInt = i) (hi : i < l.length) {v : Int32} (ev : l.getD i 0 = v) : own_W K B Z n0 h ck cs (pc + 1) L (.int v :: S) := by
  obtain ⟨cl, Ar, hs, hb1, H⟩ := A
  exact own_step w fun X hx hZ _ hby eT tg kt => X.iaload hx (cell := cl) (j := j) (v := .int v) (by rw [eT]; exact Ar.1) (State.isArrayOf_alike hZ.alike Ar.2.1) Ar.2.2 (own_inb e (by rw [hs]; exact hi)) (by rw [own_clamp e, H i hi, ev]) (g := mkF _ pc L (.int j :: .ref a :: S)) rfl rfl (hb hby hd) tg kt
theorem own_baload {j : Int32} (w : own_W K B Z n0 h ck cs pc L (.int j :: .ref a :: S)) (hd : decode B.bytes pc = .ok (.baload, 1)) (A : own_A .byte Z h a l) (i : Nat) (e : j.toInt = i) (hi : i < l.length) {v : Int32} (ev : l.getD i 0 = v) : own_W K B Z n0 h ck cs (pc + 1) L (.int v :: S) := by
  obtain ⟨cl, Ar, hs, hb1, H⟩ := A
  exact own_step w fun X hx hZ _ hby eT tg kt => X.baloadBytes hx (cell := cl) (j := j) (v := .int v) (by rw [eT]; exact Ar.1) (State.isArrayOf_alike hZ.alike Ar.2.1) Ar.2.2 (own_inb e (by rw [hs]; exact hi)) (by rw [own_clamp e, H i hi, ev]) (g := mkF _ pc L (.int j :: .ref a :: S)) rfl rfl (hb hby hd) tg kt
theorem own_caload {j : Int32} (w : own_W K B Z n0 h ck cs pc L (.int j :: .ref a :: S)) (hd : decode B.bytes pc = .ok (.caload, 1)) (A : own_A .char Z h a l) (i : Nat) (e : j.toInt = i) (hi : i < l.length) {v : Int32} (ev : l.getD i 0 = v) : own_W K B Z n0 h ck cs (pc + 1) L (.int v :: S) := by
  obtain ⟨cl, Ar, hs, hb1, H⟩ := A
  exact own_step w fun X hx hZ _ hby eT tg kt => X.caload hx (cell := cl) (j := j) (v := .int v) (by rw [eT]; exact Ar.1) (State.isArrayOf_alike hZ.alike Ar.2.1) Ar.2.2 (own_inb e (by rw [hs]; exact hi)) (by rw [own_clamp e, H i hi, ev]) (g := mkF _ pc L (.int j :: .ref a :: S)) rfl rfl (hb hby hd) tg kt
theorem own_laload {j : Int32} (w : own_W K B Z n0 h ck cs pc L (.int j :: .ref a :: S)) (hd : decode B.bytes pc = .ok (.laload, 1)) (A : own_J Z h a lj) (i : Nat) (e : j.toInt = i) (hi : i < lj.length) {v : Int64} (ev : lj.getD i 0 = v) : own_W K B Z n0 h ck cs (pc + 1) L (.long v :: S) := by
  obtain ⟨cl, Ar, hs, hb1, H⟩ := A
  exact own_step w fun X hx hZ _ hby eT tg kt => X.laload hx (cell := cl) (j := j) (v := .long v) (by rw [eT]; exact Ar.1) (State.isArrayOf_alike hZ.alike Ar.2.1) Ar.2.2 (own_inb e (by rw [hs]; exact hi)) (by rw [own_clamp e, H i hi, ev]) (g := mkF _ pc L (.int j :: .ref a :: S)) rfl rfl (hb hby hd) tg kt
theorem own_alen (w : own_W K B Z n0 h ck cs pc L (.ref a :: S)) (hd : decode B.bytes pc = .ok (.arraylength, 1)) (A : own_A ty Z h a l) : own_W K B Z n0 h ck cs (pc + 1) L (.int l.length.toInt32 :: S) := by
  obtain ⟨cl, Ar, hs, hb1, H⟩ := A
  exact own_step w fun X hx hZ _ hby eT tg kt => X.arraylength hx (cell := cl) (by rw [eT]; exact Ar.1) (State.isArrayOf_alike hZ.alike Ar.2.1) (g := mkF _ pc L (.ref a :: S)) rfl rfl (hb hby hd) tg (by rw [hs]; exact kt)
theorem own_alenJ (w : own_W K B Z n0 h ck cs pc L (.ref a :: S)) (hd : decode B.bytes pc = .ok (.arraylength, 1)) (A : own_J Z h a lj) : own_W K B Z n0 h ck cs (pc + 1) L (.int lj.length.toInt32 :: S) := by
  obtain ⟨cl, Ar, hs, hb1, H⟩ := A
  exact own_step w fun X hx hZ _ hby eT tg kt => X.arraylength hx (cell := cl) (by rw [eT]; exact Ar.1) (State.isArrayOf_alike hZ.alike Ar.2.1) (g := mkF _ pc L (.ref a :: S)) rfl rfl (hb hby hd) tg (by rw [hs]; exact kt)
theorem own_newP {aty : ArrayType} {n : Int32} (w : own_W K B Z n0 h ck cs pc L (.int n :: S)) (hd : decode B.bytes pc = .ok (.newarray aty, 2)) (wa : (Jvm.Cond.arrayClass (newarray.typeOf aty)).before a0 Z = true) (k cap : Nat) (e : n.toInt = k) (hk : k ≤ cap) (hcap : cap < 1000) (hc : ck + 1 ≤ B.rm.cells) (hs : cs + cap ≤ B.rm.slots) :
    ∃ h' a cA, own_W K B Z n0 h' (ck + 1) (cs + cap) (pc + 2) L (.ref a :: S) ∧ a = h.size ∧ n0 ≤ a ∧ Ext h h' ∧ Arr Z h' a (newA cA (newarray.typeOf aty) n) (newarray.typeOf aty) := by
  obtain ⟨p, l, e', s, m, args, below, meth, c, start⟩ := K
  obtain ⟨hx, hZ, hown, hnm, hby, hml, hret, hlk, hn, T, locs, X, eT, N, pre⟩ := w
  have q1 : n.toNatClampNeg = k := own_clamp e
  have q2 : ¬ n < 0 := by
    rw [Int32.lt_iff_toInt_lt, e]
    have : (0 : Int32).toInt = 0 := rfl
    omega
  obtain ⟨T', h', cA, X', e1, E, A, st⟩ := newP X hx hZ wa eT (g := mkF m pc L (.int n :: S)) rfl (hb hby hd) rfl q2 (cap := cap) (by rw [q1]; exact hk) (by omega) hc hs
  exact ⟨h', h.size, cA, ⟨hx, hZ, hown, hnm, hby, hml, hret, hlk, Nat.le_trans hn E.1, T', _, X', e1, N, fun tg k => pre tg (st tg k)⟩, rfl, hn, E, A⟩
theorem own_newI {aty : ArrayType} {n : Int32} (w : own_W K B Z n0 h ck cs pc L (.int n :: S)) (hd : decode B.bytes pc = .ok (.newarray aty, 2)) (wa : (Jvm.Cond.arrayClass (newarray.typeOf aty)).before a0 Z = true) (hdf : defaultValue (newarray.typeOf aty) = .int 0) (k cap : Nat) (e : n.toInt = k) (hk : k ≤ cap) (hcap : cap < 1000) (hc : ck + 1 ≤ B.rm.cells) (hs : cs + cap ≤ B.rm.slots) {l' : List Int32} (el : List.replicate k 0 = l') :
    ∃ h' a, own_W K B Z n0 h' (ck + 1) (cs + cap) (pc + 2) L (.ref a :: S) ∧ a = h.size ∧ n0 ≤ a ∧ Ext h h' ∧ own_A (newarray.typeOf aty) Z h' a l' := by
  subst el
  obtain ⟨h', a, cA, w', e1, g, E, A⟩ := own_newP w hd wa k cap e hk hcap hc hs
  have q1 : n.toNatClampNeg = k := own_clamp e
  refine ⟨h', a, w', e1, g, E, _, A, by rw [sz_new, q1, List.length_replicate], by rw [List.length_replicate]; omega, fun i hi => ?_⟩
  rw [List.length_replicate] at hi
  simp [newA, q1, hi, hdf, List.getD_eq_getElem?_getD]
theorem own_newJ {n : Int32} (w : own_W K B Z n0 h ck cs pc L (.int n :: S)) (hd : decode B.bytes pc = .ok (.newarray .long, 2)) (wa : (Jvm.Cond.arrayClass .long).before a0 Z = true) (k cap : Nat) (e : n.toInt = k) (hk : k ≤ cap) (hcap : cap < 1000) (hc : ck + 1 ≤ B.rm.cells) (hs : cs + cap ≤ B.rm.slots) {l' : List Int64} (el : List.replicate k 0 = l') :
    ∃ h' a, own_W K B Z n0 h' (ck + 1) (cs + cap) (pc + 2) L (.ref a :: S) ∧ a = h.size ∧ n0 ≤ a ∧ Ext h h' ∧ own_J Z h' a l' := by
  subst el
  obtain ⟨h', a, cA, w', e1, g, E, A⟩ := own_newP w hd wa k cap e hk hcap hc hs
  have q1 : n.toNatClampNeg = k := own_clamp e
  refine ⟨h', a, w', e1, g, E, _, A, by rw [sz_new, q1, List.length_replicate], by rw [List.length_replicate]; omega, fun i hi => ?_⟩
  rw [List.length_replicate] at hi
  have hdf : defaultValue (newarray.typeOf .long) = .long 0 := rfl
  simp [newA, q1, hi, hdf, List.getD_eq_getElem?_getD]
end Own
theorem own_n1 : nar .boolean 1 = 1 := by decide
theorem own_n0 : nar .boolean 0 = 0 := by decide
theorem d1_0 : decode prog_76_method_4_code 0 = .ok (.iload_n 0, 1) := by decide +kernel
theorem d1_1 : decode prog_76_method_4_code 1 = .ok (.bipush 97, 2) := by decide +kernel
theorem d1_3 : decode prog_76_method_4_code 3 = .ok (.if_icmp .lt 9, 3) := by decide +kernel
theorem d1_6 : decode prog_76_method_4_code 6 = .ok (.iload_n 0, 1) := by decide +kernel
theorem d1_7 : decode prog_76_method_4_code 7 = .ok (.bipush 122, 2) := by decide +kernel
theorem d1_9 : decode prog_76_method_4_code 9 = .ok (.if_icmp .le 182, 3) := by decide +kernel
theorem d1_12 : decode prog_76_method_4_code 12 = .ok (.iload_n 0, 1) := by decide +kernel
theorem d1_13 : decode prog_76_method_4_code 13 = .ok (.bipush 65, 2) := by decide +kernel
theorem d1_15 : decode prog_76_method_4_code 15 = .ok (.if_icmp .lt 9, 3) := by decide +kernel
theorem d1_18 : decode prog_76_method_4_code 18 = .ok (.iload_n 0, 1) := by decide +kernel
theorem d1_19 : decode prog_76_method_4_code 19 = .ok (.bipush 90, 2) := by decide +kernel
theorem d1_21 : decode prog_76_method_4_code 21 = .ok (.if_icmp .le 170, 3) := by decide +kernel
theorem d1_24 : decode prog_76_method_4_code 24 = .ok (.iload_n 0, 1) := by decide +kernel
theorem d1_25 : decode prog_76_method_4_code 25 = .ok (.bipush 95, 2) := by decide +kernel
theorem d1_27 : decode prog_76_method_4_code 27 = .ok (.if_icmp .eq 164, 3) := by decide +kernel
theorem d1_30 : decode prog_76_method_4_code 30 = .ok (.iload_n 0, 1) := by decide +kernel
theorem d1_31 : decode prog_76_method_4_code 31 = .ok (.sipush 192, 3) := by decide +kernel
theorem d1_34 : decode prog_76_method_4_code 34 = .ok (.if_icmp .lt 10, 3) := by decide +kernel
theorem d1_37 : decode prog_76_method_4_code 37 = .ok (.iload_n 0, 1) := by decide +kernel
theorem d1_38 : decode prog_76_method_4_code 38 = .ok (.sipush 214, 3) := by decide +kernel
theorem d1_41 : decode prog_76_method_4_code 41 = .ok (.if_icmp .le 150, 3) := by decide +kernel
theorem d1_44 : decode prog_76_method_4_code 44 = .ok (.iload_n 0, 1) := by decide +kernel
theorem d1_45 : decode prog_76_method_4_code 45 = .ok (.sipush 216, 3) := by decide +kernel
theorem d1_48 : decode prog_76_method_4_code 48 = .ok (.if_icmp .lt 10, 3) := by decide +kernel
theorem d1_51 : decode prog_76_method_4_code 51 = .ok (.iload_n 0, 1) := by decide +kernel
theorem d1_52 : decode prog_76_method_4_code 52 = .ok (.sipush 246, 3) := by decide +kernel
theorem d1_55 : decode prog_76_method_4_code 55 = .ok (.if_icmp .le 136, 3) := by decide +kernel
theorem d1_58 : decode prog_76_method_4_code 58 = .ok (.iload_n 0, 1) := by decide +kernel
theorem d1_59 : decode prog_76_method_4_code 59 = .ok (.sipush 248, 3) := by decide +kernel
theorem d1_62 : decode prog_76_method_4_code 62 = .ok (.if_icmp .lt 10, 3) := by decide +kernel
theorem d1_65 : decode prog_76_method_4_code 65 = .ok (.iload_n 0, 1) := by decide +kernel
theorem d1_66 : decode prog_76_method_4_code 66 = .ok (.sipush 767, 3) := by decide +kernel
theorem d1_69 : decode prog_76_method_4_code 69 = .ok (.if_icmp .le 122, 3) := by decide +kernel
theorem d1_72 : decode prog_76_method_4_code 72 = .ok (.iload_n 0, 1) := by decide +kernel
theorem d1_73 : decode prog_76_method_4_code 73 = .ok (.sipush 880, 3) := by decide +kernel
theorem d1_76 : decode prog_76_method_4_code 76 = .ok (.if_icmp .lt 10, 3) := by decide +kernel
theorem d1_79 : decode prog_76_method_4_code 79 = .ok (.iload_n 0, 1) := by decide +kernel
theorem d1_80 : decode prog_76_method_4_code 80 = .ok (.sipush 893, 3) := by decide +kernel
theorem d1_83 : decode prog_76_method_4_code 83 = .ok (.if_icmp .le 108, 3) := by decide +kernel
theorem d1_86 : decode prog_76_method_4_code 86 = .ok (.iload_n 0, 1) := by decide +kernel
theorem d1_87 : decode prog_76_method_4_code 87 = .ok (.sipush 895, 3) := by decide +kernel
theorem d1_90 : decode prog_76_method_4_code 90 = .ok (.if_icmp .lt 10, 3) := by decide +kernel
theorem d1_93 : decode prog_76_method_4_code 93 = .ok (.iload_n 0, 1) := by decide +kernel
theorem d1_94 : decode prog_76_method_4_code 94 = .ok (.sipush 8191, 3) := by decide +kernel
theorem d1_97 : decode prog_76_method_4_code 97 = .ok (.if_icmp .le 94, 3) := by decide +kernel
theorem d1_100 : decode prog_76_method_4_code 100 = .ok (.iload_n 0, 1) := by decide +kernel
theorem d1_101 : decode prog_76_method_4_code 101 = .ok (.sipush 8204, 3) := by decide +kernel
theorem d1_104 : decode prog_76_method_4_code 104 = .ok (.if_icmp .lt 10, 3) := by decide +kernel
theorem d1_107 : decode prog_76_method_4_code 107 = .ok (.iload_n 0, 1) := by decide +kernel
theorem d1_108 : decode prog_76_method_4_code 108 = .ok (.sipush 8205, 3) := by decide +kernel
theorem d1_111 : decode prog_76_method_4_code 111 = .ok (.if_icmp .le 80, 3) := by decide +kernel
theorem d1_114 : decode prog_76_method_4_code 114 = .ok (.iload_n 0, 1) := by decide +kernel
theorem d1_115 : decode prog_76_method_4_code 115 = .ok (.sipush 8304, 3) := by decide +kernel
theorem d1_118 : decode prog_76_method_4_code 118 = .ok (.if_icmp .lt 10, 3) := by decide +kernel
theorem d1_121 : decode prog_76_method_4_code 121 = .ok (.iload_n 0, 1) := by decide +kernel
theorem d1_122 : decode prog_76_method_4_code 122 = .ok (.sipush 8591, 3) := by decide +kernel
theorem d1_125 : decode prog_76_method_4_code 125 = .ok (.if_icmp .le 66, 3) := by decide +kernel
theorem d1_128 : decode prog_76_method_4_code 128 = .ok (.iload_n 0, 1) := by decide +kernel
theorem d1_129 : decode prog_76_method_4_code 129 = .ok (.sipush 11264, 3) := by decide +kernel
theorem d1_132 : decode prog_76_method_4_code 132 = .ok (.if_icmp .lt 10, 3) := by decide +kernel
theorem d1_135 : decode prog_76_method_4_code 135 = .ok (.iload_n 0, 1) := by decide +kernel
theorem d1_136 : decode prog_76_method_4_code 136 = .ok (.sipush 12271, 3) := by decide +kernel
theorem d1_139 : decode prog_76_method_4_code 139 = .ok (.if_icmp .le 52, 3) := by decide +kernel
theorem d1_142 : decode prog_76_method_4_code 142 = .ok (.iload_n 0, 1) := by decide +kernel
theorem d1_143 : decode prog_76_method_4_code 143 = .ok (.sipush 12289, 3) := by decide +kernel
theorem d1_146 : decode prog_76_method_4_code 146 = .ok (.if_icmp .lt 9, 3) := by decide +kernel
theorem d1_149 : decode prog_76_method_4_code 149 = .ok (.iload_n 0, 1) := by decide +kernel
theorem d1_150 : decode prog_76_method_4_code 150 = .ok (.ldc 35, 2) := by decide +kernel
theorem d1_152 : decode prog_76_method_4_code 152 = .ok (.if_icmp .le 39, 3) := by decide +kernel
theorem d1_155 : decode prog_76_method_4_code 155 = .ok (.iload_n 0, 1) := by decide +kernel
theorem d1_156 : decode prog_76_method_4_code 156 = .ok (.ldc 36, 2) := by decide +kernel
theorem d1_158 : decode prog_76_method_4_code 158 = .ok (.if_icmp .lt 9, 3) := by decide +kernel
theorem d1_161 : decode prog_76_method_4_code 161 = .ok (.iload_n 0, 1) := by decide +kernel
theorem d1_162 : decode prog_76_method_4_code 162 = .ok (.ldc 37, 2) := by decide +kernel
theorem d1_164 : decode prog_76_method_4_code 164 = .ok (.if_icmp .le 27, 3) := by decide +kernel
theorem d1_167 : decode prog_76_method_4_code 167 = .ok (.iload_n 0, 1) := by decide +kernel
theorem d1_168 : decode prog_76_method_4_code 168 = .ok (.ldc 38, 2) := by decide +kernel
theorem d1_170 : decode prog_76_method_4_code 170 = .ok (.if_icmp .lt 9, 3) := by decide +kernel
theorem d1_173 : decode prog_76_method_4_code 173 = .ok (.iload_n 0, 1) := by decide +kernel
theorem d1_174 : decode prog_76_method_4_code 174 = .ok (.ldc 39, 2) := by decide +kernel
theorem d1_176 : decode prog_76_method_4_code 176 = .ok (.if_icmp .le 15, 3) := by decide +kernel
theorem d1_179 : decode prog_76_method_4_code 179 = .ok (.iload_n 0, 1) := by decide +kernel
theorem d1_180 : decode prog_76_method_4_code 180 = .ok (.ldc 40, 2) := by decide +kernel
theorem d1_182 : decode prog_76_method_4_code 182 = .ok (.if_icmp .lt 13, 3) := by decide +kernel
theorem d1_185 : decode prog_76_method_4_code 185 = .ok (.iload_n 0, 1) := by decide +kernel
theorem d1_186 : decode prog_76_method_4_code 186 = .ok (.ldc 41, 2) := by decide +kernel
theorem d1_188 : decode prog_76_method_4_code 188 = .ok (.if_icmp .gt 7, 3) := by decide +kernel
theorem d1_191 : decode prog_76_method_4_code 191 = .ok (.iconst 1, 1) := by decide +kernel
theorem d1_192 : decode prog_76_method_4_code 192 = .ok (.goto 4, 3) := by decide +kernel
theorem d1_195 : decode prog_76_method_4_code 195 = .ok (.iconst 0, 1) := by decide +kernel
theorem d1_196 : decode prog_76_method_4_code 196 = .ok (.ireturn, 1) := by decide +kernel
abbrev b1 : OwnB := (⟨"com/example/xqstat/xqstat/document/XmlCharacters", "isNameStart", "(I)Z"⟩, prog_76_method_4_code, 1, (some .boolean), ({ frames := 0, cells := 0, slots := 0, locals := 0 } : Room))
theorem pn_1 : plainName "com/example/xqstat/xqstat/document/XmlCharacters" = true := by first | (simp [plainName, overriddenIn]; done) | decide +kernel
theorem pd_1 : parseMethodDescriptor "(I)Z" = some ⟨[.int], (some .boolean)⟩ := by decide +kernel
theorem ef_1 (p0 : Int32) (m : MethodId) : entryFrame m #[(.int p0)] 1 = mkF m 0 #[.val (.int p0)] [] := by first | (simp [entryFrame, mkF, argsToLocals, Value.category, maxLocals]; done) | rfl
def g1_191 (i0 : Int) : Int32 := 1
theorem n1_191 {K : OwnK} {Z : State} {n0 : Nat} {h : Heap} {a0 : Array Value} (hw : ∀ d ∈ tables_1, d.before a0 Z = true) (p0 : Int32) (w : own_W K b1 Z n0 h 0 0 191 #[.val (.int p0)] []) : own_G K n0 0 0 (fun v h' => v = some (.int (g1_191 p0.toInt)) ∧ h = h') := by
  replace w : own_W K b1 Z n0 h 0 0 192 #[.val (.int p0)] [(.int (1 : Int32))] := own_iconst w d1_191 rfl
  replace w : own_W K b1 Z n0 h 0 0 196 #[.val (.int p0)] [(.int (1 : Int32))] := own_goto w d1_192 (by decide) (by decide)
  exact own_retZ w d1_196 rfl (Or.inl rfl) ⟨congrArg (fun z => some (Value.int z)) own_n1, rfl⟩ (Nat.le_refl _) (Nat.le_refl _)
def g1_195 (i0 : Int) : Int32 := 0
theorem n1_195 {K : OwnK} {Z : State} {n0 : Nat} {h : Heap} {a0 : Array Value} (hw : ∀ d ∈ tables_1, d.before a0 Z = true) (p0 : Int32) (w : own_W K b1 Z n0 h 0 0 195 #[.val (.int p0)] []) : own_G K n0 0 0 (fun v h' => v = some (.int (g1_195 p0.toInt)) ∧ h = h') := by
  replace w : own_W K b1 Z n0 h 0 0 196 #[.val (.int p0)] [(.int (0 : Int32))] := own_iconst w d1_195 rfl
  exact own_retZ w d1_196 rfl (Or.inl rfl) ⟨congrArg (fun z => some (Value.int z)) own_n0, rfl⟩ (Nat.le_refl _) (Nat.le_refl _)
def g1_185 (i0 : Int) : Int32 := if 983039 < i0 then g1_195 i0 else g1_191 i0
theorem n1_185 {K : OwnK} {Z : State} {n0 : Nat} {h : Heap} {a0 : Array Value} (hw : ∀ d ∈ tables_1, d.before a0 Z = true) (p0 : Int32) (w : own_W K b1 Z n0 h 0 0 185 #[.val (.int p0)] []) : own_G K n0 0 0 (fun v h' => v = some (.int (g1_185 p0.toInt)) ∧ h = h') := by
  replace w : own_W K b1 Z n0 h 0 0 186 #[.val (.int p0)] [(.int p0)] := own_iloadN w d1_185 rfl
  replace w : own_W K b1 Z n0 h 0 0 188 #[.val (.int p0)] [(.int (983039 : Int32)), (.int p0)] := own_ldc w d1_186 (hw _ (List.mem_of_getElem? (i := 70) rfl))
  by_cases hc : 983039 < p0.toInt
  · rw [show g1_185 p0.toInt = g1_195 p0.toInt from if_pos hc]
    exact n1_195 hw p0 (own_icmpY w d1_188 rfl (by decide) hc (by decide) (by decide))
  · rw [show g1_185 p0.toInt = g1_191 p0.toInt from if_neg hc]
    exact n1_191 hw p0 (own_icmpN w d1_188 rfl (by decide) hc)
def g1_179 (i0 : Int) : Int32 := if i0 < 65536 then g1_195 i0 else g1_185 i0
theorem n1_179 {K : OwnK} {Z : State} {n0 : Nat} {h : Heap} {a0 : Array Value} (hw : ∀ d ∈ tables_1, d.before a0 Z = true) (p0 : Int32) (w : own_W K b1 Z n0 h 0 0 179 #[.val (.int p0)] []) : own_G K n0 0 0 (fun v h' => v = some (.int (g1_179 p0.toInt)) ∧ h = h') := by
  replace w : own_W K b1 Z n0 h 0 0 180 #[.val (.int p0)] [(.int p0)] := own_iloadN w d1_179 rfl
  replace w : own_W K b1 Z n0 h 0 0 182 #[.val (.int p0)] [(.int (65536 : Int32)), (.int p0)] := own_ldc w d1_180 (hw _ (List.mem_of_getElem? (i := 69) rfl))
  by_cases hc : p0.toInt < 65536
  · rw [show g1_179 p0.toInt = g1_195 p0.toInt from if_pos hc]
    exact n1_195 hw p0 (own_icmpY w d1_182 rfl (by decide) hc (by decide) (by decide))
  · rw [show g1_179 p0.toInt = g1_185 p0.toInt from if_neg hc]
    exact n1_185 hw p0 (own_icmpN w d1_182 rfl (by decide) hc)
def g1_173 (i0 : Int) : Int32 := if 65533 < i0 then g1_179 i0 else g1_191 i0
theorem n1_173 {K : OwnK} {Z : State} {n0 : Nat} {h : Heap} {a0 : Array Value} (hw : ∀ d ∈ tables_1, d.before a0 Z = true) (p0 : Int32) (w : own_W K b1 Z n0 h 0 0 173 #[.val (.int p0)] []) : own_G K n0 0 0 (fun v h' => v = some (.int (g1_173 p0.toInt)) ∧ h = h') := by
  replace w : own_W K b1 Z n0 h 0 0 174 #[.val (.int p0)] [(.int p0)] := own_iloadN w d1_173 rfl
  replace w : own_W K b1 Z n0 h 0 0 176 #[.val (.int p0)] [(.int (65533 : Int32)), (.int p0)] := own_ldc w d1_174 (hw _ (List.mem_of_getElem? (i := 68) rfl))
  by_cases hc : 65533 < p0.toInt
  · rw [show g1_173 p0.toInt = g1_179 p0.toInt from if_pos hc]
    exact n1_179 hw p0 (own_icmpN w d1_176 rfl (by decide) hc)
  · rw [show g1_173 p0.toInt = g1_191 p0.toInt from if_neg hc]
    exact n1_191 hw p0 (own_icmpY w d1_176 rfl (by decide) hc (by decide) (by decide))
def g1_167 (i0 : Int) : Int32 := if i0 < 65008 then g1_179 i0 else g1_173 i0
theorem n1_167 {K : OwnK} {Z : State} {n0 : Nat} {h : Heap} {a0 : Array Value} (hw : ∀ d ∈ tables_1, d.before a0 Z = true) (p0 : Int32) (w : own_W K b1 Z n0 h 0 0 167 #[.val (.int p0)] []) : own_G K n0 0 0 (fun v h' => v = some (.int (g1_167 p0.toInt)) ∧ h = h') := by
  replace w : own_W K b1 Z n0 h 0 0 168 #[.val (.int p0)] [(.int p0)] := own_iloadN w d1_167 rfl
  replace w : own_W K b1 Z n0 h 0 0 170 #[.val (.int p0)] [(.int (65008 : Int32)), (.int p0)] := own_ldc w d1_168 (hw _ (List.mem_of_getElem? (i := 67) rfl))
  by_cases hc : p0.toInt < 65008
  · rw [show g1_167 p0.toInt = g1_179 p0.toInt from if_pos hc]
    exact n1_179 hw p0 (own_icmpY w d1_170 rfl (by decide) hc (by decide) (by decide))
  · rw [show g1_167 p0.toInt = g1_173 p0.toInt from if_neg hc]
    exact n1_173 hw p0 (own_icmpN w d1_170 rfl (by decide) hc)
def g1_161 (i0 : Int) : Int32 := if 64975 < i0 then g1_167 i0 else g1_191 i0
theorem n1_161 {K : OwnK} {Z : State} {n0 : Nat} {h : Heap} {a0 : Array Value} (hw : ∀ d ∈ tables_1, d.before a0 Z = true) (p0 : Int32) (w : own_W K b1 Z n0 h 0 0 161 #[.val (.int p0)] []) : own_G K n0 0 0 (fun v h' => v = some (.int (g1_161 p0.toInt)) ∧ h = h') := by
  replace w : own_W K b1 Z n0 h 0 0 162 #[.val (.int p0)] [(.int p0)] := own_iloadN w d1_161 rfl
  replace w : own_W K b1 Z n0 h 0 0 164 #[.val (.int p0)] [(.int (64975 : Int32)), (.int p0)] := own_ldc w d1_162 (hw _ (List.mem_of_getElem? (i := 66) rfl))
  by_cases hc : 64975 < p0.toInt
  · rw [show g1_161 p0.toInt = g1_167 p0.toInt from if_pos hc]
    exact n1_167 hw p0 (own_icmpN w d1_164 rfl (by decide) hc)
  · rw [show g1_161 p0.toInt = g1_191 p0.toInt from if_neg hc]
    exact n1_191 hw p0 (own_icmpY w d1_164 rfl (by decide) hc (by decide) (by decide))
def g1_155 (i0 : Int) : Int32 := if i0 < 63744 then g1_167 i0 else g1_161 i0
theorem n1_155 {K : OwnK} {Z : State} {n0 : Nat} {h : Heap} {a0 : Array Value} (hw : ∀ d ∈ tables_1, d.before a0 Z = true) (p0 : Int32) (w : own_W K b1 Z n0 h 0 0 155 #[.val (.int p0)] []) : own_G K n0 0 0 (fun v h' => v = some (.int (g1_155 p0.toInt)) ∧ h = h') := by
  replace w : own_W K b1 Z n0 h 0 0 156 #[.val (.int p0)] [(.int p0)] := own_iloadN w d1_155 rfl
  replace w : own_W K b1 Z n0 h 0 0 158 #[.val (.int p0)] [(.int (63744 : Int32)), (.int p0)] := own_ldc w d1_156 (hw _ (List.mem_of_getElem? (i := 65) rfl))
  by_cases hc : p0.toInt < 63744
  · rw [show g1_155 p0.toInt = g1_167 p0.toInt from if_pos hc]
    exact n1_167 hw p0 (own_icmpY w d1_158 rfl (by decide) hc (by decide) (by decide))
  · rw [show g1_155 p0.toInt = g1_161 p0.toInt from if_neg hc]
    exact n1_161 hw p0 (own_icmpN w d1_158 rfl (by decide) hc)
def g1_149 (i0 : Int) : Int32 := if 55295 < i0 then g1_155 i0 else g1_191 i0
theorem n1_149 {K : OwnK} {Z : State} {n0 : Nat} {h : Heap} {a0 : Array Value} (hw : ∀ d ∈ tables_1, d.before a0 Z = true) (p0 : Int32) (w : own_W K b1 Z n0 h 0 0 149 #[.val (.int p0)] []) : own_G K n0 0 0 (fun v h' => v = some (.int (g1_149 p0.toInt)) ∧ h = h') := by
  replace w : own_W K b1 Z n0 h 0 0 150 #[.val (.int p0)] [(.int p0)] := own_iloadN w d1_149 rfl
  replace w : own_W K b1 Z n0 h 0 0 152 #[.val (.int p0)] [(.int (55295 : Int32)), (.int p0)] := own_ldc w d1_150 (hw _ (List.mem_of_getElem? (i := 64) rfl))
  by_cases hc : 55295 < p0.toInt
  · rw [show g1_149 p0.toInt = g1_155 p0.toInt from if_pos hc]
    exact n1_155 hw p0 (own_icmpN w d1_152 rfl (by decide) hc)
  · rw [show g1_149 p0.toInt = g1_191 p0.toInt from if_neg hc]
    exact n1_191 hw p0 (own_icmpY w d1_152 rfl (by decide) hc (by decide) (by decide))
def g1_142 (i0 : Int) : Int32 := if i0 < 12289 then g1_155 i0 else g1_149 i0
theorem n1_142 {K : OwnK} {Z : State} {n0 : Nat} {h : Heap} {a0 : Array Value} (hw : ∀ d ∈ tables_1, d.before a0 Z = true) (p0 : Int32) (w : own_W K b1 Z n0 h 0 0 142 #[.val (.int p0)] []) : own_G K n0 0 0 (fun v h' => v = some (.int (g1_142 p0.toInt)) ∧ h = h') := by
  replace w : own_W K b1 Z n0 h 0 0 143 #[.val (.int p0)] [(.int p0)] := own_iloadN w d1_142 rfl
  replace w : own_W K b1 Z n0 h 0 0 146 #[.val (.int p0)] [(.int (12289 : Int32)), (.int p0)] := own_sipush w d1_143 rfl
  by_cases hc : p0.toInt < 12289
  · rw [show g1_142 p0.toInt = g1_155 p0.toInt from if_pos hc]
    exact n1_155 hw p0 (own_icmpY w d1_146 rfl (by decide) hc (by decide) (by decide))
  · rw [show g1_142 p0.toInt = g1_149 p0.toInt from if_neg hc]
    exact n1_149 hw p0 (own_icmpN w d1_146 rfl (by decide) hc)
def g1_135 (i0 : Int) : Int32 := if 12271 < i0 then g1_142 i0 else g1_191 i0
theorem n1_135 {K : OwnK} {Z : State} {n0 : Nat} {h : Heap} {a0 : Array Value} (hw : ∀ d ∈ tables_1, d.before a0 Z = true) (p0 : Int32) (w : own_W K b1 Z n0 h 0 0 135 #[.val (.int p0)] []) : own_G K n0 0 0 (fun v h' => v = some (.int (g1_135 p0.toInt)) ∧ h = h') := by
  replace w : own_W K b1 Z n0 h 0 0 136 #[.val (.int p0)] [(.int p0)] := own_iloadN w d1_135 rfl
  replace w : own_W K b1 Z n0 h 0 0 139 #[.val (.int p0)] [(.int (12271 : Int32)), (.int p0)] := own_sipush w d1_136 rfl
  by_cases hc : 12271 < p0.toInt
  · rw [show g1_135 p0.toInt = g1_142 p0.toInt from if_pos hc]
    exact n1_142 hw p0 (own_icmpN w d1_139 rfl (by decide) hc)
  · rw [show g1_135 p0.toInt = g1_191 p0.toInt from if_neg hc]
    exact n1_191 hw p0 (own_icmpY w d1_139 rfl (by decide) hc (by decide) (by decide))
def g1_128 (i0 : Int) : Int32 := if i0 < 11264 then g1_142 i0 else g1_135 i0
theorem n1_128 {K : OwnK} {Z : State} {n0 : Nat} {h : Heap} {a0 : Array Value} (hw : ∀ d ∈ tables_1, d.before a0 Z = true) (p0 : Int32) (w : own_W K b1 Z n0 h 0 0 128 #[.val (.int p0)] []) : own_G K n0 0 0 (fun v h' => v = some (.int (g1_128 p0.toInt)) ∧ h = h') := by
  replace w : own_W K b1 Z n0 h 0 0 129 #[.val (.int p0)] [(.int p0)] := own_iloadN w d1_128 rfl
  replace w : own_W K b1 Z n0 h 0 0 132 #[.val (.int p0)] [(.int (11264 : Int32)), (.int p0)] := own_sipush w d1_129 rfl
  by_cases hc : p0.toInt < 11264
  · rw [show g1_128 p0.toInt = g1_142 p0.toInt from if_pos hc]
    exact n1_142 hw p0 (own_icmpY w d1_132 rfl (by decide) hc (by decide) (by decide))
  · rw [show g1_128 p0.toInt = g1_135 p0.toInt from if_neg hc]
    exact n1_135 hw p0 (own_icmpN w d1_132 rfl (by decide) hc)
def g1_121 (i0 : Int) : Int32 := if 8591 < i0 then g1_128 i0 else g1_191 i0
theorem n1_121 {K : OwnK} {Z : State} {n0 : Nat} {h : Heap} {a0 : Array Value} (hw : ∀ d ∈ tables_1, d.before a0 Z = true) (p0 : Int32) (w : own_W K b1 Z n0 h 0 0 121 #[.val (.int p0)] []) : own_G K n0 0 0 (fun v h' => v = some (.int (g1_121 p0.toInt)) ∧ h = h') := by
  replace w : own_W K b1 Z n0 h 0 0 122 #[.val (.int p0)] [(.int p0)] := own_iloadN w d1_121 rfl
  replace w : own_W K b1 Z n0 h 0 0 125 #[.val (.int p0)] [(.int (8591 : Int32)), (.int p0)] := own_sipush w d1_122 rfl
  by_cases hc : 8591 < p0.toInt
  · rw [show g1_121 p0.toInt = g1_128 p0.toInt from if_pos hc]
    exact n1_128 hw p0 (own_icmpN w d1_125 rfl (by decide) hc)
  · rw [show g1_121 p0.toInt = g1_191 p0.toInt from if_neg hc]
    exact n1_191 hw p0 (own_icmpY w d1_125 rfl (by decide) hc (by decide) (by decide))
def g1_114 (i0 : Int) : Int32 := if i0 < 8304 then g1_128 i0 else g1_121 i0
theorem n1_114 {K : OwnK} {Z : State} {n0 : Nat} {h : Heap} {a0 : Array Value} (hw : ∀ d ∈ tables_1, d.before a0 Z = true) (p0 : Int32) (w : own_W K b1 Z n0 h 0 0 114 #[.val (.int p0)] []) : own_G K n0 0 0 (fun v h' => v = some (.int (g1_114 p0.toInt)) ∧ h = h') := by
  replace w : own_W K b1 Z n0 h 0 0 115 #[.val (.int p0)] [(.int p0)] := own_iloadN w d1_114 rfl
  replace w : own_W K b1 Z n0 h 0 0 118 #[.val (.int p0)] [(.int (8304 : Int32)), (.int p0)] := own_sipush w d1_115 rfl
  by_cases hc : p0.toInt < 8304
  · rw [show g1_114 p0.toInt = g1_128 p0.toInt from if_pos hc]
    exact n1_128 hw p0 (own_icmpY w d1_118 rfl (by decide) hc (by decide) (by decide))
  · rw [show g1_114 p0.toInt = g1_121 p0.toInt from if_neg hc]
    exact n1_121 hw p0 (own_icmpN w d1_118 rfl (by decide) hc)
def g1_107 (i0 : Int) : Int32 := if 8205 < i0 then g1_114 i0 else g1_191 i0
theorem n1_107 {K : OwnK} {Z : State} {n0 : Nat} {h : Heap} {a0 : Array Value} (hw : ∀ d ∈ tables_1, d.before a0 Z = true) (p0 : Int32) (w : own_W K b1 Z n0 h 0 0 107 #[.val (.int p0)] []) : own_G K n0 0 0 (fun v h' => v = some (.int (g1_107 p0.toInt)) ∧ h = h') := by
  replace w : own_W K b1 Z n0 h 0 0 108 #[.val (.int p0)] [(.int p0)] := own_iloadN w d1_107 rfl
  replace w : own_W K b1 Z n0 h 0 0 111 #[.val (.int p0)] [(.int (8205 : Int32)), (.int p0)] := own_sipush w d1_108 rfl
  by_cases hc : 8205 < p0.toInt
  · rw [show g1_107 p0.toInt = g1_114 p0.toInt from if_pos hc]
    exact n1_114 hw p0 (own_icmpN w d1_111 rfl (by decide) hc)
  · rw [show g1_107 p0.toInt = g1_191 p0.toInt from if_neg hc]
    exact n1_191 hw p0 (own_icmpY w d1_111 rfl (by decide) hc (by decide) (by decide))
def g1_100 (i0 : Int) : Int32 := if i0 < 8204 then g1_114 i0 else g1_107 i0
theorem n1_100 {K : OwnK} {Z : State} {n0 : Nat} {h : Heap} {a0 : Array Value} (hw : ∀ d ∈ tables_1, d.before a0 Z = true) (p0 : Int32) (w : own_W K b1 Z n0 h 0 0 100 #[.val (.int p0)] []) : own_G K n0 0 0 (fun v h' => v = some (.int (g1_100 p0.toInt)) ∧ h = h') := by
  replace w : own_W K b1 Z n0 h 0 0 101 #[.val (.int p0)] [(.int p0)] := own_iloadN w d1_100 rfl
  replace w : own_W K b1 Z n0 h 0 0 104 #[.val (.int p0)] [(.int (8204 : Int32)), (.int p0)] := own_sipush w d1_101 rfl
  by_cases hc : p0.toInt < 8204
  · rw [show g1_100 p0.toInt = g1_114 p0.toInt from if_pos hc]
    exact n1_114 hw p0 (own_icmpY w d1_104 rfl (by decide) hc (by decide) (by decide))
  · rw [show g1_100 p0.toInt = g1_107 p0.toInt from if_neg hc]
    exact n1_107 hw p0 (own_icmpN w d1_104 rfl (by decide) hc)
def g1_93 (i0 : Int) : Int32 := if 8191 < i0 then g1_100 i0 else g1_191 i0
theorem n1_93 {K : OwnK} {Z : State} {n0 : Nat} {h : Heap} {a0 : Array Value} (hw : ∀ d ∈ tables_1, d.before a0 Z = true) (p0 : Int32) (w : own_W K b1 Z n0 h 0 0 93 #[.val (.int p0)] []) : own_G K n0 0 0 (fun v h' => v = some (.int (g1_93 p0.toInt)) ∧ h = h') := by
  replace w : own_W K b1 Z n0 h 0 0 94 #[.val (.int p0)] [(.int p0)] := own_iloadN w d1_93 rfl
  replace w : own_W K b1 Z n0 h 0 0 97 #[.val (.int p0)] [(.int (8191 : Int32)), (.int p0)] := own_sipush w d1_94 rfl
  by_cases hc : 8191 < p0.toInt
  · rw [show g1_93 p0.toInt = g1_100 p0.toInt from if_pos hc]
    exact n1_100 hw p0 (own_icmpN w d1_97 rfl (by decide) hc)
  · rw [show g1_93 p0.toInt = g1_191 p0.toInt from if_neg hc]
    exact n1_191 hw p0 (own_icmpY w d1_97 rfl (by decide) hc (by decide) (by decide))
def g1_86 (i0 : Int) : Int32 := if i0 < 895 then g1_100 i0 else g1_93 i0
theorem n1_86 {K : OwnK} {Z : State} {n0 : Nat} {h : Heap} {a0 : Array Value} (hw : ∀ d ∈ tables_1, d.before a0 Z = true) (p0 : Int32) (w : own_W K b1 Z n0 h 0 0 86 #[.val (.int p0)] []) : own_G K n0 0 0 (fun v h' => v = some (.int (g1_86 p0.toInt)) ∧ h = h') := by
  replace w : own_W K b1 Z n0 h 0 0 87 #[.val (.int p0)] [(.int p0)] := own_iloadN w d1_86 rfl
  replace w : own_W K b1 Z n0 h 0 0 90 #[.val (.int p0)] [(.int (895 : Int32)), (.int p0)] := own_sipush w d1_87 rfl
  by_cases hc : p0.toInt < 895
  · rw [show g1_86 p0.toInt = g1_100 p0.toInt from if_pos hc]
    exact n1_100 hw p0 (own_icmpY w d1_90 rfl (by decide) hc (by decide) (by decide))
  · rw [show g1_86 p0.toInt = g1_93 p0.toInt from if_neg hc]
    exact n1_93 hw p0 (own_icmpN w d1_90 rfl (by decide) hc)
def g1_79 (i0 : Int) : Int32 := if 893 < i0 then g1_86 i0 else g1_191 i0
theorem n1_79 {K : OwnK} {Z : State} {n0 : Nat} {h : Heap} {a0 : Array Value} (hw : ∀ d ∈ tables_1, d.before a0 Z = true) (p0 : Int32) (w : own_W K b1 Z n0 h 0 0 79 #[.val (.int p0)] []) : own_G K n0 0 0 (fun v h' => v = some (.int (g1_79 p0.toInt)) ∧ h = h') := by
  replace w : own_W K b1 Z n0 h 0 0 80 #[.val (.int p0)] [(.int p0)] := own_iloadN w d1_79 rfl
  replace w : own_W K b1 Z n0 h 0 0 83 #[.val (.int p0)] [(.int (893 : Int32)), (.int p0)] := own_sipush w d1_80 rfl
  by_cases hc : 893 < p0.toInt
  · rw [show g1_79 p0.toInt = g1_86 p0.toInt from if_pos hc]
    exact n1_86 hw p0 (own_icmpN w d1_83 rfl (by decide) hc)
  · rw [show g1_79 p0.toInt = g1_191 p0.toInt from if_neg hc]
    exact n1_191 hw p0 (own_icmpY w d1_83 rfl (by decide) hc (by decide) (by decide))
def g1_72 (i0 : Int) : Int32 := if i0 < 880 then g1_86 i0 else g1_79 i0
theorem n1_72 {K : OwnK} {Z : State} {n0 : Nat} {h : Heap} {a0 : Array Value} (hw : ∀ d ∈ tables_1, d.before a0 Z = true) (p0 : Int32) (w : own_W K b1 Z n0 h 0 0 72 #[.val (.int p0)] []) : own_G K n0 0 0 (fun v h' => v = some (.int (g1_72 p0.toInt)) ∧ h = h') := by
  replace w : own_W K b1 Z n0 h 0 0 73 #[.val (.int p0)] [(.int p0)] := own_iloadN w d1_72 rfl
  replace w : own_W K b1 Z n0 h 0 0 76 #[.val (.int p0)] [(.int (880 : Int32)), (.int p0)] := own_sipush w d1_73 rfl
  by_cases hc : p0.toInt < 880
  · rw [show g1_72 p0.toInt = g1_86 p0.toInt from if_pos hc]
    exact n1_86 hw p0 (own_icmpY w d1_76 rfl (by decide) hc (by decide) (by decide))
  · rw [show g1_72 p0.toInt = g1_79 p0.toInt from if_neg hc]
    exact n1_79 hw p0 (own_icmpN w d1_76 rfl (by decide) hc)
def g1_65 (i0 : Int) : Int32 := if 767 < i0 then g1_72 i0 else g1_191 i0
theorem n1_65 {K : OwnK} {Z : State} {n0 : Nat} {h : Heap} {a0 : Array Value} (hw : ∀ d ∈ tables_1, d.before a0 Z = true) (p0 : Int32) (w : own_W K b1 Z n0 h 0 0 65 #[.val (.int p0)] []) : own_G K n0 0 0 (fun v h' => v = some (.int (g1_65 p0.toInt)) ∧ h = h') := by
  replace w : own_W K b1 Z n0 h 0 0 66 #[.val (.int p0)] [(.int p0)] := own_iloadN w d1_65 rfl
  replace w : own_W K b1 Z n0 h 0 0 69 #[.val (.int p0)] [(.int (767 : Int32)), (.int p0)] := own_sipush w d1_66 rfl
  by_cases hc : 767 < p0.toInt
  · rw [show g1_65 p0.toInt = g1_72 p0.toInt from if_pos hc]
    exact n1_72 hw p0 (own_icmpN w d1_69 rfl (by decide) hc)
  · rw [show g1_65 p0.toInt = g1_191 p0.toInt from if_neg hc]
    exact n1_191 hw p0 (own_icmpY w d1_69 rfl (by decide) hc (by decide) (by decide))
def g1_58 (i0 : Int) : Int32 := if i0 < 248 then g1_72 i0 else g1_65 i0
theorem n1_58 {K : OwnK} {Z : State} {n0 : Nat} {h : Heap} {a0 : Array Value} (hw : ∀ d ∈ tables_1, d.before a0 Z = true) (p0 : Int32) (w : own_W K b1 Z n0 h 0 0 58 #[.val (.int p0)] []) : own_G K n0 0 0 (fun v h' => v = some (.int (g1_58 p0.toInt)) ∧ h = h') := by
  replace w : own_W K b1 Z n0 h 0 0 59 #[.val (.int p0)] [(.int p0)] := own_iloadN w d1_58 rfl
  replace w : own_W K b1 Z n0 h 0 0 62 #[.val (.int p0)] [(.int (248 : Int32)), (.int p0)] := own_sipush w d1_59 rfl
  by_cases hc : p0.toInt < 248
  · rw [show g1_58 p0.toInt = g1_72 p0.toInt from if_pos hc]
    exact n1_72 hw p0 (own_icmpY w d1_62 rfl (by decide) hc (by decide) (by decide))
  · rw [show g1_58 p0.toInt = g1_65 p0.toInt from if_neg hc]
    exact n1_65 hw p0 (own_icmpN w d1_62 rfl (by decide) hc)
def g1_51 (i0 : Int) : Int32 := if 246 < i0 then g1_58 i0 else g1_191 i0
theorem n1_51 {K : OwnK} {Z : State} {n0 : Nat} {h : Heap} {a0 : Array Value} (hw : ∀ d ∈ tables_1, d.before a0 Z = true) (p0 : Int32) (w : own_W K b1 Z n0 h 0 0 51 #[.val (.int p0)] []) : own_G K n0 0 0 (fun v h' => v = some (.int (g1_51 p0.toInt)) ∧ h = h') := by
  replace w : own_W K b1 Z n0 h 0 0 52 #[.val (.int p0)] [(.int p0)] := own_iloadN w d1_51 rfl
  replace w : own_W K b1 Z n0 h 0 0 55 #[.val (.int p0)] [(.int (246 : Int32)), (.int p0)] := own_sipush w d1_52 rfl
  by_cases hc : 246 < p0.toInt
  · rw [show g1_51 p0.toInt = g1_58 p0.toInt from if_pos hc]
    exact n1_58 hw p0 (own_icmpN w d1_55 rfl (by decide) hc)
  · rw [show g1_51 p0.toInt = g1_191 p0.toInt from if_neg hc]
    exact n1_191 hw p0 (own_icmpY w d1_55 rfl (by decide) hc (by decide) (by decide))
def g1_44 (i0 : Int) : Int32 := if i0 < 216 then g1_58 i0 else g1_51 i0
theorem n1_44 {K : OwnK} {Z : State} {n0 : Nat} {h : Heap} {a0 : Array Value} (hw : ∀ d ∈ tables_1, d.before a0 Z = true) (p0 : Int32) (w : own_W K b1 Z n0 h 0 0 44 #[.val (.int p0)] []) : own_G K n0 0 0 (fun v h' => v = some (.int (g1_44 p0.toInt)) ∧ h = h') := by
  replace w : own_W K b1 Z n0 h 0 0 45 #[.val (.int p0)] [(.int p0)] := own_iloadN w d1_44 rfl
  replace w : own_W K b1 Z n0 h 0 0 48 #[.val (.int p0)] [(.int (216 : Int32)), (.int p0)] := own_sipush w d1_45 rfl
  by_cases hc : p0.toInt < 216
  · rw [show g1_44 p0.toInt = g1_58 p0.toInt from if_pos hc]
    exact n1_58 hw p0 (own_icmpY w d1_48 rfl (by decide) hc (by decide) (by decide))
  · rw [show g1_44 p0.toInt = g1_51 p0.toInt from if_neg hc]
    exact n1_51 hw p0 (own_icmpN w d1_48 rfl (by decide) hc)
def g1_37 (i0 : Int) : Int32 := if 214 < i0 then g1_44 i0 else g1_191 i0
theorem n1_37 {K : OwnK} {Z : State} {n0 : Nat} {h : Heap} {a0 : Array Value} (hw : ∀ d ∈ tables_1, d.before a0 Z = true) (p0 : Int32) (w : own_W K b1 Z n0 h 0 0 37 #[.val (.int p0)] []) : own_G K n0 0 0 (fun v h' => v = some (.int (g1_37 p0.toInt)) ∧ h = h') := by
  replace w : own_W K b1 Z n0 h 0 0 38 #[.val (.int p0)] [(.int p0)] := own_iloadN w d1_37 rfl
  replace w : own_W K b1 Z n0 h 0 0 41 #[.val (.int p0)] [(.int (214 : Int32)), (.int p0)] := own_sipush w d1_38 rfl
  by_cases hc : 214 < p0.toInt
  · rw [show g1_37 p0.toInt = g1_44 p0.toInt from if_pos hc]
    exact n1_44 hw p0 (own_icmpN w d1_41 rfl (by decide) hc)
  · rw [show g1_37 p0.toInt = g1_191 p0.toInt from if_neg hc]
    exact n1_191 hw p0 (own_icmpY w d1_41 rfl (by decide) hc (by decide) (by decide))
def g1_30 (i0 : Int) : Int32 := if i0 < 192 then g1_44 i0 else g1_37 i0
theorem n1_30 {K : OwnK} {Z : State} {n0 : Nat} {h : Heap} {a0 : Array Value} (hw : ∀ d ∈ tables_1, d.before a0 Z = true) (p0 : Int32) (w : own_W K b1 Z n0 h 0 0 30 #[.val (.int p0)] []) : own_G K n0 0 0 (fun v h' => v = some (.int (g1_30 p0.toInt)) ∧ h = h') := by
  replace w : own_W K b1 Z n0 h 0 0 31 #[.val (.int p0)] [(.int p0)] := own_iloadN w d1_30 rfl
  replace w : own_W K b1 Z n0 h 0 0 34 #[.val (.int p0)] [(.int (192 : Int32)), (.int p0)] := own_sipush w d1_31 rfl
  by_cases hc : p0.toInt < 192
  · rw [show g1_30 p0.toInt = g1_44 p0.toInt from if_pos hc]
    exact n1_44 hw p0 (own_icmpY w d1_34 rfl (by decide) hc (by decide) (by decide))
  · rw [show g1_30 p0.toInt = g1_37 p0.toInt from if_neg hc]
    exact n1_37 hw p0 (own_icmpN w d1_34 rfl (by decide) hc)
def g1_24 (i0 : Int) : Int32 := if i0 = 95 then g1_191 i0 else g1_30 i0
theorem n1_24 {K : OwnK} {Z : State} {n0 : Nat} {h : Heap} {a0 : Array Value} (hw : ∀ d ∈ tables_1, d.before a0 Z = true) (p0 : Int32) (w : own_W K b1 Z n0 h 0 0 24 #[.val (.int p0)] []) : own_G K n0 0 0 (fun v h' => v = some (.int (g1_24 p0.toInt)) ∧ h = h') := by
  replace w : own_W K b1 Z n0 h 0 0 25 #[.val (.int p0)] [(.int p0)] := own_iloadN w d1_24 rfl
  replace w : own_W K b1 Z n0 h 0 0 27 #[.val (.int p0)] [(.int (95 : Int32)), (.int p0)] := own_bipush w d1_25 rfl
  by_cases hc : p0.toInt = 95
  · rw [show g1_24 p0.toInt = g1_191 p0.toInt from if_pos hc]
    exact n1_191 hw p0 (own_icmpY w d1_27 rfl (by decide) hc (by decide) (by decide))
  · rw [show g1_24 p0.toInt = g1_30 p0.toInt from if_neg hc]
    exact n1_30 hw p0 (own_icmpN w d1_27 rfl (by decide) hc)
def g1_18 (i0 : Int) : Int32 := if 90 < i0 then g1_24 i0 else g1_191 i0
theorem n1_18 {K : OwnK} {Z : State} {n0 : Nat} {h : Heap} {a0 : Array Value} (hw : ∀ d ∈ tables_1, d.before a0 Z = true) (p0 : Int32) (w : own_W K b1 Z n0 h 0 0 18 #[.val (.int p0)] []) : own_G K n0 0 0 (fun v h' => v = some (.int (g1_18 p0.toInt)) ∧ h = h') := by
  replace w : own_W K b1 Z n0 h 0 0 19 #[.val (.int p0)] [(.int p0)] := own_iloadN w d1_18 rfl
  replace w : own_W K b1 Z n0 h 0 0 21 #[.val (.int p0)] [(.int (90 : Int32)), (.int p0)] := own_bipush w d1_19 rfl
  by_cases hc : 90 < p0.toInt
  · rw [show g1_18 p0.toInt = g1_24 p0.toInt from if_pos hc]
    exact n1_24 hw p0 (own_icmpN w d1_21 rfl (by decide) hc)
  · rw [show g1_18 p0.toInt = g1_191 p0.toInt from if_neg hc]
    exact n1_191 hw p0 (own_icmpY w d1_21 rfl (by decide) hc (by decide) (by decide))
def g1_12 (i0 : Int) : Int32 := if i0 < 65 then g1_24 i0 else g1_18 i0
theorem n1_12 {K : OwnK} {Z : State} {n0 : Nat} {h : Heap} {a0 : Array Value} (hw : ∀ d ∈ tables_1, d.before a0 Z = true) (p0 : Int32) (w : own_W K b1 Z n0 h 0 0 12 #[.val (.int p0)] []) : own_G K n0 0 0 (fun v h' => v = some (.int (g1_12 p0.toInt)) ∧ h = h') := by
  replace w : own_W K b1 Z n0 h 0 0 13 #[.val (.int p0)] [(.int p0)] := own_iloadN w d1_12 rfl
  replace w : own_W K b1 Z n0 h 0 0 15 #[.val (.int p0)] [(.int (65 : Int32)), (.int p0)] := own_bipush w d1_13 rfl
  by_cases hc : p0.toInt < 65
  · rw [show g1_12 p0.toInt = g1_24 p0.toInt from if_pos hc]
    exact n1_24 hw p0 (own_icmpY w d1_15 rfl (by decide) hc (by decide) (by decide))
  · rw [show g1_12 p0.toInt = g1_18 p0.toInt from if_neg hc]
    exact n1_18 hw p0 (own_icmpN w d1_15 rfl (by decide) hc)
def g1_6 (i0 : Int) : Int32 := if 122 < i0 then g1_12 i0 else g1_191 i0
theorem n1_6 {K : OwnK} {Z : State} {n0 : Nat} {h : Heap} {a0 : Array Value} (hw : ∀ d ∈ tables_1, d.before a0 Z = true) (p0 : Int32) (w : own_W K b1 Z n0 h 0 0 6 #[.val (.int p0)] []) : own_G K n0 0 0 (fun v h' => v = some (.int (g1_6 p0.toInt)) ∧ h = h') := by
  replace w : own_W K b1 Z n0 h 0 0 7 #[.val (.int p0)] [(.int p0)] := own_iloadN w d1_6 rfl
  replace w : own_W K b1 Z n0 h 0 0 9 #[.val (.int p0)] [(.int (122 : Int32)), (.int p0)] := own_bipush w d1_7 rfl
  by_cases hc : 122 < p0.toInt
  · rw [show g1_6 p0.toInt = g1_12 p0.toInt from if_pos hc]
    exact n1_12 hw p0 (own_icmpN w d1_9 rfl (by decide) hc)
  · rw [show g1_6 p0.toInt = g1_191 p0.toInt from if_neg hc]
    exact n1_191 hw p0 (own_icmpY w d1_9 rfl (by decide) hc (by decide) (by decide))
def g1_0 (i0 : Int) : Int32 := if i0 < 97 then g1_12 i0 else g1_6 i0
theorem n1_0 {K : OwnK} {Z : State} {n0 : Nat} {h : Heap} {a0 : Array Value} (hw : ∀ d ∈ tables_1, d.before a0 Z = true) (p0 : Int32) (w : own_W K b1 Z n0 h 0 0 0 #[.val (.int p0)] []) : own_G K n0 0 0 (fun v h' => v = some (.int (g1_0 p0.toInt)) ∧ h = h') := by
  replace w : own_W K b1 Z n0 h 0 0 1 #[.val (.int p0)] [(.int p0)] := own_iloadN w d1_0 rfl
  replace w : own_W K b1 Z n0 h 0 0 3 #[.val (.int p0)] [(.int (97 : Int32)), (.int p0)] := own_bipush w d1_1 rfl
  by_cases hc : p0.toInt < 97
  · rw [show g1_0 p0.toInt = g1_12 p0.toInt from if_pos hc]
    exact n1_12 hw p0 (own_icmpY w d1_3 rfl (by decide) hc (by decide) (by decide))
  · rw [show g1_0 p0.toInt = g1_6 p0.toInt from if_neg hc]
    exact n1_6 hw p0 (own_icmpN w d1_3 rfl (by decide) hc)
theorem rm1 {Z : State} {n0 : Nat} {h : Heap} {a0 : Array Value} (hw : ∀ d ∈ tables_1, d.before a0 Z = true) (p0 : Int32) (hn : n0 ≤ h.size) : ∀ l, own_M l Z n0 b1 #[(.int p0)] h (fun v h' => v = some (.int (g1_0 p0.toInt)) ∧ h = h') :=
  fun l => own_enter hn pn_1 (ef_1 p0) (fun K w => n1_0 hw p0 w)
abbrev b0 : OwnB := (x, code, maxLocals, ret, room_1)
theorem pn_0 : plainName "com/example/xqstat/xqstat/document/XmlCharactersIsNameStartPinLaw" = true := by first | (simp [plainName, overriddenIn]; done) | decide +kernel
theorem pd_0 : parseMethodDescriptor "(II)Z" = some ⟨[.int, .int], (some .boolean)⟩ := by decide +kernel
theorem ef_0 (p0 : Int32) (p1 : Int32) (m : MethodId) : entryFrame m #[(.int p0), (.int p1)] maxLocals = mkF m 0 #[.val (.int p0), .val (.int p1), .unset, .unset, .unset, .unset, .unset, .unset, .unset, .unset, .unset, .unset, .unset, .unset, .unset] [] := by first | (simp [entryFrame, mkF, argsToLocals, Value.category, maxLocals]; done) | rfl
def own_lo : List Int64 := [65, 95, 97, 192, 216, 248, 880, 895, 8204, 8304, 11264, 12289, 63744, 65008, 65536, (-2147483648), 91, 96, 123, 215, 247, 768, 894, 8192, 8206, 8592, 12272, 55296, 64976, 65534, 983040]
def own_hi : List Int64 := [90, 95, 122, 214, 246, 767, 893, 8191, 8205, 8591, 12271, 55295, 64975, 65533, 983039, 64, 94, 96, 191, 215, 247, 879, 894, 8203, 8303, 11263, 12288, 63743, 65007, 65535, 2147483647]
set_option maxHeartbeats 40000000 in
theorem own_facts (k : Nat) (hk : k < 31) : ∃ a b : Int, (own_lo.getD k 0).toInt = a ∧ (own_hi.getD k 0).toInt = b ∧ a ≤ b ∧ -2147483648 ≤ a ∧ b < 2147483648 ∧ ∀ i : Int, a ≤ i → i ≤ b → g1_0 i = if k < 15 then 1 else 0 := by
  have hh : k = 0 ∨ k = 1 ∨ k = 2 ∨ k = 3 ∨ k = 4 ∨ k = 5 ∨ k = 6 ∨ k = 7 ∨ k = 8 ∨ k = 9 ∨ k = 10 ∨ k = 11 ∨ k = 12 ∨ k = 13 ∨ k = 14 ∨ k = 15 ∨ k = 16 ∨ k = 17 ∨ k = 18 ∨ k = 19 ∨ k = 20 ∨ k = 21 ∨ k = 22 ∨ k = 23 ∨ k = 24 ∨ k = 25 ∨ k = 26 ∨ k = 27 ∨ k = 28 ∨ k = 29 ∨ k = 30 := by omega
  rcases hh with rfl | rfl | rfl | rfl | rfl | rfl | rfl | rfl | rfl | rfl | rfl | rfl | rfl | rfl | rfl | rfl | rfl | rfl | rfl | rfl | rfl | rfl | rfl | rfl | rfl | rfl | rfl | rfl | rfl | rfl | rfl
  · refine ⟨65, 90, by decide, by decide, by decide, by decide, by decide, fun i h1 h2 => ?_⟩
    rw [show g1_0 i = g1_12 i from if_pos (by omega), show g1_12 i = g1_18 i from if_neg (by omega), show g1_18 i = g1_191 i from if_neg (by omega), show g1_191 i = 1 from rfl]
    rfl
  · refine ⟨95, 95, by decide, by decide, by decide, by decide, by decide, fun i h1 h2 => ?_⟩
    rw [show g1_0 i = g1_12 i from if_pos (by omega), show g1_12 i = g1_18 i from if_neg (by omega), show g1_18 i = g1_24 i from if_pos (by omega), show g1_24 i = g1_191 i from if_pos (by omega), show g1_191 i = 1 from rfl]
    rfl
  · refine ⟨97, 122, by decide, by decide, by decide, by decide, by decide, fun i h1 h2 => ?_⟩
    rw [show g1_0 i = g1_6 i from if_neg (by omega), show g1_6 i = g1_191 i from if_neg (by omega), show g1_191 i = 1 from rfl]
    rfl
  · refine ⟨192, 214, by decide, by decide, by decide, by decide, by decide, fun i h1 h2 => ?_⟩
    rw [show g1_0 i = g1_6 i from if_neg (by omega), show g1_6 i = g1_12 i from if_pos (by omega), show g1_12 i = g1_18 i from if_neg (by omega), show g1_18 i = g1_24 i from if_pos (by omega), show g1_24 i = g1_30 i from if_neg (by omega), show g1_30 i = g1_37 i from if_neg (by omega), show g1_37 i = g1_191 i from if_neg (by omega), show g1_191 i = 1 from rfl]
    rfl
  · refine ⟨216, 246, by decide, by decide, by decide, by decide, by decide, fun i h1 h2 => ?_⟩
    rw [show g1_0 i = g1_6 i from if_neg (by omega), show g1_6 i = g1_12 i from if_pos (by omega), show g1_12 i = g1_18 i from if_neg (by omega), show g1_18 i = g1_24 i from if_pos (by omega), show g1_24 i = g1_30 i from if_neg (by omega), show g1_30 i = g1_37 i from if_neg (by omega), show g1_37 i = g1_44 i from if_pos (by omega), show g1_44 i = g1_51 i from if_neg (by omega), show g1_51 i = g1_191 i from if_neg (by omega), show g1_191 i = 1 from rfl]
    rfl
  · refine ⟨248, 767, by decide, by decide, by decide, by decide, by decide, fun i h1 h2 => ?_⟩
    rw [show g1_0 i = g1_6 i from if_neg (by omega), show g1_6 i = g1_12 i from if_pos (by omega), show g1_12 i = g1_18 i from if_neg (by omega), show g1_18 i = g1_24 i from if_pos (by omega), show g1_24 i = g1_30 i from if_neg (by omega), show g1_30 i = g1_37 i from if_neg (by omega), show g1_37 i = g1_44 i from if_pos (by omega), show g1_44 i = g1_51 i from if_neg (by omega), show g1_51 i = g1_58 i from if_pos (by omega), show g1_58 i = g1_65 i from if_neg (by omega), show g1_65 i = g1_191 i from if_neg (by omega), show g1_191 i = 1 from rfl]
    rfl
  · refine ⟨880, 893, by decide, by decide, by decide, by decide, by decide, fun i h1 h2 => ?_⟩
    rw [show g1_0 i = g1_6 i from if_neg (by omega), show g1_6 i = g1_12 i from if_pos (by omega), show g1_12 i = g1_18 i from if_neg (by omega), show g1_18 i = g1_24 i from if_pos (by omega), show g1_24 i = g1_30 i from if_neg (by omega), show g1_30 i = g1_37 i from if_neg (by omega), show g1_37 i = g1_44 i from if_pos (by omega), show g1_44 i = g1_51 i from if_neg (by omega), show g1_51 i = g1_58 i from if_pos (by omega), show g1_58 i = g1_65 i from if_neg (by omega), show g1_65 i = g1_72 i from if_pos (by omega), show g1_72 i = g1_79 i from if_neg (by omega), show g1_79 i = g1_191 i from if_neg (by omega), show g1_191 i = 1 from rfl]
    rfl
  · refine ⟨895, 8191, by decide, by decide, by decide, by decide, by decide, fun i h1 h2 => ?_⟩
    rw [show g1_0 i = g1_6 i from if_neg (by omega), show g1_6 i = g1_12 i from if_pos (by omega), show g1_12 i = g1_18 i from if_neg (by omega), show g1_18 i = g1_24 i from if_pos (by omega), show g1_24 i = g1_30 i from if_neg (by omega), show g1_30 i = g1_37 i from if_neg (by omega), show g1_37 i = g1_44 i from if_pos (by omega), show g1_44 i = g1_51 i from if_neg (by omega), show g1_51 i = g1_58 i from if_pos (by omega), show g1_58 i = g1_65 i from if_neg (by omega), show g1_65 i = g1_72 i from if_pos (by omega), show g1_72 i = g1_79 i from if_neg (by omega), show g1_79 i = g1_86 i from if_pos (by omega), show g1_86 i = g1_93 i from if_neg (by omega), show g1_93 i = g1_191 i from if_neg (by omega), show g1_191 i = 1 from rfl]
    rfl
  · refine ⟨8204, 8205, by decide, by decide, by decide, by decide, by decide, fun i h1 h2 => ?_⟩
    rw [show g1_0 i = g1_6 i from if_neg (by omega), show g1_6 i = g1_12 i from if_pos (by omega), show g1_12 i = g1_18 i from if_neg (by omega), show g1_18 i = g1_24 i from if_pos (by omega), show g1_24 i = g1_30 i from if_neg (by omega), show g1_30 i = g1_37 i from if_neg (by omega), show g1_37 i = g1_44 i from if_pos (by omega), show g1_44 i = g1_51 i from if_neg (by omega), show g1_51 i = g1_58 i from if_pos (by omega), show g1_58 i = g1_65 i from if_neg (by omega), show g1_65 i = g1_72 i from if_pos (by omega), show g1_72 i = g1_79 i from if_neg (by omega), show g1_79 i = g1_86 i from if_pos (by omega), show g1_86 i = g1_93 i from if_neg (by omega), show g1_93 i = g1_100 i from if_pos (by omega), show g1_100 i = g1_107 i from if_neg (by omega), show g1_107 i = g1_191 i from if_neg (by omega), show g1_191 i = 1 from rfl]
    rfl
  · refine ⟨8304, 8591, by decide, by decide, by decide, by decide, by decide, fun i h1 h2 => ?_⟩
    rw [show g1_0 i = g1_6 i from if_neg (by omega), show g1_6 i = g1_12 i from if_pos (by omega), show g1_12 i = g1_18 i from if_neg (by omega), show g1_18 i = g1_24 i from if_pos (by omega), show g1_24 i = g1_30 i from if_neg (by omega), show g1_30 i = g1_37 i from if_neg (by omega), show g1_37 i = g1_44 i from if_pos (by omega), show g1_44 i = g1_51 i from if_neg (by omega), show g1_51 i = g1_58 i from if_pos (by omega), show g1_58 i = g1_65 i from if_neg (by omega), show g1_65 i = g1_72 i from if_pos (by omega), show g1_72 i = g1_79 i from if_neg (by omega), show g1_79 i = g1_86 i from if_pos (by omega), show g1_86 i = g1_93 i from if_neg (by omega), show g1_93 i = g1_100 i from if_pos (by omega), show g1_100 i = g1_107 i from if_neg (by omega), show g1_107 i = g1_114 i from if_pos (by omega), show g1_114 i = g1_121 i from if_neg (by omega), show g1_121 i = g1_191 i from if_neg (by omega), show g1_191 i = 1 from rfl]
    rfl
  · refine ⟨11264, 12271, by decide, by decide, by decide, by decide, by decide, fun i h1 h2 => ?_⟩
    rw [show g1_0 i = g1_6 i from if_neg (by omega), show g1_6 i = g1_12 i from if_pos (by omega), show g1_12 i = g1_18 i from if_neg (by omega), show g1_18 i = g1_24 i from if_pos (by omega), show g1_24 i = g1_30 i from if_neg (by omega), show g1_30 i = g1_37 i from if_neg (by omega), show g1_37 i = g1_44 i from if_pos (by omega), show g1_44 i = g1_51 i from if_neg (by omega), show g1_51 i = g1_58 i from if_pos (by omega), show g1_58 i = g1_65 i from if_neg (by omega), show g1_65 i = g1_72 i from if_pos (by omega), show g1_72 i = g1_79 i from if_neg (by omega), show g1_79 i = g1_86 i from if_pos (by omega), show g1_86 i = g1_93 i from if_neg (by omega), show g1_93 i = g1_100 i from if_pos (by omega), show g1_100 i = g1_107 i from if_neg (by omega), show g1_107 i = g1_114 i from if_pos (by omega), show g1_114 i = g1_121 i from if_neg (by omega), show g1_121 i = g1_128 i from if_pos (by omega), show g1_128 i = g1_135 i from if_neg (by omega), show g1_135 i = g1_191 i from if_neg (by omega), show g1_191 i = 1 from rfl]
    rfl
  · refine ⟨12289, 55295, by decide, by decide, by decide, by decide, by decide, fun i h1 h2 => ?_⟩
    rw [show g1_0 i = g1_6 i from if_neg (by omega), show g1_6 i = g1_12 i from if_pos (by omega), show g1_12 i = g1_18 i from if_neg (by omega), show g1_18 i = g1_24 i from if_pos (by omega), show g1_24 i = g1_30 i from if_neg (by omega), show g1_30 i = g1_37 i from if_neg (by omega), show g1_37 i = g1_44 i from if_pos (by omega), show g1_44 i = g1_51 i from if_neg (by omega), show g1_51 i = g1_58 i from if_pos (by omega), show g1_58 i = g1_65 i from if_neg (by omega), show g1_65 i = g1_72 i from if_pos (by omega), show g1_72 i = g1_79 i from if_neg (by omega), show g1_79 i = g1_86 i from if_pos (by omega), show g1_86 i = g1_93 i from if_neg (by omega), show g1_93 i = g1_100 i from if_pos (by omega), show g1_100 i = g1_107 i from if_neg (by omega), show g1_107 i = g1_114 i from if_pos (by omega), show g1_114 i = g1_121 i from if_neg (by omega), show g1_121 i = g1_128 i from if_pos (by omega), show g1_128 i = g1_135 i from if_neg (by omega), show g1_135 i = g1_142 i from if_pos (by omega), show g1_142 i = g1_149 i from if_neg (by omega), show g1_149 i = g1_191 i from if_neg (by omega), show g1_191 i = 1 from rfl]
    rfl
  · refine ⟨63744, 64975, by decide, by decide, by decide, by decide, by decide, fun i h1 h2 => ?_⟩
    rw [show g1_0 i = g1_6 i from if_neg (by omega), show g1_6 i = g1_12 i from if_pos (by omega), show g1_12 i = g1_18 i from if_neg (by omega), show g1_18 i = g1_24 i from if_pos (by omega), show g1_24 i = g1_30 i from if_neg (by omega), show g1_30 i = g1_37 i from if_neg (by omega), show g1_37 i = g1_44 i from if_pos (by omega), show g1_44 i = g1_51 i from if_neg (by omega), show g1_51 i = g1_58 i from if_pos (by omega), show g1_58 i = g1_65 i from if_neg (by omega), show g1_65 i = g1_72 i from if_pos (by omega), show g1_72 i = g1_79 i from if_neg (by omega), show g1_79 i = g1_86 i from if_pos (by omega), show g1_86 i = g1_93 i from if_neg (by omega), show g1_93 i = g1_100 i from if_pos (by omega), show g1_100 i = g1_107 i from if_neg (by omega), show g1_107 i = g1_114 i from if_pos (by omega), show g1_114 i = g1_121 i from if_neg (by omega), show g1_121 i = g1_128 i from if_pos (by omega), show g1_128 i = g1_135 i from if_neg (by omega), show g1_135 i = g1_142 i from if_pos (by omega), show g1_142 i = g1_149 i from if_neg (by omega), show g1_149 i = g1_155 i from if_pos (by omega), show g1_155 i = g1_161 i from if_neg (by omega), show g1_161 i = g1_191 i from if_neg (by omega), show g1_191 i = 1 from rfl]
    rfl
  · refine ⟨65008, 65533, by decide, by decide, by decide, by decide, by decide, fun i h1 h2 => ?_⟩
    rw [show g1_0 i = g1_6 i from if_neg (by omega), show g1_6 i = g1_12 i from if_pos (by omega), show g1_12 i = g1_18 i from if_neg (by omega), show g1_18 i = g1_24 i from if_pos (by omega), show g1_24 i = g1_30 i from if_neg (by omega), show g1_30 i = g1_37 i from if_neg (by omega), show g1_37 i = g1_44 i from if_pos (by omega), show g1_44 i = g1_51 i from if_neg (by omega), show g1_51 i = g1_58 i from if_pos (by omega), show g1_58 i = g1_65 i from if_neg (by omega), show g1_65 i = g1_72 i from if_pos (by omega), show g1_72 i = g1_79 i from if_neg (by omega), show g1_79 i = g1_86 i from if_pos (by omega), show g1_86 i = g1_93 i from if_neg (by omega), show g1_93 i = g1_100 i from if_pos (by omega), show g1_100 i = g1_107 i from if_neg (by omega), show g1_107 i = g1_114 i from if_pos (by omega), show g1_114 i = g1_121 i from if_neg (by omega), show g1_121 i = g1_128 i from if_pos (by omega), show g1_128 i = g1_135 i from if_neg (by omega), show g1_135 i = g1_142 i from if_pos (by omega), show g1_142 i = g1_149 i from if_neg (by omega), show g1_149 i = g1_155 i from if_pos (by omega), show g1_155 i = g1_161 i from if_neg (by omega), show g1_161 i = g1_167 i from if_pos (by omega), show g1_167 i = g1_173 i from if_neg (by omega), show g1_173 i = g1_191 i from if_neg (by omega), show g1_191 i = 1 from rfl]
    rfl
  · refine ⟨65536, 983039, by decide, by decide, by decide, by decide, by decide, fun i h1 h2 => ?_⟩
    rw [show g1_0 i = g1_6 i from if_neg (by omega), show g1_6 i = g1_12 i from if_pos (by omega), show g1_12 i = g1_18 i from if_neg (by omega), show g1_18 i = g1_24 i from if_pos (by omega), show g1_24 i = g1_30 i from if_neg (by omega), show g1_30 i = g1_37 i from if_neg (by omega), show g1_37 i = g1_44 i from if_pos (by omega), show g1_44 i = g1_51 i from if_neg (by omega), show g1_51 i = g1_58 i from if_pos (by omega), show g1_58 i = g1_65 i from if_neg (by omega), show g1_65 i = g1_72 i from if_pos (by omega), show g1_72 i = g1_79 i from if_neg (by omega), show g1_79 i = g1_86 i from if_pos (by omega), show g1_86 i = g1_93 i from if_neg (by omega), show g1_93 i = g1_100 i from if_pos (by omega), show g1_100 i = g1_107 i from if_neg (by omega), show g1_107 i = g1_114 i from if_pos (by omega), show g1_114 i = g1_121 i from if_neg (by omega), show g1_121 i = g1_128 i from if_pos (by omega), show g1_128 i = g1_135 i from if_neg (by omega), show g1_135 i = g1_142 i from if_pos (by omega), show g1_142 i = g1_149 i from if_neg (by omega), show g1_149 i = g1_155 i from if_pos (by omega), show g1_155 i = g1_161 i from if_neg (by omega), show g1_161 i = g1_167 i from if_pos (by omega), show g1_167 i = g1_173 i from if_neg (by omega), show g1_173 i = g1_179 i from if_pos (by omega), show g1_179 i = g1_185 i from if_neg (by omega), show g1_185 i = g1_191 i from if_neg (by omega), show g1_191 i = 1 from rfl]
    rfl
  · refine ⟨-2147483648, 64, by decide, by decide, by decide, by decide, by decide, fun i h1 h2 => ?_⟩
    rw [show g1_0 i = g1_12 i from if_pos (by omega), show g1_12 i = g1_24 i from if_pos (by omega), show g1_24 i = g1_30 i from if_neg (by omega), show g1_30 i = g1_44 i from if_pos (by omega), show g1_44 i = g1_58 i from if_pos (by omega), show g1_58 i = g1_72 i from if_pos (by omega), show g1_72 i = g1_86 i from if_pos (by omega), show g1_86 i = g1_100 i from if_pos (by omega), show g1_100 i = g1_114 i from if_pos (by omega), show g1_114 i = g1_128 i from if_pos (by omega), show g1_128 i = g1_142 i from if_pos (by omega), show g1_142 i = g1_155 i from if_pos (by omega), show g1_155 i = g1_167 i from if_pos (by omega), show g1_167 i = g1_179 i from if_pos (by omega), show g1_179 i = g1_195 i from if_pos (by omega), show g1_195 i = 0 from rfl]
    rfl
  · refine ⟨91, 94, by decide, by decide, by decide, by decide, by decide, fun i h1 h2 => ?_⟩
    rw [show g1_0 i = g1_12 i from if_pos (by omega), show g1_12 i = g1_18 i from if_neg (by omega), show g1_18 i = g1_24 i from if_pos (by omega), show g1_24 i = g1_30 i from if_neg (by omega), show g1_30 i = g1_44 i from if_pos (by omega), show g1_44 i = g1_58 i from if_pos (by omega), show g1_58 i = g1_72 i from if_pos (by omega), show g1_72 i = g1_86 i from if_pos (by omega), show g1_86 i = g1_100 i from if_pos (by omega), show g1_100 i = g1_114 i from if_pos (by omega), show g1_114 i = g1_128 i from if_pos (by omega), show g1_128 i = g1_142 i from if_pos (by omega), show g1_142 i = g1_155 i from if_pos (by omega), show g1_155 i = g1_167 i from if_pos (by omega), show g1_167 i = g1_179 i from if_pos (by omega), show g1_179 i = g1_195 i from if_pos (by omega), show g1_195 i = 0 from rfl]
    rfl
  · refine ⟨96, 96, by decide, by decide, by decide, by decide, by decide, fun i h1 h2 => ?_⟩
    rw [show g1_0 i = g1_12 i from if_pos (by omega), show g1_12 i = g1_18 i from if_neg (by omega), show g1_18 i = g1_24 i from if_pos (by omega), show g1_24 i = g1_30 i from if_neg (by omega), show g1_30 i = g1_44 i from if_pos (by omega), show g1_44 i = g1_58 i from if_pos (by omega), show g1_58 i = g1_72 i from if_pos (by omega), show g1_72 i = g1_86 i from if_pos (by omega), show g1_86 i = g1_100 i from if_pos (by omega), show g1_100 i = g1_114 i from if_pos (by omega), show g1_114 i = g1_128 i from if_pos (by omega), show g1_128 i = g1_142 i from if_pos (by omega), show g1_142 i = g1_155 i from if_pos (by omega), show g1_155 i = g1_167 i from if_pos (by omega), show g1_167 i = g1_179 i from if_pos (by omega), show g1_179 i = g1_195 i from if_pos (by omega), show g1_195 i = 0 from rfl]
    rfl
  · refine ⟨123, 191, by decide, by decide, by decide, by decide, by decide, fun i h1 h2 => ?_⟩
    rw [show g1_0 i = g1_6 i from if_neg (by omega), show g1_6 i = g1_12 i from if_pos (by omega), show g1_12 i = g1_18 i from if_neg (by omega), show g1_18 i = g1_24 i from if_pos (by omega), show g1_24 i = g1_30 i from if_neg (by omega), show g1_30 i = g1_44 i from if_pos (by omega), show g1_44 i = g1_58 i from if_pos (by omega), show g1_58 i = g1_72 i from if_pos (by omega), show g1_72 i = g1_86 i from if_pos (by omega), show g1_86 i = g1_100 i from if_pos (by omega), show g1_100 i = g1_114 i from if_pos (by omega), show g1_114 i = g1_128 i from if_pos (by omega), show g1_128 i = g1_142 i from if_pos (by omega), show g1_142 i = g1_155 i from if_pos (by omega), show g1_155 i = g1_167 i from if_pos (by omega), show g1_167 i = g1_179 i from if_pos (by omega), show g1_179 i = g1_195 i from if_pos (by omega), show g1_195 i = 0 from rfl]
    rfl
  · refine ⟨215, 215, by decide, by decide, by decide, by decide, by decide, fun i h1 h2 => ?_⟩
    rw [show g1_0 i = g1_6 i from if_neg (by omega), show g1_6 i = g1_12 i from if_pos (by omega), show g1_12 i = g1_18 i from if_neg (by omega), show g1_18 i = g1_24 i from if_pos (by omega), show g1_24 i = g1_30 i from if_neg (by omega), show g1_30 i = g1_37 i from if_neg (by omega), show g1_37 i = g1_44 i from if_pos (by omega), show g1_44 i = g1_58 i from if_pos (by omega), show g1_58 i = g1_72 i from if_pos (by omega), show g1_72 i = g1_86 i from if_pos (by omega), show g1_86 i = g1_100 i from if_pos (by omega), show g1_100 i = g1_114 i from if_pos (by omega), show g1_114 i = g1_128 i from if_pos (by omega), show g1_128 i = g1_142 i from if_pos (by omega), show g1_142 i = g1_155 i from if_pos (by omega), show g1_155 i = g1_167 i from if_pos (by omega), show g1_167 i = g1_179 i from if_pos (by omega), show g1_179 i = g1_195 i from if_pos (by omega), show g1_195 i = 0 from rfl]
    rfl
  · refine ⟨247, 247, by decide, by decide, by decide, by decide, by decide, fun i h1 h2 => ?_⟩
    rw [show g1_0 i = g1_6 i from if_neg (by omega), show g1_6 i = g1_12 i from if_pos (by omega), show g1_12 i = g1_18 i from if_neg (by omega), show g1_18 i = g1_24 i from if_pos (by omega), show g1_24 i = g1_30 i from if_neg (by omega), show g1_30 i = g1_37 i from if_neg (by omega), show g1_37 i = g1_44 i from if_pos (by omega), show g1_44 i = g1_51 i from if_neg (by omega), show g1_51 i = g1_58 i from if_pos (by omega), show g1_58 i = g1_72 i from if_pos (by omega), show g1_72 i = g1_86 i from if_pos (by omega), show g1_86 i = g1_100 i from if_pos (by omega), show g1_100 i = g1_114 i from if_pos (by omega), show g1_114 i = g1_128 i from if_pos (by omega), show g1_128 i = g1_142 i from if_pos (by omega), show g1_142 i = g1_155 i from if_pos (by omega), show g1_155 i = g1_167 i from if_pos (by omega), show g1_167 i = g1_179 i from if_pos (by omega), show g1_179 i = g1_195 i from if_pos (by omega), show g1_195 i = 0 from rfl]
    rfl
  · refine ⟨768, 879, by decide, by decide, by decide, by decide, by decide, fun i h1 h2 => ?_⟩
    rw [show g1_0 i = g1_6 i from if_neg (by omega), show g1_6 i = g1_12 i from if_pos (by omega), show g1_12 i = g1_18 i from if_neg (by omega), show g1_18 i = g1_24 i from if_pos (by omega), show g1_24 i = g1_30 i from if_neg (by omega), show g1_30 i = g1_37 i from if_neg (by omega), show g1_37 i = g1_44 i from if_pos (by omega), show g1_44 i = g1_51 i from if_neg (by omega), show g1_51 i = g1_58 i from if_pos (by omega), show g1_58 i = g1_65 i from if_neg (by omega), show g1_65 i = g1_72 i from if_pos (by omega), show g1_72 i = g1_86 i from if_pos (by omega), show g1_86 i = g1_100 i from if_pos (by omega), show g1_100 i = g1_114 i from if_pos (by omega), show g1_114 i = g1_128 i from if_pos (by omega), show g1_128 i = g1_142 i from if_pos (by omega), show g1_142 i = g1_155 i from if_pos (by omega), show g1_155 i = g1_167 i from if_pos (by omega), show g1_167 i = g1_179 i from if_pos (by omega), show g1_179 i = g1_195 i from if_pos (by omega), show g1_195 i = 0 from rfl]
    rfl
  · refine ⟨894, 894, by decide, by decide, by decide, by decide, by decide, fun i h1 h2 => ?_⟩
    rw [show g1_0 i = g1_6 i from if_neg (by omega), show g1_6 i = g1_12 i from if_pos (by omega), show g1_12 i = g1_18 i from if_neg (by omega), show g1_18 i = g1_24 i from if_pos (by omega), show g1_24 i = g1_30 i from if_neg (by omega), show g1_30 i = g1_37 i from if_neg (by omega), show g1_37 i = g1_44 i from if_pos (by omega), show g1_44 i = g1_51 i from if_neg (by omega), show g1_51 i = g1_58 i from if_pos (by omega), show g1_58 i = g1_65 i from if_neg (by omega), show g1_65 i = g1_72 i from if_pos (by omega), show g1_72 i = g1_79 i from if_neg (by omega), show g1_79 i = g1_86 i from if_pos (by omega), show g1_86 i = g1_100 i from if_pos (by omega), show g1_100 i = g1_114 i from if_pos (by omega), show g1_114 i = g1_128 i from if_pos (by omega), show g1_128 i = g1_142 i from if_pos (by omega), show g1_142 i = g1_155 i from if_pos (by omega), show g1_155 i = g1_167 i from if_pos (by omega), show g1_167 i = g1_179 i from if_pos (by omega), show g1_179 i = g1_195 i from if_pos (by omega), show g1_195 i = 0 from rfl]
    rfl
  · refine ⟨8192, 8203, by decide, by decide, by decide, by decide, by decide, fun i h1 h2 => ?_⟩
    rw [show g1_0 i = g1_6 i from if_neg (by omega), show g1_6 i = g1_12 i from if_pos (by omega), show g1_12 i = g1_18 i from if_neg (by omega), show g1_18 i = g1_24 i from if_pos (by omega), show g1_24 i = g1_30 i from if_neg (by omega), show g1_30 i = g1_37 i from if_neg (by omega), show g1_37 i = g1_44 i from if_pos (by omega), show g1_44 i = g1_51 i from if_neg (by omega), show g1_51 i = g1_58 i from if_pos (by omega), show g1_58 i = g1_65 i from if_neg (by omega), show g1_65 i = g1_72 i from if_pos (by omega), show g1_72 i = g1_79 i from if_neg (by omega), show g1_79 i = g1_86 i from if_pos (by omega), show g1_86 i = g1_93 i from if_neg (by omega), show g1_93 i = g1_100 i from if_pos (by omega), show g1_100 i = g1_114 i from if_pos (by omega), show g1_114 i = g1_128 i from if_pos (by omega), show g1_128 i = g1_142 i from if_pos (by omega), show g1_142 i = g1_155 i from if_pos (by omega), show g1_155 i = g1_167 i from if_pos (by omega), show g1_167 i = g1_179 i from if_pos (by omega), show g1_179 i = g1_195 i from if_pos (by omega), show g1_195 i = 0 from rfl]
    rfl
  · refine ⟨8206, 8303, by decide, by decide, by decide, by decide, by decide, fun i h1 h2 => ?_⟩
    rw [show g1_0 i = g1_6 i from if_neg (by omega), show g1_6 i = g1_12 i from if_pos (by omega), show g1_12 i = g1_18 i from if_neg (by omega), show g1_18 i = g1_24 i from if_pos (by omega), show g1_24 i = g1_30 i from if_neg (by omega), show g1_30 i = g1_37 i from if_neg (by omega), show g1_37 i = g1_44 i from if_pos (by omega), show g1_44 i = g1_51 i from if_neg (by omega), show g1_51 i = g1_58 i from if_pos (by omega), show g1_58 i = g1_65 i from if_neg (by omega), show g1_65 i = g1_72 i from if_pos (by omega), show g1_72 i = g1_79 i from if_neg (by omega), show g1_79 i = g1_86 i from if_pos (by omega), show g1_86 i = g1_93 i from if_neg (by omega), show g1_93 i = g1_100 i from if_pos (by omega), show g1_100 i = g1_107 i from if_neg (by omega), show g1_107 i = g1_114 i from if_pos (by omega), show g1_114 i = g1_128 i from if_pos (by omega), show g1_128 i = g1_142 i from if_pos (by omega), show g1_142 i = g1_155 i from if_pos (by omega), show g1_155 i = g1_167 i from if_pos (by omega), show g1_167 i = g1_179 i from if_pos (by omega), show g1_179 i = g1_195 i from if_pos (by omega), show g1_195 i = 0 from rfl]
    rfl
  · refine ⟨8592, 11263, by decide, by decide, by decide, by decide, by decide, fun i h1 h2 => ?_⟩
    rw [show g1_0 i = g1_6 i from if_neg (by omega), show g1_6 i = g1_12 i from if_pos (by omega), show g1_12 i = g1_18 i from if_neg (by omega), show g1_18 i = g1_24 i from if_pos (by omega), show g1_24 i = g1_30 i from if_neg (by omega), show g1_30 i = g1_37 i from if_neg (by omega), show g1_37 i = g1_44 i from if_pos (by omega), show g1_44 i = g1_51 i from if_neg (by omega), show g1_51 i = g1_58 i from if_pos (by omega), show g1_58 i = g1_65 i from if_neg (by omega), show g1_65 i = g1_72 i from if_pos (by omega), show g1_72 i = g1_79 i from if_neg (by omega), show g1_79 i = g1_86 i from if_pos (by omega), show g1_86 i = g1_93 i from if_neg (by omega), show g1_93 i = g1_100 i from if_pos (by omega), show g1_100 i = g1_107 i from if_neg (by omega), show g1_107 i = g1_114 i from if_pos (by omega), show g1_114 i = g1_121 i from if_neg (by omega), show g1_121 i = g1_128 i from if_pos (by omega), show g1_128 i = g1_142 i from if_pos (by omega), show g1_142 i = g1_155 i from if_pos (by omega), show g1_155 i = g1_167 i from if_pos (by omega), show g1_167 i = g1_179 i from if_pos (by omega), show g1_179 i = g1_195 i from if_pos (by omega), show g1_195 i = 0 from rfl]
    rfl
  · refine ⟨12272, 12288, by decide, by decide, by decide, by decide, by decide, fun i h1 h2 => ?_⟩
    rw [show g1_0 i = g1_6 i from if_neg (by omega), show g1_6 i = g1_12 i from if_pos (by omega), show g1_12 i = g1_18 i from if_neg (by omega), show g1_18 i = g1_24 i from if_pos (by omega), show g1_24 i = g1_30 i from if_neg (by omega), show g1_30 i = g1_37 i from if_neg (by omega), show g1_37 i = g1_44 i from if_pos (by omega), show g1_44 i = g1_51 i from if_neg (by omega), show g1_51 i = g1_58 i from if_pos (by omega), show g1_58 i = g1_65 i from if_neg (by omega), show g1_65 i = g1_72 i from if_pos (by omega), show g1_72 i = g1_79 i from if_neg (by omega), show g1_79 i = g1_86 i from if_pos (by omega), show g1_86 i = g1_93 i from if_neg (by omega), show g1_93 i = g1_100 i from if_pos (by omega), show g1_100 i = g1_107 i from if_neg (by omega), show g1_107 i = g1_114 i from if_pos (by omega), show g1_114 i = g1_121 i from if_neg (by omega), show g1_121 i = g1_128 i from if_pos (by omega), show g1_128 i = g1_135 i from if_neg (by omega), show g1_135 i = g1_142 i from if_pos (by omega), show g1_142 i = g1_155 i from if_pos (by omega), show g1_155 i = g1_167 i from if_pos (by omega), show g1_167 i = g1_179 i from if_pos (by omega), show g1_179 i = g1_195 i from if_pos (by omega), show g1_195 i = 0 from rfl]
    rfl
  · refine ⟨55296, 63743, by decide, by decide, by decide, by decide, by decide, fun i h1 h2 => ?_⟩
    rw [show g1_0 i = g1_6 i from if_neg (by omega), show g1_6 i = g1_12 i from if_pos (by omega), show g1_12 i = g1_18 i from if_neg (by omega), show g1_18 i = g1_24 i from if_pos (by omega), show g1_24 i = g1_30 i from if_neg (by omega), show g1_30 i = g1_37 i from if_neg (by omega), show g1_37 i = g1_44 i from if_pos (by omega), show g1_44 i = g1_51 i from if_neg (by omega), show g1_51 i = g1_58 i from if_pos (by omega), show g1_58 i = g1_65 i from if_neg (by omega), show g1_65 i = g1_72 i from if_pos (by omega), show g1_72 i = g1_79 i from if_neg (by omega), show g1_79 i = g1_86 i from if_pos (by omega), show g1_86 i = g1_93 i from if_neg (by omega), show g1_93 i = g1_100 i from if_pos (by omega), show g1_100 i = g1_107 i from if_neg (by omega), show g1_107 i = g1_114 i from if_pos (by omega), show g1_114 i = g1_121 i from if_neg (by omega), show g1_121 i = g1_128 i from if_pos (by omega), show g1_128 i = g1_135 i from if_neg (by omega), show g1_135 i = g1_142 i from if_pos (by omega), show g1_142 i = g1_149 i from if_neg (by omega), show g1_149 i = g1_155 i from if_pos (by omega), show g1_155 i = g1_167 i from if_pos (by omega), show g1_167 i = g1_179 i from if_pos (by omega), show g1_179 i = g1_195 i from if_pos (by omega), show g1_195 i = 0 from rfl]
    rfl
  · refine ⟨64976, 65007, by decide, by decide, by decide, by decide, by decide, fun i h1 h2 => ?_⟩
    rw [show g1_0 i = g1_6 i from if_neg (by omega), show g1_6 i = g1_12 i from if_pos (by omega), show g1_12 i = g1_18 i from if_neg (by omega), show g1_18 i = g1_24 i from if_pos (by omega), show g1_24 i = g1_30 i from if_neg (by omega), show g1_30 i = g1_37 i from if_neg (by omega), show g1_37 i = g1_44 i from if_pos (by omega), show g1_44 i = g1_51 i from if_neg (by omega), show g1_51 i = g1_58 i from if_pos (by omega), show g1_58 i = g1_65 i from if_neg (by omega), show g1_65 i = g1_72 i from if_pos (by omega), show g1_72 i = g1_79 i from if_neg (by omega), show g1_79 i = g1_86 i from if_pos (by omega), show g1_86 i = g1_93 i from if_neg (by omega), show g1_93 i = g1_100 i from if_pos (by omega), show g1_100 i = g1_107 i from if_neg (by omega), show g1_107 i = g1_114 i from if_pos (by omega), show g1_114 i = g1_121 i from if_neg (by omega), show g1_121 i = g1_128 i from if_pos (by omega), show g1_128 i = g1_135 i from if_neg (by omega), show g1_135 i = g1_142 i from if_pos (by omega), show g1_142 i = g1_149 i from if_neg (by omega), show g1_149 i = g1_155 i from if_pos (by omega), show g1_155 i = g1_161 i from if_neg (by omega), show g1_161 i = g1_167 i from if_pos (by omega), show g1_167 i = g1_179 i from if_pos (by omega), show g1_179 i = g1_195 i from if_pos (by omega), show g1_195 i = 0 from rfl]
    rfl
  · refine ⟨65534, 65535, by decide, by decide, by decide, by decide, by decide, fun i h1 h2 => ?_⟩
    rw [show g1_0 i = g1_6 i from if_neg (by omega), show g1_6 i = g1_12 i from if_pos (by omega), show g1_12 i = g1_18 i from if_neg (by omega), show g1_18 i = g1_24 i from if_pos (by omega), show g1_24 i = g1_30 i from if_neg (by omega), show g1_30 i = g1_37 i from if_neg (by omega), show g1_37 i = g1_44 i from if_pos (by omega), show g1_44 i = g1_51 i from if_neg (by omega), show g1_51 i = g1_58 i from if_pos (by omega), show g1_58 i = g1_65 i from if_neg (by omega), show g1_65 i = g1_72 i from if_pos (by omega), show g1_72 i = g1_79 i from if_neg (by omega), show g1_79 i = g1_86 i from if_pos (by omega), show g1_86 i = g1_93 i from if_neg (by omega), show g1_93 i = g1_100 i from if_pos (by omega), show g1_100 i = g1_107 i from if_neg (by omega), show g1_107 i = g1_114 i from if_pos (by omega), show g1_114 i = g1_121 i from if_neg (by omega), show g1_121 i = g1_128 i from if_pos (by omega), show g1_128 i = g1_135 i from if_neg (by omega), show g1_135 i = g1_142 i from if_pos (by omega), show g1_142 i = g1_149 i from if_neg (by omega), show g1_149 i = g1_155 i from if_pos (by omega), show g1_155 i = g1_161 i from if_neg (by omega), show g1_161 i = g1_167 i from if_pos (by omega), show g1_167 i = g1_173 i from if_neg (by omega), show g1_173 i = g1_179 i from if_pos (by omega), show g1_179 i = g1_195 i from if_pos (by omega), show g1_195 i = 0 from rfl]
    rfl
  · refine ⟨983040, 2147483647, by decide, by decide, by decide, by decide, by decide, fun i h1 h2 => ?_⟩
    rw [show g1_0 i = g1_6 i from if_neg (by omega), show g1_6 i = g1_12 i from if_pos (by omega), show g1_12 i = g1_18 i from if_neg (by omega), show g1_18 i = g1_24 i from if_pos (by omega), show g1_24 i = g1_30 i from if_neg (by omega), show g1_30 i = g1_37 i from if_neg (by omega), show g1_37 i = g1_44 i from if_pos (by omega), show g1_44 i = g1_51 i from if_neg (by omega), show g1_51 i = g1_58 i from if_pos (by omega), show g1_58 i = g1_65 i from if_neg (by omega), show g1_65 i = g1_72 i from if_pos (by omega), show g1_72 i = g1_79 i from if_neg (by omega), show g1_79 i = g1_86 i from if_pos (by omega), show g1_86 i = g1_93 i from if_neg (by omega), show g1_93 i = g1_100 i from if_pos (by omega), show g1_100 i = g1_107 i from if_neg (by omega), show g1_107 i = g1_114 i from if_pos (by omega), show g1_114 i = g1_121 i from if_neg (by omega), show g1_121 i = g1_128 i from if_pos (by omega), show g1_128 i = g1_135 i from if_neg (by omega), show g1_135 i = g1_142 i from if_pos (by omega), show g1_142 i = g1_149 i from if_neg (by omega), show g1_149 i = g1_155 i from if_pos (by omega), show g1_155 i = g1_161 i from if_neg (by omega), show g1_161 i = g1_167 i from if_pos (by omega), show g1_167 i = g1_173 i from if_neg (by omega), show g1_173 i = g1_179 i from if_pos (by omega), show g1_179 i = g1_185 i from if_neg (by omega), show g1_185 i = g1_195 i from if_pos (by omega), show g1_195 i = 0 from rfl]
    rfl
theorem own_core (k : Nat) (hk : k < 31) {u v o : Int64} (eu : u = own_lo.getD k 0) (ev : v = own_hi.getD k 0) (ho : 0 ≤ o.toInt) :
    v - u + 1 ≠ 0 ∧ g1_0 u.toInt32.toInt = (if k < 15 then 1 else 0) ∧ g1_0 v.toInt32.toInt = (if k < 15 then 1 else 0) ∧ g1_0 (u + (o - (o / (v - u + 1)) * (v - u + 1))).toInt32.toInt = (if k < 15 then 1 else 0) := by
  obtain ⟨a, b, ea, eb, h1, h2, h3, H⟩ := own_facts k hk
  rw [← eu] at ea
  rw [← ev] at eb
  have e1 : (1 : Int64).toInt = 1 := by decide
  have q1 : (v - u).toInt = b - a := by rw [Jvm.Kit.i64_sub (by omega) (by omega), ea, eb]
  have q2 : (v - u + 1).toInt = b - a + 1 := by rw [Jvm.Kit.i64_add (by omega) (by omega), q1, e1]
  have q3 : (o - (o / (v - u + 1)) * (v - u + 1)).toInt = o.toInt % (b - a + 1) := by rw [Jvm.Kit.i64_rem_nonneg ho, q2]
  have q4 := Int.emod_nonneg o.toInt (show b - a + 1 ≠ 0 by omega)
  have q5 := Int.emod_lt_of_pos o.toInt (show 0 < b - a + 1 by omega)
  have q6 : (u + (o - (o / (v - u + 1)) * (v - u + 1))).toInt = a + o.toInt % (b - a + 1) := by rw [Jvm.Kit.i64_add (by omega) (by omega), q3, ea]
  refine ⟨fun e => ?_, ?_, ?_, ?_⟩
  · rw [e] at q2
    have e0 : (0 : Int64).toInt = 0 := by decide
    omega
  · rw [Jvm.Kit.i32_of_i64 (by omega) (by omega), ea]; exact H _ (by omega) (by omega)
  · rw [Jvm.Kit.i32_of_i64 (by omega) (by omega), eb]; exact H _ (by omega) (by omega)
  · rw [Jvm.Kit.i32_of_i64 (by omega) (by omega), q6]; exact H _ (by omega) (by omega)
theorem own_idx (x : Int32) : ∃ k : Nat, k < 31 ∧ ((x &&& (2147483647 : Int32)) % (31 : Int32)).toInt = k := by
  obtain ⟨h1, h2⟩ := Jvm.Kit.i32_and_bounds x (m := 2147483647) (by decide)
  have h0 := Jvm.Kit.i32_nonneg.mp h1
  have h1 : ((x &&& (2147483647 : Int32)) % (31 : Int32)).toInt = (x &&& (2147483647 : Int32)).toInt % 31 := by
    rw [Int32.toInt_mod, Int.tmod_eq_emod_of_nonneg h0]; rfl
  exact ⟨((x &&& (2147483647 : Int32)).toInt % 31).toNat, by omega, by omega⟩
theorem own_off (x : Int32) : 0 ≤ (x.toInt64 &&& (4294967295 : Int64)).toInt := by
  rw [Jvm.Kit.i64_mask _ _ (k := 32) (by decide) (by decide)]; omega
set_option maxRecDepth 65536 in
set_option maxHeartbeats 40000000 in
theorem own_law0 {K : OwnK} {Z : State} {n0 : Nat} {h : Heap} {a0 : Array Value} (hw : ∀ d ∈ tables_1, d.before a0 Z = true) (p0 : Int32) (p1 : Int32) (w : own_W K b0 Z n0 h 0 0 0 #[.val (.int p0), .val (.int p1), .unset, .unset, .unset, .unset, .unset, .unset, .unset, .unset, .unset, .unset, .unset, .unset, .unset] []) : own_G K n0 b0.rm.cells b0.rm.slots (fun v _ => v = some (.int 1)) := by
  replace w : own_W K b0 Z n0 h 0 0 2 #[.val (.int p0), .val (.int p1), .unset, .unset, .unset, .unset, .unset, .unset, .unset, .unset, .unset, .unset, .unset, .unset, .unset] [(.int (31 : Int32))] := own_bipush w at_0 rfl
  obtain ⟨h_a1, a1, w, s_a1, g_a1, E_a1, A_a1⟩ := own_newJ w at_2 (hw _ (List.mem_of_getElem? (i := 0) rfl)) 31 31 (by decide) (Nat.le_refl _) (by decide) (by decide) (by decide) (l' := [0, 0, 0, 0, 0, 0, 0, 0, 0, 0, 0, 0, 0, 0, 0, 0, 0, 0, 0, 0, 0, 0, 0, 0, 0, 0, 0, 0, 0, 0, 0]) rfl
  replace w : own_W K b0 Z n0 h_a1 1 31 4 #[.val (.int p0), .val (.int p1), .unset, .unset, .unset, .unset, .unset, .unset, .unset, .unset, .unset, .unset, .unset, .unset, .unset] [(.ref a1)] := w
  replace A_a1 : own_J Z h_a1 a1 [0, 0, 0, 0, 0, 0, 0, 0, 0, 0, 0, 0, 0, 0, 0, 0, 0, 0, 0, 0, 0, 0, 0, 0, 0, 0, 0, 0, 0, 0, 0] := A_a1
  replace w : own_W K b0 Z n0 h_a1 1 31 5 #[.val (.int p0), .val (.int p1), .unset, .unset, .unset, .unset, .unset, .unset, .unset, .unset, .unset, .unset, .unset, .unset, .unset] [(.ref a1), (.ref a1)] := own_dup w at_4 rfl
  replace w : own_W K b0 Z n0 h_a1 1 31 6 #[.val (.int p0), .val (.int p1), .unset, .unset, .unset, .unset, .unset, .unset, .unset, .unset, .unset, .unset, .unset, .unset, .unset] [(.int (0 : Int32)), (.ref a1), (.ref a1)] := own_iconst w at_5 rfl
  replace w : own_W K b0 Z n0 h_a1 1 31 9 #[.val (.int p0), .val (.int p1), .unset, .unset, .unset, .unset, .unset, .unset, .unset, .unset, .unset, .unset, .unset, .unset, .unset] [(.long (65 : Int64)), (.int (0 : Int32)), (.ref a1), (.ref a1)] := own_ldc2 w at_6 (hw _ (List.mem_of_getElem? (i := 1) rfl))
  obtain ⟨h1, w, A_a1, K_h1⟩ := own_lastore w at_9 A_a1 0 (by decide) (Nat.le_of_ble_eq_true rfl) g_a1 (l' := [65, 0, 0, 0, 0, 0, 0, 0, 0, 0, 0, 0, 0, 0, 0, 0, 0, 0, 0, 0, 0, 0, 0, 0, 0, 0, 0, 0, 0, 0, 0]) rfl
  replace w : own_W K b0 Z n0 h1 1 31 10 #[.val (.int p0), .val (.int p1), .unset, .unset, .unset, .unset, .unset, .unset, .unset, .unset, .unset, .unset, .unset, .unset, .unset] [(.ref a1)] := w
  replace w : own_W K b0 Z n0 h1 1 31 11 #[.val (.int p0), .val (.int p1), .unset, .unset, .unset, .unset, .unset, .unset, .unset, .unset, .unset, .unset, .unset, .unset, .unset] [(.ref a1), (.ref a1)] := own_dup w at_10 rfl
  replace w : own_W K b0 Z n0 h1 1 31 12 #[.val (.int p0), .val (.int p1), .unset, .unset, .unset, .unset, .unset, .unset, .unset, .unset, .unset, .unset, .unset, .unset, .unset] [(.int (1 : Int32)), (.ref a1), (.ref a1)] := own_iconst w at_11 rfl
  replace w : own_W K b0 Z n0 h1 1 31 15 #[.val (.int p0), .val (.int p1), .unset, .unset, .unset, .unset, .unset, .unset, .unset, .unset, .unset, .unset, .unset, .unset, .unset] [(.long (95 : Int64)), (.int (1 : Int32)), (.ref a1), (.ref a1)] := own_ldc2 w at_12 (hw _ (List.mem_of_getElem? (i := 2) rfl))
  obtain ⟨h2, w, A_a1, K_h2⟩ := own_lastore w at_15 A_a1 1 (by decide) (Nat.le_of_ble_eq_true rfl) g_a1 (l' := [65, 95, 0, 0, 0, 0, 0, 0, 0, 0, 0, 0, 0, 0, 0, 0, 0, 0, 0, 0, 0, 0, 0, 0, 0, 0, 0, 0, 0, 0, 0]) rfl
  replace w : own_W K b0 Z n0 h2 1 31 16 #[.val (.int p0), .val (.int p1), .unset, .unset, .unset, .unset, .unset, .unset, .unset, .unset, .unset, .unset, .unset, .unset, .unset] [(.ref a1)] := w
  replace w : own_W K b0 Z n0 h2 1 31 17 #[.val (.int p0), .val (.int p1), .unset, .unset, .unset, .unset, .unset, .unset, .unset, .unset, .unset, .unset, .unset, .unset, .unset] [(.ref a1), (.ref a1)] := own_dup w at_16 rfl
  replace w : own_W K b0 Z n0 h2 1 31 18 #[.val (.int p0), .val (.int p1), .unset, .unset, .unset, .unset, .unset, .unset, .unset, .unset, .unset, .unset, .unset, .unset, .unset] [(.int (2 : Int32)), (.ref a1), (.ref a1)] := own_iconst w at_17 rfl
  replace w : own_W K b0 Z n0 h2 1 31 21 #[.val (.int p0), .val (.int p1), .unset, .unset, .unset, .unset, .unset, .unset, .unset, .unset, .unset, .unset, .unset, .unset, .unset] [(.long (97 : Int64)), (.int (2 : Int32)), (.ref a1), (.ref a1)] := own_ldc2 w at_18 (hw _ (List.mem_of_getElem? (i := 3) rfl))
  obtain ⟨h3, w, A_a1, K_h3⟩ := own_lastore w at_21 A_a1 2 (by decide) (Nat.le_of_ble_eq_true rfl) g_a1 (l' := [65, 95, 97, 0, 0, 0, 0, 0, 0, 0, 0, 0, 0, 0, 0, 0, 0, 0, 0, 0, 0, 0, 0, 0, 0, 0, 0, 0, 0, 0, 0]) rfl
  replace w : own_W K b0 Z n0 h3 1 31 22 #[.val (.int p0), .val (.int p1), .unset, .unset, .unset, .unset, .unset, .unset, .unset, .unset, .unset, .unset, .unset, .unset, .unset] [(.ref a1)] := w
  replace w : own_W K b0 Z n0 h3 1 31 23 #[.val (.int p0), .val (.int p1), .unset, .unset, .unset, .unset, .unset, .unset, .unset, .unset, .unset, .unset, .unset, .unset, .unset] [(.ref a1), (.ref a1)] := own_dup w at_22 rfl
  replace w : own_W K b0 Z n0 h3 1 31 24 #[.val (.int p0), .val (.int p1), .unset, .unset, .unset, .unset, .unset, .unset, .unset, .unset, .unset, .unset, .unset, .unset, .unset] [(.int (3 : Int32)), (.ref a1), (.ref a1)] := own_iconst w at_23 rfl
  replace w : own_W K b0 Z n0 h3 1 31 27 #[.val (.int p0), .val (.int p1), .unset, .unset, .unset, .unset, .unset, .unset, .unset, .unset, .unset, .unset, .unset, .unset, .unset] [(.long (192 : Int64)), (.int (3 : Int32)), (.ref a1), (.ref a1)] := own_ldc2 w at_24 (hw _ (List.mem_of_getElem? (i := 4) rfl))
  obtain ⟨h4, w, A_a1, K_h4⟩ := own_lastore w at_27 A_a1 3 (by decide) (Nat.le_of_ble_eq_true rfl) g_a1 (l' := [65, 95, 97, 192, 0, 0, 0, 0, 0, 0, 0, 0, 0, 0, 0, 0, 0, 0, 0, 0, 0, 0, 0, 0, 0, 0, 0, 0, 0, 0, 0]) rfl
  replace w : own_W K b0 Z n0 h4 1 31 28 #[.val (.int p0), .val (.int p1), .unset, .unset, .unset, .unset, .unset, .unset, .unset, .unset, .unset, .unset, .unset, .unset, .unset] [(.ref a1)] := w
  replace w : own_W K b0 Z n0 h4 1 31 29 #[.val (.int p0), .val (.int p1), .unset, .unset, .unset, .unset, .unset, .unset, .unset, .unset, .unset, .unset, .unset, .unset, .unset] [(.ref a1), (.ref a1)] := own_dup w at_28 rfl
  replace w : own_W K b0 Z n0 h4 1 31 30 #[.val (.int p0), .val (.int p1), .unset, .unset, .unset, .unset, .unset, .unset, .unset, .unset, .unset, .unset, .unset, .unset, .unset] [(.int (4 : Int32)), (.ref a1), (.ref a1)] := own_iconst w at_29 rfl
  replace w : own_W K b0 Z n0 h4 1 31 33 #[.val (.int p0), .val (.int p1), .unset, .unset, .unset, .unset, .unset, .unset, .unset, .unset, .unset, .unset, .unset, .unset, .unset] [(.long (216 : Int64)), (.int (4 : Int32)), (.ref a1), (.ref a1)] := own_ldc2 w at_30 (hw _ (List.mem_of_getElem? (i := 5) rfl))
  obtain ⟨h5, w, A_a1, K_h5⟩ := own_lastore w at_33 A_a1 4 (by decide) (Nat.le_of_ble_eq_true rfl) g_a1 (l' := [65, 95, 97, 192, 216, 0, 0, 0, 0, 0, 0, 0, 0, 0, 0, 0, 0, 0, 0, 0, 0, 0, 0, 0, 0, 0, 0, 0, 0, 0, 0]) rfl
  replace w : own_W K b0 Z n0 h5 1 31 34 #[.val (.int p0), .val (.int p1), .unset, .unset, .unset, .unset, .unset, .unset, .unset, .unset, .unset, .unset, .unset, .unset, .unset] [(.ref a1)] := w
  replace w : own_W K b0 Z n0 h5 1 31 35 #[.val (.int p0), .val (.int p1), .unset, .unset, .unset, .unset, .unset, .unset, .unset, .unset, .unset, .unset, .unset, .unset, .unset] [(.ref a1), (.ref a1)] := own_dup w at_34 rfl
  replace w : own_W K b0 Z n0 h5 1 31 36 #[.val (.int p0), .val (.int p1), .unset, .unset, .unset, .unset, .unset, .unset, .unset, .unset, .unset, .unset, .unset, .unset, .unset] [(.int (5 : Int32)), (.ref a1), (.ref a1)] := own_iconst w at_35 rfl
  replace w : own_W K b0 Z n0 h5 1 31 39 #[.val (.int p0), .val (.int p1), .unset, .unset, .unset, .unset, .unset, .unset, .unset, .unset, .unset, .unset, .unset, .unset, .unset] [(.long (248 : Int64)), (.int (5 : Int32)), (.ref a1), (.ref a1)] := own_ldc2 w at_36 (hw _ (List.mem_of_getElem? (i := 6) rfl))
  obtain ⟨h6, w, A_a1, K_h6⟩ := own_lastore w at_39 A_a1 5 (by decide) (Nat.le_of_ble_eq_true rfl) g_a1 (l' := [65, 95, 97, 192, 216, 248, 0, 0, 0, 0, 0, 0, 0, 0, 0, 0, 0, 0, 0, 0, 0, 0, 0, 0, 0, 0, 0, 0, 0, 0, 0]) rfl
  replace w : own_W K b0 Z n0 h6 1 31 40 #[.val (.int p0), .val (.int p1), .unset, .unset, .unset, .unset, .unset, .unset, .unset, .unset, .unset, .unset, .unset, .unset, .unset] [(.ref a1)] := w
  replace w : own_W K b0 Z n0 h6 1 31 41 #[.val (.int p0), .val (.int p1), .unset, .unset, .unset, .unset, .unset, .unset, .unset, .unset, .unset, .unset, .unset, .unset, .unset] [(.ref a1), (.ref a1)] := own_dup w at_40 rfl
  replace w : own_W K b0 Z n0 h6 1 31 43 #[.val (.int p0), .val (.int p1), .unset, .unset, .unset, .unset, .unset, .unset, .unset, .unset, .unset, .unset, .unset, .unset, .unset] [(.int (6 : Int32)), (.ref a1), (.ref a1)] := own_bipush w at_41 rfl
  replace w : own_W K b0 Z n0 h6 1 31 46 #[.val (.int p0), .val (.int p1), .unset, .unset, .unset, .unset, .unset, .unset, .unset, .unset, .unset, .unset, .unset, .unset, .unset] [(.long (880 : Int64)), (.int (6 : Int32)), (.ref a1), (.ref a1)] := own_ldc2 w at_43 (hw _ (List.mem_of_getElem? (i := 7) rfl))
  obtain ⟨h7, w, A_a1, K_h7⟩ := own_lastore w at_46 A_a1 6 (by decide) (Nat.le_of_ble_eq_true rfl) g_a1 (l' := [65, 95, 97, 192, 216, 248, 880, 0, 0, 0, 0, 0, 0, 0, 0, 0, 0, 0, 0, 0, 0, 0, 0, 0, 0, 0, 0, 0, 0, 0, 0]) rfl
  replace w : own_W K b0 Z n0 h7 1 31 47 #[.val (.int p0), .val (.int p1), .unset, .unset, .unset, .unset, .unset, .unset, .unset, .unset, .unset, .unset, .unset, .unset, .unset] [(.ref a1)] := w
  replace w : own_W K b0 Z n0 h7 1 31 48 #[.val (.int p0), .val (.int p1), .unset, .unset, .unset, .unset, .unset, .unset, .unset, .unset, .unset, .unset, .unset, .unset, .unset] [(.ref a1), (.ref a1)] := own_dup w at_47 rfl
  replace w : own_W K b0 Z n0 h7 1 31 50 #[.val (.int p0), .val (.int p1), .unset, .unset, .unset, .unset, .unset, .unset, .unset, .unset, .unset, .unset, .unset, .unset, .unset] [(.int (7 : Int32)), (.ref a1), (.ref a1)] := own_bipush w at_48 rfl
  replace w : own_W K b0 Z n0 h7 1 31 53 #[.val (.int p0), .val (.int p1), .unset, .unset, .unset, .unset, .unset, .unset, .unset, .unset, .unset, .unset, .unset, .unset, .unset] [(.long (895 : Int64)), (.int (7 : Int32)), (.ref a1), (.ref a1)] := own_ldc2 w at_50 (hw _ (List.mem_of_getElem? (i := 8) rfl))
  obtain ⟨h8, w, A_a1, K_h8⟩ := own_lastore w at_53 A_a1 7 (by decide) (Nat.le_of_ble_eq_true rfl) g_a1 (l' := [65, 95, 97, 192, 216, 248, 880, 895, 0, 0, 0, 0, 0, 0, 0, 0, 0, 0, 0, 0, 0, 0, 0, 0, 0, 0, 0, 0, 0, 0, 0]) rfl
  replace w : own_W K b0 Z n0 h8 1 31 54 #[.val (.int p0), .val (.int p1), .unset, .unset, .unset, .unset, .unset, .unset, .unset, .unset, .unset, .unset, .unset, .unset, .unset] [(.ref a1)] := w
  replace w : own_W K b0 Z n0 h8 1 31 55 #[.val (.int p0), .val (.int p1), .unset, .unset, .unset, .unset, .unset, .unset, .unset, .unset, .unset, .unset, .unset, .unset, .unset] [(.ref a1), (.ref a1)] := own_dup w at_54 rfl
  replace w : own_W K b0 Z n0 h8 1 31 57 #[.val (.int p0), .val (.int p1), .unset, .unset, .unset, .unset, .unset, .unset, .unset, .unset, .unset, .unset, .unset, .unset, .unset] [(.int (8 : Int32)), (.ref a1), (.ref a1)] := own_bipush w at_55 rfl
  replace w : own_W K b0 Z n0 h8 1 31 60 #[.val (.int p0), .val (.int p1), .unset, .unset, .unset, .unset, .unset, .unset, .unset, .unset, .unset, .unset, .unset, .unset, .unset] [(.long (8204 : Int64)), (.int (8 : Int32)), (.ref a1), (.ref a1)] := own_ldc2 w at_57 (hw _ (List.mem_of_getElem? (i := 9) rfl))
  obtain ⟨h9, w, A_a1, K_h9⟩ := own_lastore w at_60 A_a1 8 (by decide) (Nat.le_of_ble_eq_true rfl) g_a1 (l' := [65, 95, 97, 192, 216, 248, 880, 895, 8204, 0, 0, 0, 0, 0, 0, 0, 0, 0, 0, 0, 0, 0, 0, 0, 0, 0, 0, 0, 0, 0, 0]) rfl
  replace w : own_W K b0 Z n0 h9 1 31 61 #[.val (.int p0), .val (.int p1), .unset, .unset, .unset, .unset, .unset, .unset, .unset, .unset, .unset, .unset, .unset, .unset, .unset] [(.ref a1)] := w
  replace w : own_W K b0 Z n0 h9 1 31 62 #[.val (.int p0), .val (.int p1), .unset, .unset, .unset, .unset, .unset, .unset, .unset, .unset, .unset, .unset, .unset, .unset, .unset] [(.ref a1), (.ref a1)] := own_dup w at_61 rfl
  replace w : own_W K b0 Z n0 h9 1 31 64 #[.val (.int p0), .val (.int p1), .unset, .unset, .unset, .unset, .unset, .unset, .unset, .unset, .unset, .unset, .unset, .unset, .unset] [(.int (9 : Int32)), (.ref a1), (.ref a1)] := own_bipush w at_62 rfl
  replace w : own_W K b0 Z n0 h9 1 31 67 #[.val (.int p0), .val (.int p1), .unset, .unset, .unset, .unset, .unset, .unset, .unset, .unset, .unset, .unset, .unset, .unset, .unset] [(.long (8304 : Int64)), (.int (9 : Int32)), (.ref a1), (.ref a1)] := own_ldc2 w at_64 (hw _ (List.mem_of_getElem? (i := 10) rfl))
  obtain ⟨h10, w, A_a1, K_h10⟩ := own_lastore w at_67 A_a1 9 (by decide) (Nat.le_of_ble_eq_true rfl) g_a1 (l' := [65, 95, 97, 192, 216, 248, 880, 895, 8204, 8304, 0, 0, 0, 0, 0, 0, 0, 0, 0, 0, 0, 0, 0, 0, 0, 0, 0, 0, 0, 0, 0]) rfl
  replace w : own_W K b0 Z n0 h10 1 31 68 #[.val (.int p0), .val (.int p1), .unset, .unset, .unset, .unset, .unset, .unset, .unset, .unset, .unset, .unset, .unset, .unset, .unset] [(.ref a1)] := w
  replace w : own_W K b0 Z n0 h10 1 31 69 #[.val (.int p0), .val (.int p1), .unset, .unset, .unset, .unset, .unset, .unset, .unset, .unset, .unset, .unset, .unset, .unset, .unset] [(.ref a1), (.ref a1)] := own_dup w at_68 rfl
  replace w : own_W K b0 Z n0 h10 1 31 71 #[.val (.int p0), .val (.int p1), .unset, .unset, .unset, .unset, .unset, .unset, .unset, .unset, .unset, .unset, .unset, .unset, .unset] [(.int (10 : Int32)), (.ref a1), (.ref a1)] := own_bipush w at_69 rfl
  replace w : own_W K b0 Z n0 h10 1 31 74 #[.val (.int p0), .val (.int p1), .unset, .unset, .unset, .unset, .unset, .unset, .unset, .unset, .unset, .unset, .unset, .unset, .unset] [(.long (11264 : Int64)), (.int (10 : Int32)), (.ref a1), (.ref a1)] := own_ldc2 w at_71 (hw _ (List.mem_of_getElem? (i := 11) rfl))
  obtain ⟨h11, w, A_a1, K_h11⟩ := own_lastore w at_74 A_a1 10 (by decide) (Nat.le_of_ble_eq_true rfl) g_a1 (l' := [65, 95, 97, 192, 216, 248, 880, 895, 8204, 8304, 11264, 0, 0, 0, 0, 0, 0, 0, 0, 0, 0, 0, 0, 0, 0, 0, 0, 0, 0, 0, 0]) rfl
  replace w : own_W K b0 Z n0 h11 1 31 75 #[.val (.int p0), .val (.int p1), .unset, .unset, .unset, .unset, .unset, .unset, .unset, .unset, .unset, .unset, .unset, .unset, .unset] [(.ref a1)] := w
  replace w : own_W K b0 Z n0 h11 1 31 76 #[.val (.int p0), .val (.int p1), .unset, .unset, .unset, .unset, .unset, .unset, .unset, .unset, .unset, .unset, .unset, .unset, .unset] [(.ref a1), (.ref a1)] := own_dup w at_75 rfl
  replace w : own_W K b0 Z n0 h11 1 31 78 #[.val (.int p0), .val (.int p1), .unset, .unset, .unset, .unset, .unset, .unset, .unset, .unset, .unset, .unset, .unset, .unset, .unset] [(.int (11 : Int32)), (.ref a1), (.ref a1)] := own_bipush w at_76 rfl
  replace w : own_W K b0 Z n0 h11 1 31 81 #[.val (.int p0), .val (.int p1), .unset, .unset, .unset, .unset, .unset, .unset, .unset, .unset, .unset, .unset, .unset, .unset, .unset] [(.long (12289 : Int64)), (.int (11 : Int32)), (.ref a1), (.ref a1)] := own_ldc2 w at_78 (hw _ (List.mem_of_getElem? (i := 12) rfl))
  obtain ⟨h12, w, A_a1, K_h12⟩ := own_lastore w at_81 A_a1 11 (by decide) (Nat.le_of_ble_eq_true rfl) g_a1 (l' := [65, 95, 97, 192, 216, 248, 880, 895, 8204, 8304, 11264, 12289, 0, 0, 0, 0, 0, 0, 0, 0, 0, 0, 0, 0, 0, 0, 0, 0, 0, 0, 0]) rfl
  replace w : own_W K b0 Z n0 h12 1 31 82 #[.val (.int p0), .val (.int p1), .unset, .unset, .unset, .unset, .unset, .unset, .unset, .unset, .unset, .unset, .unset, .unset, .unset] [(.ref a1)] := w
  replace w : own_W K b0 Z n0 h12 1 31 83 #[.val (.int p0), .val (.int p1), .unset, .unset, .unset, .unset, .unset, .unset, .unset, .unset, .unset, .unset, .unset, .unset, .unset] [(.ref a1), (.ref a1)] := own_dup w at_82 rfl
  replace w : own_W K b0 Z n0 h12 1 31 85 #[.val (.int p0), .val (.int p1), .unset, .unset, .unset, .unset, .unset, .unset, .unset, .unset, .unset, .unset, .unset, .unset, .unset] [(.int (12 : Int32)), (.ref a1), (.ref a1)] := own_bipush w at_83 rfl
  replace w : own_W K b0 Z n0 h12 1 31 88 #[.val (.int p0), .val (.int p1), .unset, .unset, .unset, .unset, .unset, .unset, .unset, .unset, .unset, .unset, .unset, .unset, .unset] [(.long (63744 : Int64)), (.int (12 : Int32)), (.ref a1), (.ref a1)] := own_ldc2 w at_85 (hw _ (List.mem_of_getElem? (i := 13) rfl))
  obtain ⟨h13, w, A_a1, K_h13⟩ := own_lastore w at_88 A_a1 12 (by decide) (Nat.le_of_ble_eq_true rfl) g_a1 (l' := [65, 95, 97, 192, 216, 248, 880, 895, 8204, 8304, 11264, 12289, 63744, 0, 0, 0, 0, 0, 0, 0, 0, 0, 0, 0, 0, 0, 0, 0, 0, 0, 0]) rfl
  replace w : own_W K b0 Z n0 h13 1 31 89 #[.val (.int p0), .val (.int p1), .unset, .unset, .unset, .unset, .unset, .unset, .unset, .unset, .unset, .unset, .unset, .unset, .unset] [(.ref a1)] := w
  replace w : own_W K b0 Z n0 h13 1 31 90 #[.val (.int p0), .val (.int p1), .unset, .unset, .unset, .unset, .unset, .unset, .unset, .unset, .unset, .unset, .unset, .unset, .unset] [(.ref a1), (.ref a1)] := own_dup w at_89 rfl
  replace w : own_W K b0 Z n0 h13 1 31 92 #[.val (.int p0), .val (.int p1), .unset, .unset, .unset, .unset, .unset, .unset, .unset, .unset, .unset, .unset, .unset, .unset, .unset] [(.int (13 : Int32)), (.ref a1), (.ref a1)] := own_bipush w at_90 rfl
  replace w : own_W K b0 Z n0 h13 1 31 95 #[.val (.int p0), .val (.int p1), .unset, .unset, .unset, .unset, .unset, .unset, .unset, .unset, .unset, .unset, .unset, .unset, .unset] [(.long (65008 : Int64)), (.int (13 : Int32)), (.ref a1), (.ref a1)] := own_ldc2 w at_92 (hw _ (List.mem_of_getElem? (i := 14) rfl))
  obtain ⟨h14, w, A_a1, K_h14⟩ := own_lastore w at_95 A_a1 13 (by decide) (Nat.le_of_ble_eq_true rfl) g_a1 (l' := [65, 95, 97, 192, 216, 248, 880, 895, 8204, 8304, 11264, 12289, 63744, 65008, 0, 0, 0, 0, 0, 0, 0, 0, 0, 0, 0, 0, 0, 0, 0, 0, 0]) rfl
  replace w : own_W K b0 Z n0 h14 1 31 96 #[.val (.int p0), .val (.int p1), .unset, .unset, .unset, .unset, .unset, .unset, .unset, .unset, .unset, .unset, .unset, .unset, .unset] [(.ref a1)] := w
  replace w : own_W K b0 Z n0 h14 1 31 97 #[.val (.int p0), .val (.int p1), .unset, .unset, .unset, .unset, .unset, .unset, .unset, .unset, .unset, .unset, .unset, .unset, .unset] [(.ref a1), (.ref a1)] := own_dup w at_96 rfl
  replace w : own_W K b0 Z n0 h14 1 31 99 #[.val (.int p0), .val (.int p1), .unset, .unset, .unset, .unset, .unset, .unset, .unset, .unset, .unset, .unset, .unset, .unset, .unset] [(.int (14 : Int32)), (.ref a1), (.ref a1)] := own_bipush w at_97 rfl
  replace w : own_W K b0 Z n0 h14 1 31 102 #[.val (.int p0), .val (.int p1), .unset, .unset, .unset, .unset, .unset, .unset, .unset, .unset, .unset, .unset, .unset, .unset, .unset] [(.long (65536 : Int64)), (.int (14 : Int32)), (.ref a1), (.ref a1)] := own_ldc2 w at_99 (hw _ (List.mem_of_getElem? (i := 15) rfl))
  obtain ⟨h15, w, A_a1, K_h15⟩ := own_lastore w at_102 A_a1 14 (by decide) (Nat.le_of_ble_eq_true rfl) g_a1 (l' := [65, 95, 97, 192, 216, 248, 880, 895, 8204, 8304, 11264, 12289, 63744, 65008, 65536, 0, 0, 0, 0, 0, 0, 0, 0, 0, 0, 0, 0, 0, 0, 0, 0]) rfl
  replace w : own_W K b0 Z n0 h15 1 31 103 #[.val (.int p0), .val (.int p1), .unset, .unset, .unset, .unset, .unset, .unset, .unset, .unset, .unset, .unset, .unset, .unset, .unset] [(.ref a1)] := w
  replace w : own_W K b0 Z n0 h15 1 31 104 #[.val (.int p0), .val (.int p1), .unset, .unset, .unset, .unset, .unset, .unset, .unset, .unset, .unset, .unset, .unset, .unset, .unset] [(.ref a1), (.ref a1)] := own_dup w at_103 rfl
  replace w : own_W K b0 Z n0 h15 1 31 106 #[.val (.int p0), .val (.int p1), .unset, .unset, .unset, .unset, .unset, .unset, .unset, .unset, .unset, .unset, .unset, .unset, .unset] [(.int (15 : Int32)), (.ref a1), (.ref a1)] := own_bipush w at_104 rfl
  replace w : own_W K b0 Z n0 h15 1 31 109 #[.val (.int p0), .val (.int p1), .unset, .unset, .unset, .unset, .unset, .unset, .unset, .unset, .unset, .unset, .unset, .unset, .unset] [(.long (-2147483648 : Int64)), (.int (15 : Int32)), (.ref a1), (.ref a1)] := own_ldc2 w at_106 (hw _ (List.mem_of_getElem? (i := 16) rfl))
  obtain ⟨h16, w, A_a1, K_h16⟩ := own_lastore w at_109 A_a1 15 (by decide) (Nat.le_of_ble_eq_true rfl) g_a1 (l' := [65, 95, 97, 192, 216, 248, 880, 895, 8204, 8304, 11264, 12289, 63744, 65008, 65536, (-2147483648), 0, 0, 0, 0, 0, 0, 0, 0, 0, 0, 0, 0, 0, 0, 0]) rfl
  replace w : own_W K b0 Z n0 h16 1 31 110 #[.val (.int p0), .val (.int p1), .unset, .unset, .unset, .unset, .unset, .unset, .unset, .unset, .unset, .unset, .unset, .unset, .unset] [(.ref a1)] := w
  replace w : own_W K b0 Z n0 h16 1 31 111 #[.val (.int p0), .val (.int p1), .unset, .unset, .unset, .unset, .unset, .unset, .unset, .unset, .unset, .unset, .unset, .unset, .unset] [(.ref a1), (.ref a1)] := own_dup w at_110 rfl
  replace w : own_W K b0 Z n0 h16 1 31 113 #[.val (.int p0), .val (.int p1), .unset, .unset, .unset, .unset, .unset, .unset, .unset, .unset, .unset, .unset, .unset, .unset, .unset] [(.int (16 : Int32)), (.ref a1), (.ref a1)] := own_bipush w at_111 rfl
  replace w : own_W K b0 Z n0 h16 1 31 116 #[.val (.int p0), .val (.int p1), .unset, .unset, .unset, .unset, .unset, .unset, .unset, .unset, .unset, .unset, .unset, .unset, .unset] [(.long (91 : Int64)), (.int (16 : Int32)), (.ref a1), (.ref a1)] := own_ldc2 w at_113 (hw _ (List.mem_of_getElem? (i := 17) rfl))
  obtain ⟨h17, w, A_a1, K_h17⟩ := own_lastore w at_116 A_a1 16 (by decide) (Nat.le_of_ble_eq_true rfl) g_a1 (l' := [65, 95, 97, 192, 216, 248, 880, 895, 8204, 8304, 11264, 12289, 63744, 65008, 65536, (-2147483648), 91, 0, 0, 0, 0, 0, 0, 0, 0, 0, 0, 0, 0, 0, 0]) rfl
  replace w : own_W K b0 Z n0 h17 1 31 117 #[.val (.int p0), .val (.int p1), .unset, .unset, .unset, .unset, .unset, .unset, .unset, .unset, .unset, .unset, .unset, .unset, .unset] [(.ref a1)] := w
  replace w : own_W K b0 Z n0 h17 1 31 118 #[.val (.int p0), .val (.int p1), .unset, .unset, .unset, .unset, .unset, .unset, .unset, .unset, .unset, .unset, .unset, .unset, .unset] [(.ref a1), (.ref a1)] := own_dup w at_117 rfl
  replace w : own_W K b0 Z n0 h17 1 31 120 #[.val (.int p0), .val (.int p1), .unset, .unset, .unset, .unset, .unset, .unset, .unset, .unset, .unset, .unset, .unset, .unset, .unset] [(.int (17 : Int32)), (.ref a1), (.ref a1)] := own_bipush w at_118 rfl
  replace w : own_W K b0 Z n0 h17 1 31 123 #[.val (.int p0), .val (.int p1), .unset, .unset, .unset, .unset, .unset, .unset, .unset, .unset, .unset, .unset, .unset, .unset, .unset] [(.long (96 : Int64)), (.int (17 : Int32)), (.ref a1), (.ref a1)] := own_ldc2 w at_120 (hw _ (List.mem_of_getElem? (i := 18) rfl))
  obtain ⟨h18, w, A_a1, K_h18⟩ := own_lastore w at_123 A_a1 17 (by decide) (Nat.le_of_ble_eq_true rfl) g_a1 (l' := [65, 95, 97, 192, 216, 248, 880, 895, 8204, 8304, 11264, 12289, 63744, 65008, 65536, (-2147483648), 91, 96, 0, 0, 0, 0, 0, 0, 0, 0, 0, 0, 0, 0, 0]) rfl
  replace w : own_W K b0 Z n0 h18 1 31 124 #[.val (.int p0), .val (.int p1), .unset, .unset, .unset, .unset, .unset, .unset, .unset, .unset, .unset, .unset, .unset, .unset, .unset] [(.ref a1)] := w
  replace w : own_W K b0 Z n0 h18 1 31 125 #[.val (.int p0), .val (.int p1), .unset, .unset, .unset, .unset, .unset, .unset, .unset, .unset, .unset, .unset, .unset, .unset, .unset] [(.ref a1), (.ref a1)] := own_dup w at_124 rfl
  replace w : own_W K b0 Z n0 h18 1 31 127 #[.val (.int p0), .val (.int p1), .unset, .unset, .unset, .unset, .unset, .unset, .unset, .unset, .unset, .unset, .unset, .unset, .unset] [(.int (18 : Int32)), (.ref a1), (.ref a1)] := own_bipush w at_125 rfl
  replace w : own_W K b0 Z n0 h18 1 31 130 #[.val (.int p0), .val (.int p1), .unset, .unset, .unset, .unset, .unset, .unset, .unset, .unset, .unset, .unset, .unset, .unset, .unset] [(.long (123 : Int64)), (.int (18 : Int32)), (.ref a1), (.ref a1)] := own_ldc2 w at_127 (hw _ (List.mem_of_getElem? (i := 19) rfl))
  obtain ⟨h19, w, A_a1, K_h19⟩ := own_lastore w at_130 A_a1 18 (by decide) (Nat.le_of_ble_eq_true rfl) g_a1 (l' := [65, 95, 97, 192, 216, 248, 880, 895, 8204, 8304, 11264, 12289, 63744, 65008, 65536, (-2147483648), 91, 96, 123, 0, 0, 0, 0, 0, 0, 0, 0, 0, 0, 0, 0]) rfl
  replace w : own_W K b0 Z n0 h19 1 31 131 #[.val (.int p0), .val (.int p1), .unset, .unset, .unset, .unset, .unset, .unset, .unset, .unset, .unset, .unset, .unset, .unset, .unset] [(.ref a1)] := w
  replace w : own_W K b0 Z n0 h19 1 31 132 #[.val (.int p0), .val (.int p1), .unset, .unset, .unset, .unset, .unset, .unset, .unset, .unset, .unset, .unset, .unset, .unset, .unset] [(.ref a1), (.ref a1)] := own_dup w at_131 rfl
  replace w : own_W K b0 Z n0 h19 1 31 134 #[.val (.int p0), .val (.int p1), .unset, .unset, .unset, .unset, .unset, .unset, .unset, .unset, .unset, .unset, .unset, .unset, .unset] [(.int (19 : Int32)), (.ref a1), (.ref a1)] := own_bipush w at_132 rfl
  replace w : own_W K b0 Z n0 h19 1 31 137 #[.val (.int p0), .val (.int p1), .unset, .unset, .unset, .unset, .unset, .unset, .unset, .unset, .unset, .unset, .unset, .unset, .unset] [(.long (215 : Int64)), (.int (19 : Int32)), (.ref a1), (.ref a1)] := own_ldc2 w at_134 (hw _ (List.mem_of_getElem? (i := 20) rfl))
  obtain ⟨h20, w, A_a1, K_h20⟩ := own_lastore w at_137 A_a1 19 (by decide) (Nat.le_of_ble_eq_true rfl) g_a1 (l' := [65, 95, 97, 192, 216, 248, 880, 895, 8204, 8304, 11264, 12289, 63744, 65008, 65536, (-2147483648), 91, 96, 123, 215, 0, 0, 0, 0, 0, 0, 0, 0, 0, 0, 0]) rfl
  replace w : own_W K b0 Z n0 h20 1 31 138 #[.val (.int p0), .val (.int p1), .unset, .unset, .unset, .unset, .unset, .unset, .unset, .unset, .unset, .unset, .unset, .unset, .unset] [(.ref a1)] := w
  replace w : own_W K b0 Z n0 h20 1 31 139 #[.val (.int p0), .val (.int p1), .unset, .unset, .unset, .unset, .unset, .unset, .unset, .unset, .unset, .unset, .unset, .unset, .unset] [(.ref a1), (.ref a1)] := own_dup w at_138 rfl
  replace w : own_W K b0 Z n0 h20 1 31 141 #[.val (.int p0), .val (.int p1), .unset, .unset, .unset, .unset, .unset, .unset, .unset, .unset, .unset, .unset, .unset, .unset, .unset] [(.int (20 : Int32)), (.ref a1), (.ref a1)] := own_bipush w at_139 rfl
  replace w : own_W K b0 Z n0 h20 1 31 144 #[.val (.int p0), .val (.int p1), .unset, .unset, .unset, .unset, .unset, .unset, .unset, .unset, .unset, .unset, .unset, .unset, .unset] [(.long (247 : Int64)), (.int (20 : Int32)), (.ref a1), (.ref a1)] := own_ldc2 w at_141 (hw _ (List.mem_of_getElem? (i := 21) rfl))
  obtain ⟨h21, w, A_a1, K_h21⟩ := own_lastore w at_144 A_a1 20 (by decide) (Nat.le_of_ble_eq_true rfl) g_a1 (l' := [65, 95, 97, 192, 216, 248, 880, 895, 8204, 8304, 11264, 12289, 63744, 65008, 65536, (-2147483648), 91, 96, 123, 215, 247, 0, 0, 0, 0, 0, 0, 0, 0, 0, 0]) rfl
  replace w : own_W K b0 Z n0 h21 1 31 145 #[.val (.int p0), .val (.int p1), .unset, .unset, .unset, .unset, .unset, .unset, .unset, .unset, .unset, .unset, .unset, .unset, .unset] [(.ref a1)] := w
  replace w : own_W K b0 Z n0 h21 1 31 146 #[.val (.int p0), .val (.int p1), .unset, .unset, .unset, .unset, .unset, .unset, .unset, .unset, .unset, .unset, .unset, .unset, .unset] [(.ref a1), (.ref a1)] := own_dup w at_145 rfl
  replace w : own_W K b0 Z n0 h21 1 31 148 #[.val (.int p0), .val (.int p1), .unset, .unset, .unset, .unset, .unset, .unset, .unset, .unset, .unset, .unset, .unset, .unset, .unset] [(.int (21 : Int32)), (.ref a1), (.ref a1)] := own_bipush w at_146 rfl
  replace w : own_W K b0 Z n0 h21 1 31 151 #[.val (.int p0), .val (.int p1), .unset, .unset, .unset, .unset, .unset, .unset, .unset, .unset, .unset, .unset, .unset, .unset, .unset] [(.long (768 : Int64)), (.int (21 : Int32)), (.ref a1), (.ref a1)] := own_ldc2 w at_148 (hw _ (List.mem_of_getElem? (i := 22) rfl))
  obtain ⟨h22, w, A_a1, K_h22⟩ := own_lastore w at_151 A_a1 21 (by decide) (Nat.le_of_ble_eq_true rfl) g_a1 (l' := [65, 95, 97, 192, 216, 248, 880, 895, 8204, 8304, 11264, 12289, 63744, 65008, 65536, (-2147483648), 91, 96, 123, 215, 247, 768, 0, 0, 0, 0, 0, 0, 0, 0, 0]) rfl
  replace w : own_W K b0 Z n0 h22 1 31 152 #[.val (.int p0), .val (.int p1), .unset, .unset, .unset, .unset, .unset, .unset, .unset, .unset, .unset, .unset, .unset, .unset, .unset] [(.ref a1)] := w
  replace w : own_W K b0 Z n0 h22 1 31 153 #[.val (.int p0), .val (.int p1), .unset, .unset, .unset, .unset, .unset, .unset, .unset, .unset, .unset, .unset, .unset, .unset, .unset] [(.ref a1), (.ref a1)] := own_dup w at_152 rfl
  replace w : own_W K b0 Z n0 h22 1 31 155 #[.val (.int p0), .val (.int p1), .unset, .unset, .unset, .unset, .unset, .unset, .unset, .unset, .unset, .unset, .unset, .unset, .unset] [(.int (22 : Int32)), (.ref a1), (.ref a1)] := own_bipush w at_153 rfl
  replace w : own_W K b0 Z n0 h22 1 31 158 #[.val (.int p0), .val (.int p1), .unset, .unset, .unset, .unset, .unset, .unset, .unset, .unset, .unset, .unset, .unset, .unset, .unset] [(.long (894 : Int64)), (.int (22 : Int32)), (.ref a1), (.ref a1)] := own_ldc2 w at_155 (hw _ (List.mem_of_getElem? (i := 23) rfl))
  obtain ⟨h23, w, A_a1, K_h23⟩ := own_lastore w at_158 A_a1 22 (by decide) (Nat.le_of_ble_eq_true rfl) g_a1 (l' := [65, 95, 97, 192, 216, 248, 880, 895, 8204, 8304, 11264, 12289, 63744, 65008, 65536, (-2147483648), 91, 96, 123, 215, 247, 768, 894, 0, 0, 0, 0, 0, 0, 0, 0]) rfl
  replace w : own_W K b0 Z n0 h23 1 31 159 #[.val (.int p0), .val (.int p1), .unset, .unset, .unset, .unset, .unset, .unset, .unset, .unset, .unset, .unset, .unset, .unset, .unset] [(.ref a1)] := w
  replace w : own_W K b0 Z n0 h23 1 31 160 #[.val (.int p0), .val (.int p1), .unset, .unset, .unset, .unset, .unset, .unset, .unset, .unset, .unset, .unset, .unset, .unset, .unset] [(.ref a1), (.ref a1)] := own_dup w at_159 rfl
  replace w : own_W K b0 Z n0 h23 1 31 162 #[.val (.int p0), .val (.int p1), .unset, .unset, .unset, .unset, .unset, .unset, .unset, .unset, .unset, .unset, .unset, .unset, .unset] [(.int (23 : Int32)), (.ref a1), (.ref a1)] := own_bipush w at_160 rfl
  replace w : own_W K b0 Z n0 h23 1 31 165 #[.val (.int p0), .val (.int p1), .unset, .unset, .unset, .unset, .unset, .unset, .unset, .unset, .unset, .unset, .unset, .unset, .unset] [(.long (8192 : Int64)), (.int (23 : Int32)), (.ref a1), (.ref a1)] := own_ldc2 w at_162 (hw _ (List.mem_of_getElem? (i := 24) rfl))
  obtain ⟨h24, w, A_a1, K_h24⟩ := own_lastore w at_165 A_a1 23 (by decide) (Nat.le_of_ble_eq_true rfl) g_a1 (l' := [65, 95, 97, 192, 216, 248, 880, 895, 8204, 8304, 11264, 12289, 63744, 65008, 65536, (-2147483648), 91, 96, 123, 215, 247, 768, 894, 8192, 0, 0, 0, 0, 0, 0, 0]) rfl
  replace w : own_W K b0 Z n0 h24 1 31 166 #[.val (.int p0), .val (.int p1), .unset, .unset, .unset, .unset, .unset, .unset, .unset, .unset, .unset, .unset, .unset, .unset, .unset] [(.ref a1)] := w
  replace w : own_W K b0 Z n0 h24 1 31 167 #[.val (.int p0), .val (.int p1), .unset, .unset, .unset, .unset, .unset, .unset, .unset, .unset, .unset, .unset, .unset, .unset, .unset] [(.ref a1), (.ref a1)] := own_dup w at_166 rfl
  replace w : own_W K b0 Z n0 h24 1 31 169 #[.val (.int p0), .val (.int p1), .unset, .unset, .unset, .unset, .unset, .unset, .unset, .unset, .unset, .unset, .unset, .unset, .unset] [(.int (24 : Int32)), (.ref a1), (.ref a1)] := own_bipush w at_167 rfl
  replace w : own_W K b0 Z n0 h24 1 31 172 #[.val (.int p0), .val (.int p1), .unset, .unset, .unset, .unset, .unset, .unset, .unset, .unset, .unset, .unset, .unset, .unset, .unset] [(.long (8206 : Int64)), (.int (24 : Int32)), (.ref a1), (.ref a1)] := own_ldc2 w at_169 (hw _ (List.mem_of_getElem? (i := 25) rfl))
  obtain ⟨h25, w, A_a1, K_h25⟩ := own_lastore w at_172 A_a1 24 (by decide) (Nat.le_of_ble_eq_true rfl) g_a1 (l' := [65, 95, 97, 192, 216, 248, 880, 895, 8204, 8304, 11264, 12289, 63744, 65008, 65536, (-2147483648), 91, 96, 123, 215, 247, 768, 894, 8192, 8206, 0, 0, 0, 0, 0, 0]) rfl
  replace w : own_W K b0 Z n0 h25 1 31 173 #[.val (.int p0), .val (.int p1), .unset, .unset, .unset, .unset, .unset, .unset, .unset, .unset, .unset, .unset, .unset, .unset, .unset] [(.ref a1)] := w
  replace w : own_W K b0 Z n0 h25 1 31 174 #[.val (.int p0), .val (.int p1), .unset, .unset, .unset, .unset, .unset, .unset, .unset, .unset, .unset, .unset, .unset, .unset, .unset] [(.ref a1), (.ref a1)] := own_dup w at_173 rfl
  replace w : own_W K b0 Z n0 h25 1 31 176 #[.val (.int p0), .val (.int p1), .unset, .unset, .unset, .unset, .unset, .unset, .unset, .unset, .unset, .unset, .unset, .unset, .unset] [(.int (25 : Int32)), (.ref a1), (.ref a1)] := own_bipush w at_174 rfl
  replace w : own_W K b0 Z n0 h25 1 31 179 #[.val (.int p0), .val (.int p1), .unset, .unset, .unset, .unset, .unset, .unset, .unset, .unset, .unset, .unset, .unset, .unset, .unset] [(.long (8592 : Int64)), (.int (25 : Int32)), (.ref a1), (.ref a1)] := own_ldc2 w at_176 (hw _ (List.mem_of_getElem? (i := 26) rfl))
  obtain ⟨h26, w, A_a1, K_h26⟩ := own_lastore w at_179 A_a1 25 (by decide) (Nat.le_of_ble_eq_true rfl) g_a1 (l' := [65, 95, 97, 192, 216, 248, 880, 895, 8204, 8304, 11264, 12289, 63744, 65008, 65536, (-2147483648), 91, 96, 123, 215, 247, 768, 894, 8192, 8206, 8592, 0, 0, 0, 0, 0]) rfl
  replace w : own_W K b0 Z n0 h26 1 31 180 #[.val (.int p0), .val (.int p1), .unset, .unset, .unset, .unset, .unset, .unset, .unset, .unset, .unset, .unset, .unset, .unset, .unset] [(.ref a1)] := w
  replace w : own_W K b0 Z n0 h26 1 31 181 #[.val (.int p0), .val (.int p1), .unset, .unset, .unset, .unset, .unset, .unset, .unset, .unset, .unset, .unset, .unset, .unset, .unset] [(.ref a1), (.ref a1)] := own_dup w at_180 rfl
  replace w : own_W K b0 Z n0 h26 1 31 183 #[.val (.int p0), .val (.int p1), .unset, .unset, .unset, .unset, .unset, .unset, .unset, .unset, .unset, .unset, .unset, .unset, .unset] [(.int (26 : Int32)), (.ref a1), (.ref a1)] := own_bipush w at_181 rfl
  replace w : own_W K b0 Z n0 h26 1 31 186 #[.val (.int p0), .val (.int p1), .unset, .unset, .unset, .unset, .unset, .unset, .unset, .unset, .unset, .unset, .unset, .unset, .unset] [(.long (12272 : Int64)), (.int (26 : Int32)), (.ref a1), (.ref a1)] := own_ldc2 w at_183 (hw _ (List.mem_of_getElem? (i := 27) rfl))
  obtain ⟨h27, w, A_a1, K_h27⟩ := own_lastore w at_186 A_a1 26 (by decide) (Nat.le_of_ble_eq_true rfl) g_a1 (l' := [65, 95, 97, 192, 216, 248, 880, 895, 8204, 8304, 11264, 12289, 63744, 65008, 65536, (-2147483648), 91, 96, 123, 215, 247, 768, 894, 8192, 8206, 8592, 12272, 0, 0, 0, 0]) rfl
  replace w : own_W K b0 Z n0 h27 1 31 187 #[.val (.int p0), .val (.int p1), .unset, .unset, .unset, .unset, .unset, .unset, .unset, .unset, .unset, .unset, .unset, .unset, .unset] [(.ref a1)] := w
  replace w : own_W K b0 Z n0 h27 1 31 188 #[.val (.int p0), .val (.int p1), .unset, .unset, .unset, .unset, .unset, .unset, .unset, .unset, .unset, .unset, .unset, .unset, .unset] [(.ref a1), (.ref a1)] := own_dup w at_187 rfl
  replace w : own_W K b0 Z n0 h27 1 31 190 #[.val (.int p0), .val (.int p1), .unset, .unset, .unset, .unset, .unset, .unset, .unset, .unset, .unset, .unset, .unset, .unset, .unset] [(.int (27 : Int32)), (.ref a1), (.ref a1)] := own_bipush w at_188 rfl
  replace w : own_W K b0 Z n0 h27 1 31 193 #[.val (.int p0), .val (.int p1), .unset, .unset, .unset, .unset, .unset, .unset, .unset, .unset, .unset, .unset, .unset, .unset, .unset] [(.long (55296 : Int64)), (.int (27 : Int32)), (.ref a1), (.ref a1)] := own_ldc2 w at_190 (hw _ (List.mem_of_getElem? (i := 28) rfl))
  obtain ⟨h28, w, A_a1, K_h28⟩ := own_lastore w at_193 A_a1 27 (by decide) (Nat.le_of_ble_eq_true rfl) g_a1 (l' := [65, 95, 97, 192, 216, 248, 880, 895, 8204, 8304, 11264, 12289, 63744, 65008, 65536, (-2147483648), 91, 96, 123, 215, 247, 768, 894, 8192, 8206, 8592, 12272, 55296, 0, 0, 0]) rfl
  replace w : own_W K b0 Z n0 h28 1 31 194 #[.val (.int p0), .val (.int p1), .unset, .unset, .unset, .unset, .unset, .unset, .unset, .unset, .unset, .unset, .unset, .unset, .unset] [(.ref a1)] := w
  replace w : own_W K b0 Z n0 h28 1 31 195 #[.val (.int p0), .val (.int p1), .unset, .unset, .unset, .unset, .unset, .unset, .unset, .unset, .unset, .unset, .unset, .unset, .unset] [(.ref a1), (.ref a1)] := own_dup w at_194 rfl
  replace w : own_W K b0 Z n0 h28 1 31 197 #[.val (.int p0), .val (.int p1), .unset, .unset, .unset, .unset, .unset, .unset, .unset, .unset, .unset, .unset, .unset, .unset, .unset] [(.int (28 : Int32)), (.ref a1), (.ref a1)] := own_bipush w at_195 rfl
  replace w : own_W K b0 Z n0 h28 1 31 200 #[.val (.int p0), .val (.int p1), .unset, .unset, .unset, .unset, .unset, .unset, .unset, .unset, .unset, .unset, .unset, .unset, .unset] [(.long (64976 : Int64)), (.int (28 : Int32)), (.ref a1), (.ref a1)] := own_ldc2 w at_197 (hw _ (List.mem_of_getElem? (i := 29) rfl))
  obtain ⟨h29, w, A_a1, K_h29⟩ := own_lastore w at_200 A_a1 28 (by decide) (Nat.le_of_ble_eq_true rfl) g_a1 (l' := [65, 95, 97, 192, 216, 248, 880, 895, 8204, 8304, 11264, 12289, 63744, 65008, 65536, (-2147483648), 91, 96, 123, 215, 247, 768, 894, 8192, 8206, 8592, 12272, 55296, 64976, 0, 0]) rfl
  replace w : own_W K b0 Z n0 h29 1 31 201 #[.val (.int p0), .val (.int p1), .unset, .unset, .unset, .unset, .unset, .unset, .unset, .unset, .unset, .unset, .unset, .unset, .unset] [(.ref a1)] := w
  replace w : own_W K b0 Z n0 h29 1 31 202 #[.val (.int p0), .val (.int p1), .unset, .unset, .unset, .unset, .unset, .unset, .unset, .unset, .unset, .unset, .unset, .unset, .unset] [(.ref a1), (.ref a1)] := own_dup w at_201 rfl
  replace w : own_W K b0 Z n0 h29 1 31 204 #[.val (.int p0), .val (.int p1), .unset, .unset, .unset, .unset, .unset, .unset, .unset, .unset, .unset, .unset, .unset, .unset, .unset] [(.int (29 : Int32)), (.ref a1), (.ref a1)] := own_bipush w at_202 rfl
  replace w : own_W K b0 Z n0 h29 1 31 207 #[.val (.int p0), .val (.int p1), .unset, .unset, .unset, .unset, .unset, .unset, .unset, .unset, .unset, .unset, .unset, .unset, .unset] [(.long (65534 : Int64)), (.int (29 : Int32)), (.ref a1), (.ref a1)] := own_ldc2 w at_204 (hw _ (List.mem_of_getElem? (i := 30) rfl))
  obtain ⟨h30, w, A_a1, K_h30⟩ := own_lastore w at_207 A_a1 29 (by decide) (Nat.le_of_ble_eq_true rfl) g_a1 (l' := [65, 95, 97, 192, 216, 248, 880, 895, 8204, 8304, 11264, 12289, 63744, 65008, 65536, (-2147483648), 91, 96, 123, 215, 247, 768, 894, 8192, 8206, 8592, 12272, 55296, 64976, 65534, 0]) rfl
  replace w : own_W K b0 Z n0 h30 1 31 208 #[.val (.int p0), .val (.int p1), .unset, .unset, .unset, .unset, .unset, .unset, .unset, .unset, .unset, .unset, .unset, .unset, .unset] [(.ref a1)] := w
  replace w : own_W K b0 Z n0 h30 1 31 209 #[.val (.int p0), .val (.int p1), .unset, .unset, .unset, .unset, .unset, .unset, .unset, .unset, .unset, .unset, .unset, .unset, .unset] [(.ref a1), (.ref a1)] := own_dup w at_208 rfl
  replace w : own_W K b0 Z n0 h30 1 31 211 #[.val (.int p0), .val (.int p1), .unset, .unset, .unset, .unset, .unset, .unset, .unset, .unset, .unset, .unset, .unset, .unset, .unset] [(.int (30 : Int32)), (.ref a1), (.ref a1)] := own_bipush w at_209 rfl
  replace w : own_W K b0 Z n0 h30 1 31 214 #[.val (.int p0), .val (.int p1), .unset, .unset, .unset, .unset, .unset, .unset, .unset, .unset, .unset, .unset, .unset, .unset, .unset] [(.long (983040 : Int64)), (.int (30 : Int32)), (.ref a1), (.ref a1)] := own_ldc2 w at_211 (hw _ (List.mem_of_getElem? (i := 31) rfl))
  obtain ⟨h31, w, A_a1, K_h31⟩ := own_lastore w at_214 A_a1 30 (by decide) (Nat.le_of_ble_eq_true rfl) g_a1 (l' := [65, 95, 97, 192, 216, 248, 880, 895, 8204, 8304, 11264, 12289, 63744, 65008, 65536, (-2147483648), 91, 96, 123, 215, 247, 768, 894, 8192, 8206, 8592, 12272, 55296, 64976, 65534, 983040]) rfl
  replace w : own_W K b0 Z n0 h31 1 31 215 #[.val (.int p0), .val (.int p1), .unset, .unset, .unset, .unset, .unset, .unset, .unset, .unset, .unset, .unset, .unset, .unset, .unset] [(.ref a1)] := w
  replace w : own_W K b0 Z n0 h31 1 31 216 #[.val (.int p0), .val (.int p1), .val (.ref a1), .unset, .unset, .unset, .unset, .unset, .unset, .unset, .unset, .unset, .unset, .unset, .unset] [] := own_astoreN w at_215 rfl
  replace w : own_W K b0 Z n0 h31 1 31 218 #[.val (.int p0), .val (.int p1), .val (.ref a1), .unset, .unset, .unset, .unset, .unset, .unset, .unset, .unset, .unset, .unset, .unset, .unset] [(.int (31 : Int32))] := own_bipush w at_216 rfl
  obtain ⟨h_a2, a2, w, s_a2, g_a2, E_a2, A_a2⟩ := own_newJ w at_218 (hw _ (List.mem_of_getElem? (i := 0) rfl)) 31 31 (by decide) (Nat.le_refl _) (by decide) (by decide) (by decide) (l' := [0, 0, 0, 0, 0, 0, 0, 0, 0, 0, 0, 0, 0, 0, 0, 0, 0, 0, 0, 0, 0, 0, 0, 0, 0, 0, 0, 0, 0, 0, 0]) rfl
  have ne_a1_a2 : a1 ≠ a2 := Nat.ne_of_lt (by rw [s_a2]; exact own_Jlt A_a1)
  have ne_a2_a1 : a2 ≠ a1 := Ne.symm ne_a1_a2
  replace A_a1 := own_Jext A_a1 E_a2
  replace w : own_W K b0 Z n0 h_a2 2 62 220 #[.val (.int p0), .val (.int p1), .val (.ref a1), .unset, .unset, .unset, .unset, .unset, .unset, .unset, .unset, .unset, .unset, .unset, .unset] [(.ref a2)] := w
  replace A_a2 : own_J Z h_a2 a2 [0, 0, 0, 0, 0, 0, 0, 0, 0, 0, 0, 0, 0, 0, 0, 0, 0, 0, 0, 0, 0, 0, 0, 0, 0, 0, 0, 0, 0, 0, 0] := A_a2
  replace w : own_W K b0 Z n0 h_a2 2 62 221 #[.val (.int p0), .val (.int p1), .val (.ref a1), .unset, .unset, .unset, .unset, .unset, .unset, .unset, .unset, .unset, .unset, .unset, .unset] [(.ref a2), (.ref a2)] := own_dup w at_220 rfl
  replace w : own_W K b0 Z n0 h_a2 2 62 222 #[.val (.int p0), .val (.int p1), .val (.ref a1), .unset, .unset, .unset, .unset, .unset, .unset, .unset, .unset, .unset, .unset, .unset, .unset] [(.int (0 : Int32)), (.ref a2), (.ref a2)] := own_iconst w at_221 rfl
  replace w : own_W K b0 Z n0 h_a2 2 62 225 #[.val (.int p0), .val (.int p1), .val (.ref a1), .unset, .unset, .unset, .unset, .unset, .unset, .unset, .unset, .unset, .unset, .unset, .unset] [(.long (90 : Int64)), (.int (0 : Int32)), (.ref a2), (.ref a2)] := own_ldc2 w at_222 (hw _ (List.mem_of_getElem? (i := 32) rfl))
  obtain ⟨h32, w, A_a2, K_h32⟩ := own_lastore w at_225 A_a2 0 (by decide) (Nat.le_of_ble_eq_true rfl) g_a2 (l' := [90, 0, 0, 0, 0, 0, 0, 0, 0, 0, 0, 0, 0, 0, 0, 0, 0, 0, 0, 0, 0, 0, 0, 0, 0, 0, 0, 0, 0, 0, 0]) rfl
  replace A_a1 := own_Jkeep A_a1 K_h32 (own_nin ne_a1_a2)
  replace w : own_W K b0 Z n0 h32 2 62 226 #[.val (.int p0), .val (.int p1), .val (.ref a1), .unset, .unset, .unset, .unset, .unset, .unset, .unset, .unset, .unset, .unset, .unset, .unset] [(.ref a2)] := w
  replace w : own_W K b0 Z n0 h32 2 62 227 #[.val (.int p0), .val (.int p1), .val (.ref a1), .unset, .unset, .unset, .unset, .unset, .unset, .unset, .unset, .unset, .unset, .unset, .unset] [(.ref a2), (.ref a2)] := own_dup w at_226 rfl
  replace w : own_W K b0 Z n0 h32 2 62 228 #[.val (.int p0), .val (.int p1), .val (.ref a1), .unset, .unset, .unset, .unset, .unset, .unset, .unset, .unset, .unset, .unset, .unset, .unset] [(.int (1 : Int32)), (.ref a2), (.ref a2)] := own_iconst w at_227 rfl
  replace w : own_W K b0 Z n0 h32 2 62 231 #[.val (.int p0), .val (.int p1), .val (.ref a1), .unset, .unset, .unset, .unset, .unset, .unset, .unset, .unset, .unset, .unset, .unset, .unset] [(.long (95 : Int64)), (.int (1 : Int32)), (.ref a2), (.ref a2)] := own_ldc2 w at_228 (hw _ (List.mem_of_getElem? (i := 2) rfl))
  obtain ⟨h33, w, A_a2, K_h33⟩ := own_lastore w at_231 A_a2 1 (by decide) (Nat.le_of_ble_eq_true rfl) g_a2 (l' := [90, 95, 0, 0, 0, 0, 0, 0, 0, 0, 0, 0, 0, 0, 0, 0, 0, 0, 0, 0, 0, 0, 0, 0, 0, 0, 0, 0, 0, 0, 0]) rfl
  replace A_a1 := own_Jkeep A_a1 K_h33 (own_nin ne_a1_a2)
  replace w : own_W K b0 Z n0 h33 2 62 232 #[.val (.int p0), .val (.int p1), .val (.ref a1), .unset, .unset, .unset, .unset, .unset, .unset, .unset, .unset, .unset, .unset, .unset, .unset] [(.ref a2)] := w
  replace w : own_W K b0 Z n0 h33 2 62 233 #[.val (.int p0), .val (.int p1), .val (.ref a1), .unset, .unset, .unset, .unset, .unset, .unset, .unset, .unset, .unset, .unset, .unset, .unset] [(.ref a2), (.ref a2)] := own_dup w at_232 rfl
  replace w : own_W K b0 Z n0 h33 2 62 234 #[.val (.int p0), .val (.int p1), .val (.ref a1), .unset, .unset, .unset, .unset, .unset, .unset, .unset, .unset, .unset, .unset, .unset, .unset] [(.int (2 : Int32)), (.ref a2), (.ref a2)] := own_iconst w at_233 rfl
  replace w : own_W K b0 Z n0 h33 2 62 237 #[.val (.int p0), .val (.int p1), .val (.ref a1), .unset, .unset, .unset, .unset, .unset, .unset, .unset, .unset, .unset, .unset, .unset, .unset] [(.long (122 : Int64)), (.int (2 : Int32)), (.ref a2), (.ref a2)] := own_ldc2 w at_234 (hw _ (List.mem_of_getElem? (i := 33) rfl))
  obtain ⟨h34, w, A_a2, K_h34⟩ := own_lastore w at_237 A_a2 2 (by decide) (Nat.le_of_ble_eq_true rfl) g_a2 (l' := [90, 95, 122, 0, 0, 0, 0, 0, 0, 0, 0, 0, 0, 0, 0, 0, 0, 0, 0, 0, 0, 0, 0, 0, 0, 0, 0, 0, 0, 0, 0]) rfl
  replace A_a1 := own_Jkeep A_a1 K_h34 (own_nin ne_a1_a2)
  replace w : own_W K b0 Z n0 h34 2 62 238 #[.val (.int p0), .val (.int p1), .val (.ref a1), .unset, .unset, .unset, .unset, .unset, .unset, .unset, .unset, .unset, .unset, .unset, .unset] [(.ref a2)] := w
  replace w : own_W K b0 Z n0 h34 2 62 239 #[.val (.int p0), .val (.int p1), .val (.ref a1), .unset, .unset, .unset, .unset, .unset, .unset, .unset, .unset, .unset, .unset, .unset, .unset] [(.ref a2), (.ref a2)] := own_dup w at_238 rfl
  replace w : own_W K b0 Z n0 h34 2 62 240 #[.val (.int p0), .val (.int p1), .val (.ref a1), .unset, .unset, .unset, .unset, .unset, .unset, .unset, .unset, .unset, .unset, .unset, .unset] [(.int (3 : Int32)), (.ref a2), (.ref a2)] := own_iconst w at_239 rfl
  replace w : own_W K b0 Z n0 h34 2 62 243 #[.val (.int p0), .val (.int p1), .val (.ref a1), .unset, .unset, .unset, .unset, .unset, .unset, .unset, .unset, .unset, .unset, .unset, .unset] [(.long (214 : Int64)), (.int (3 : Int32)), (.ref a2), (.ref a2)] := own_ldc2 w at_240 (hw _ (List.mem_of_getElem? (i := 34) rfl))
  obtain ⟨h35, w, A_a2, K_h35⟩ := own_lastore w at_243 A_a2 3 (by decide) (Nat.le_of_ble_eq_true rfl) g_a2 (l' := [90, 95, 122, 214, 0, 0, 0, 0, 0, 0, 0, 0, 0, 0, 0, 0, 0, 0, 0, 0, 0, 0, 0, 0, 0, 0, 0, 0, 0, 0, 0]) rfl
  replace A_a1 := own_Jkeep A_a1 K_h35 (own_nin ne_a1_a2)
  replace w : own_W K b0 Z n0 h35 2 62 244 #[.val (.int p0), .val (.int p1), .val (.ref a1), .unset, .unset, .unset, .unset, .unset, .unset, .unset, .unset, .unset, .unset, .unset, .unset] [(.ref a2)] := w
  replace w : own_W K b0 Z n0 h35 2 62 245 #[.val (.int p0), .val (.int p1), .val (.ref a1), .unset, .unset, .unset, .unset, .unset, .unset, .unset, .unset, .unset, .unset, .unset, .unset] [(.ref a2), (.ref a2)] := own_dup w at_244 rfl
  replace w : own_W K b0 Z n0 h35 2 62 246 #[.val (.int p0), .val (.int p1), .val (.ref a1), .unset, .unset, .unset, .unset, .unset, .unset, .unset, .unset, .unset, .unset, .unset, .unset] [(.int (4 : Int32)), (.ref a2), (.ref a2)] := own_iconst w at_245 rfl
  replace w : own_W K b0 Z n0 h35 2 62 249 #[.val (.int p0), .val (.int p1), .val (.ref a1), .unset, .unset, .unset, .unset, .unset, .unset, .unset, .unset, .unset, .unset, .unset, .unset] [(.long (246 : Int64)), (.int (4 : Int32)), (.ref a2), (.ref a2)] := own_ldc2 w at_246 (hw _ (List.mem_of_getElem? (i := 35) rfl))
  obtain ⟨h36, w, A_a2, K_h36⟩ := own_lastore w at_249 A_a2 4 (by decide) (Nat.le_of_ble_eq_true rfl) g_a2 (l' := [90, 95, 122, 214, 246, 0, 0, 0, 0, 0, 0, 0, 0, 0, 0, 0, 0, 0, 0, 0, 0, 0, 0, 0, 0, 0, 0, 0, 0, 0, 0]) rfl
  replace A_a1 := own_Jkeep A_a1 K_h36 (own_nin ne_a1_a2)
  replace w : own_W K b0 Z n0 h36 2 62 250 #[.val (.int p0), .val (.int p1), .val (.ref a1), .unset, .unset, .unset, .unset, .unset, .unset, .unset, .unset, .unset, .unset, .unset, .unset] [(.ref a2)] := w
  replace w : own_W K b0 Z n0 h36 2 62 251 #[.val (.int p0), .val (.int p1), .val (.ref a1), .unset, .unset, .unset, .unset, .unset, .unset, .unset, .unset, .unset, .unset, .unset, .unset] [(.ref a2), (.ref a2)] := own_dup w at_250 rfl
  replace w : own_W K b0 Z n0 h36 2 62 252 #[.val (.int p0), .val (.int p1), .val (.ref a1), .unset, .unset, .unset, .unset, .unset, .unset, .unset, .unset, .unset, .unset, .unset, .unset] [(.int (5 : Int32)), (.ref a2), (.ref a2)] := own_iconst w at_251 rfl
  replace w : own_W K b0 Z n0 h36 2 62 255 #[.val (.int p0), .val (.int p1), .val (.ref a1), .unset, .unset, .unset, .unset, .unset, .unset, .unset, .unset, .unset, .unset, .unset, .unset] [(.long (767 : Int64)), (.int (5 : Int32)), (.ref a2), (.ref a2)] := own_ldc2 w at_252 (hw _ (List.mem_of_getElem? (i := 36) rfl))
  obtain ⟨h37, w, A_a2, K_h37⟩ := own_lastore w at_255 A_a2 5 (by decide) (Nat.le_of_ble_eq_true rfl) g_a2 (l' := [90, 95, 122, 214, 246, 767, 0, 0, 0, 0, 0, 0, 0, 0, 0, 0, 0, 0, 0, 0, 0, 0, 0, 0, 0, 0, 0, 0, 0, 0, 0]) rfl
  replace A_a1 := own_Jkeep A_a1 K_h37 (own_nin ne_a1_a2)
  replace w : own_W K b0 Z n0 h37 2 62 256 #[.val (.int p0), .val (.int p1), .val (.ref a1), .unset, .unset, .unset, .unset, .unset, .unset, .unset, .unset, .unset, .unset, .unset, .unset] [(.ref a2)] := w
  replace w : own_W K b0 Z n0 h37 2 62 257 #[.val (.int p0), .val (.int p1), .val (.ref a1), .unset, .unset, .unset, .unset, .unset, .unset, .unset, .unset, .unset, .unset, .unset, .unset] [(.ref a2), (.ref a2)] := own_dup w at_256 rfl
  replace w : own_W K b0 Z n0 h37 2 62 259 #[.val (.int p0), .val (.int p1), .val (.ref a1), .unset, .unset, .unset, .unset, .unset, .unset, .unset, .unset, .unset, .unset, .unset, .unset] [(.int (6 : Int32)), (.ref a2), (.ref a2)] := own_bipush w at_257 rfl
  replace w : own_W K b0 Z n0 h37 2 62 262 #[.val (.int p0), .val (.int p1), .val (.ref a1), .unset, .unset, .unset, .unset, .unset, .unset, .unset, .unset, .unset, .unset, .unset, .unset] [(.long (893 : Int64)), (.int (6 : Int32)), (.ref a2), (.ref a2)] := own_ldc2 w at_259 (hw _ (List.mem_of_getElem? (i := 37) rfl))
  obtain ⟨h38, w, A_a2, K_h38⟩ := own_lastore w at_262 A_a2 6 (by decide) (Nat.le_of_ble_eq_true rfl) g_a2 (l' := [90, 95, 122, 214, 246, 767, 893, 0, 0, 0, 0, 0, 0, 0, 0, 0, 0, 0, 0, 0, 0, 0, 0, 0, 0, 0, 0, 0, 0, 0, 0]) rfl
  replace A_a1 := own_Jkeep A_a1 K_h38 (own_nin ne_a1_a2)
  replace w : own_W K b0 Z n0 h38 2 62 263 #[.val (.int p0), .val (.int p1), .val (.ref a1), .unset, .unset, .unset, .unset, .unset, .unset, .unset, .unset, .unset, .unset, .unset, .unset] [(.ref a2)] := w
  replace w : own_W K b0 Z n0 h38 2 62 264 #[.val (.int p0), .val (.int p1), .val (.ref a1), .unset, .unset, .unset, .unset, .unset, .unset, .unset, .unset, .unset, .unset, .unset, .unset] [(.ref a2), (.ref a2)] := own_dup w at_263 rfl
  replace w : own_W K b0 Z n0 h38 2 62 266 #[.val (.int p0), .val (.int p1), .val (.ref a1), .unset, .unset, .unset, .unset, .unset, .unset, .unset, .unset, .unset, .unset, .unset, .unset] [(.int (7 : Int32)), (.ref a2), (.ref a2)] := own_bipush w at_264 rfl
  replace w : own_W K b0 Z n0 h38 2 62 269 #[.val (.int p0), .val (.int p1), .val (.ref a1), .unset, .unset, .unset, .unset, .unset, .unset, .unset, .unset, .unset, .unset, .unset, .unset] [(.long (8191 : Int64)), (.int (7 : Int32)), (.ref a2), (.ref a2)] := own_ldc2 w at_266 (hw _ (List.mem_of_getElem? (i := 38) rfl))
  obtain ⟨h39, w, A_a2, K_h39⟩ := own_lastore w at_269 A_a2 7 (by decide) (Nat.le_of_ble_eq_true rfl) g_a2 (l' := [90, 95, 122, 214, 246, 767, 893, 8191, 0, 0, 0, 0, 0, 0, 0, 0, 0, 0, 0, 0, 0, 0, 0, 0, 0, 0, 0, 0, 0, 0, 0]) rfl
  replace A_a1 := own_Jkeep A_a1 K_h39 (own_nin ne_a1_a2)
  replace w : own_W K b0 Z n0 h39 2 62 270 #[.val (.int p0), .val (.int p1), .val (.ref a1), .unset, .unset, .unset, .unset, .unset, .unset, .unset, .unset, .unset, .unset, .unset, .unset] [(.ref a2)] := w
  replace w : own_W K b0 Z n0 h39 2 62 271 #[.val (.int p0), .val (.int p1), .val (.ref a1), .unset, .unset, .unset, .unset, .unset, .unset, .unset, .unset, .unset, .unset, .unset, .unset] [(.ref a2), (.ref a2)] := own_dup w at_270 rfl
  replace w : own_W K b0 Z n0 h39 2 62 273 #[.val (.int p0), .val (.int p1), .val (.ref a1), .unset, .unset, .unset, .unset, .unset, .unset, .unset, .unset, .unset, .unset, .unset, .unset] [(.int (8 : Int32)), (.ref a2), (.ref a2)] := own_bipush w at_271 rfl
  replace w : own_W K b0 Z n0 h39 2 62 276 #[.val (.int p0), .val (.int p1), .val (.ref a1), .unset, .unset, .unset, .unset, .unset, .unset, .unset, .unset, .unset, .unset, .unset, .unset] [(.long (8205 : Int64)), (.int (8 : Int32)), (.ref a2), (.ref a2)] := own_ldc2 w at_273 (hw _ (List.mem_of_getElem? (i := 39) rfl))
  obtain ⟨h40, w, A_a2, K_h40⟩ := own_lastore w at_276 A_a2 8 (by decide) (Nat.le_of_ble_eq_true rfl) g_a2 (l' := [90, 95, 122, 214, 246, 767, 893, 8191, 8205, 0, 0, 0, 0, 0, 0, 0, 0, 0, 0, 0, 0, 0, 0, 0, 0, 0, 0, 0, 0, 0, 0]) rfl
  replace A_a1 := own_Jkeep A_a1 K_h40 (own_nin ne_a1_a2)
  replace w : own_W K b0 Z n0 h40 2 62 277 #[.val (.int p0), .val (.int p1), .val (.ref a1), .unset, .unset, .unset, .unset, .unset, .unset, .unset, .unset, .unset, .unset, .unset, .unset] [(.ref a2)] := w
  replace w : own_W K b0 Z n0 h40 2 62 278 #[.val (.int p0), .val (.int p1), .val (.ref a1), .unset, .unset, .unset, .unset, .unset, .unset, .unset, .unset, .unset, .unset, .unset, .unset] [(.ref a2), (.ref a2)] := own_dup w at_277 rfl
  replace w : own_W K b0 Z n0 h40 2 62 280 #[.val (.int p0), .val (.int p1), .val (.ref a1), .unset, .unset, .unset, .unset, .unset, .unset, .unset, .unset, .unset, .unset, .unset, .unset] [(.int (9 : Int32)), (.ref a2), (.ref a2)] := own_bipush w at_278 rfl
  replace w : own_W K b0 Z n0 h40 2 62 283 #[.val (.int p0), .val (.int p1), .val (.ref a1), .unset, .unset, .unset, .unset, .unset, .unset, .unset, .unset, .unset, .unset, .unset, .unset] [(.long (8591 : Int64)), (.int (9 : Int32)), (.ref a2), (.ref a2)] := own_ldc2 w at_280 (hw _ (List.mem_of_getElem? (i := 40) rfl))
  obtain ⟨h41, w, A_a2, K_h41⟩ := own_lastore w at_283 A_a2 9 (by decide) (Nat.le_of_ble_eq_true rfl) g_a2 (l' := [90, 95, 122, 214, 246, 767, 893, 8191, 8205, 8591, 0, 0, 0, 0, 0, 0, 0, 0, 0, 0, 0, 0, 0, 0, 0, 0, 0, 0, 0, 0, 0]) rfl
  replace A_a1 := own_Jkeep A_a1 K_h41 (own_nin ne_a1_a2)
  replace w : own_W K b0 Z n0 h41 2 62 284 #[.val (.int p0), .val (.int p1), .val (.ref a1), .unset, .unset, .unset, .unset, .unset, .unset, .unset, .unset, .unset, .unset, .unset, .unset] [(.ref a2)] := w
  replace w : own_W K b0 Z n0 h41 2 62 285 #[.val (.int p0), .val (.int p1), .val (.ref a1), .unset, .unset, .unset, .unset, .unset, .unset, .unset, .unset, .unset, .unset, .unset, .unset] [(.ref a2), (.ref a2)] := own_dup w at_284 rfl
  replace w : own_W K b0 Z n0 h41 2 62 287 #[.val (.int p0), .val (.int p1), .val (.ref a1), .unset, .unset, .unset, .unset, .unset, .unset, .unset, .unset, .unset, .unset, .unset, .unset] [(.int (10 : Int32)), (.ref a2), (.ref a2)] := own_bipush w at_285 rfl
  replace w : own_W K b0 Z n0 h41 2 62 290 #[.val (.int p0), .val (.int p1), .val (.ref a1), .unset, .unset, .unset, .unset, .unset, .unset, .unset, .unset, .unset, .unset, .unset, .unset] [(.long (12271 : Int64)), (.int (10 : Int32)), (.ref a2), (.ref a2)] := own_ldc2 w at_287 (hw _ (List.mem_of_getElem? (i := 41) rfl))
  obtain ⟨h42, w, A_a2, K_h42⟩ := own_lastore w at_290 A_a2 10 (by decide) (Nat.le_of_ble_eq_true rfl) g_a2 (l' := [90, 95, 122, 214, 246, 767, 893, 8191, 8205, 8591, 12271, 0, 0, 0, 0, 0, 0, 0, 0, 0, 0, 0, 0, 0, 0, 0, 0, 0, 0, 0, 0]) rfl
  replace A_a1 := own_Jkeep A_a1 K_h42 (own_nin ne_a1_a2)
  replace w : own_W K b0 Z n0 h42 2 62 291 #[.val (.int p0), .val (.int p1), .val (.ref a1), .unset, .unset, .unset, .unset, .unset, .unset, .unset, .unset, .unset, .unset, .unset, .unset] [(.ref a2)] := w
  replace w : own_W K b0 Z n0 h42 2 62 292 #[.val (.int p0), .val (.int p1), .val (.ref a1), .unset, .unset, .unset, .unset, .unset, .unset, .unset, .unset, .unset, .unset, .unset, .unset] [(.ref a2), (.ref a2)] := own_dup w at_291 rfl
  replace w : own_W K b0 Z n0 h42 2 62 294 #[.val (.int p0), .val (.int p1), .val (.ref a1), .unset, .unset, .unset, .unset, .unset, .unset, .unset, .unset, .unset, .unset, .unset, .unset] [(.int (11 : Int32)), (.ref a2), (.ref a2)] := own_bipush w at_292 rfl
  replace w : own_W K b0 Z n0 h42 2 62 297 #[.val (.int p0), .val (.int p1), .val (.ref a1), .unset, .unset, .unset, .unset, .unset, .unset, .unset, .unset, .unset, .unset, .unset, .unset] [(.long (55295 : Int64)), (.int (11 : Int32)), (.ref a2), (.ref a2)] := own_ldc2 w at_294 (hw _ (List.mem_of_getElem? (i := 42) rfl))
  obtain ⟨h43, w, A_a2, K_h43⟩ := own_lastore w at_297 A_a2 11 (by decide) (Nat.le_of_ble_eq_true rfl) g_a2 (l' := [90, 95, 122, 214, 246, 767, 893, 8191, 8205, 8591, 12271, 55295, 0, 0, 0, 0, 0, 0, 0, 0, 0, 0, 0, 0, 0, 0, 0, 0, 0, 0, 0]) rfl
  replace A_a1 := own_Jkeep A_a1 K_h43 (own_nin ne_a1_a2)
  replace w : own_W K b0 Z n0 h43 2 62 298 #[.val (.int p0), .val (.int p1), .val (.ref a1), .unset, .unset, .unset, .unset, .unset, .unset, .unset, .unset, .unset, .unset, .unset, .unset] [(.ref a2)] := w
  replace w : own_W K b0 Z n0 h43 2 62 299 #[.val (.int p0), .val (.int p1), .val (.ref a1), .unset, .unset, .unset, .unset, .unset, .unset, .unset, .unset, .unset, .unset, .unset, .unset] [(.ref a2), (.ref a2)] := own_dup w at_298 rfl
  replace w : own_W K b0 Z n0 h43 2 62 301 #[.val (.int p0), .val (.int p1), .val (.ref a1), .unset, .unset, .unset, .unset, .unset, .unset, .unset, .unset, .unset, .unset, .unset, .unset] [(.int (12 : Int32)), (.ref a2), (.ref a2)] := own_bipush w at_299 rfl
  replace w : own_W K b0 Z n0 h43 2 62 304 #[.val (.int p0), .val (.int p1), .val (.ref a1), .unset, .unset, .unset, .unset, .unset, .unset, .unset, .unset, .unset, .unset, .unset, .unset] [(.long (64975 : Int64)), (.int (12 : Int32)), (.ref a2), (.ref a2)] := own_ldc2 w at_301 (hw _ (List.mem_of_getElem? (i := 43) rfl))
  obtain ⟨h44, w, A_a2, K_h44⟩ := own_lastore w at_304 A_a2 12 (by decide) (Nat.le_of_ble_eq_true rfl) g_a2 (l' := [90, 95, 122, 214, 246, 767, 893, 8191, 8205, 8591, 12271, 55295, 64975, 0, 0, 0, 0, 0, 0, 0, 0, 0, 0, 0, 0, 0, 0, 0, 0, 0, 0]) rfl
  replace A_a1 := own_Jkeep A_a1 K_h44 (own_nin ne_a1_a2)
  replace w : own_W K b0 Z n0 h44 2 62 305 #[.val (.int p0), .val (.int p1), .val (.ref a1), .unset, .unset, .unset, .unset, .unset, .unset, .unset, .unset, .unset, .unset, .unset, .unset] [(.ref a2)] := w
  replace w : own_W K b0 Z n0 h44 2 62 306 #[.val (.int p0), .val (.int p1), .val (.ref a1), .unset, .unset, .unset, .unset, .unset, .unset, .unset, .unset, .unset, .unset, .unset, .unset] [(.ref a2), (.ref a2)] := own_dup w at_305 rfl
  replace w : own_W K b0 Z n0 h44 2 62 308 #[.val (.int p0), .val (.int p1), .val (.ref a1), .unset, .unset, .unset, .unset, .unset, .unset, .unset, .unset, .unset, .unset, .unset, .unset] [(.int (13 : Int32)), (.ref a2), (.ref a2)] := own_bipush w at_306 rfl
  replace w : own_W K b0 Z n0 h44 2 62 311 #[.val (.int p0), .val (.int p1), .val (.ref a1), .unset, .unset, .unset, .unset, .unset, .unset, .unset, .unset, .unset, .unset, .unset, .unset] [(.long (65533 : Int64)), (.int (13 : Int32)), (.ref a2), (.ref a2)] := own_ldc2 w at_308 (hw _ (List.mem_of_getElem? (i := 44) rfl))
  obtain ⟨h45, w, A_a2, K_h45⟩ := own_lastore w at_311 A_a2 13 (by decide) (Nat.le_of_ble_eq_true rfl) g_a2 (l' := [90, 95, 122, 214, 246, 767, 893, 8191, 8205, 8591, 12271, 55295, 64975, 65533, 0, 0, 0, 0, 0, 0, 0, 0, 0, 0, 0, 0, 0, 0, 0, 0, 0]) rfl
  replace A_a1 := own_Jkeep A_a1 K_h45 (own_nin ne_a1_a2)
  replace w : own_W K b0 Z n0 h45 2 62 312 #[.val (.int p0), .val (.int p1), .val (.ref a1), .unset, .unset, .unset, .unset, .unset, .unset, .unset, .unset, .unset, .unset, .unset, .unset] [(.ref a2)] := w
  replace w : own_W K b0 Z n0 h45 2 62 313 #[.val (.int p0), .val (.int p1), .val (.ref a1), .unset, .unset, .unset, .unset, .unset, .unset, .unset, .unset, .unset, .unset, .unset, .unset] [(.ref a2), (.ref a2)] := own_dup w at_312 rfl
  replace w : own_W K b0 Z n0 h45 2 62 315 #[.val (.int p0), .val (.int p1), .val (.ref a1), .unset, .unset, .unset, .unset, .unset, .unset, .unset, .unset, .unset, .unset, .unset, .unset] [(.int (14 : Int32)), (.ref a2), (.ref a2)] := own_bipush w at_313 rfl
  replace w : own_W K b0 Z n0 h45 2 62 318 #[.val (.int p0), .val (.int p1), .val (.ref a1), .unset, .unset, .unset, .unset, .unset, .unset, .unset, .unset, .unset, .unset, .unset, .unset] [(.long (983039 : Int64)), (.int (14 : Int32)), (.ref a2), (.ref a2)] := own_ldc2 w at_315 (hw _ (List.mem_of_getElem? (i := 45) rfl))
  obtain ⟨h46, w, A_a2, K_h46⟩ := own_lastore w at_318 A_a2 14 (by decide) (Nat.le_of_ble_eq_true rfl) g_a2 (l' := [90, 95, 122, 214, 246, 767, 893, 8191, 8205, 8591, 12271, 55295, 64975, 65533, 983039, 0, 0, 0, 0, 0, 0, 0, 0, 0, 0, 0, 0, 0, 0, 0, 0]) rfl
  replace A_a1 := own_Jkeep A_a1 K_h46 (own_nin ne_a1_a2)
  replace w : own_W K b0 Z n0 h46 2 62 319 #[.val (.int p0), .val (.int p1), .val (.ref a1), .unset, .unset, .unset, .unset, .unset, .unset, .unset, .unset, .unset, .unset, .unset, .unset] [(.ref a2)] := w
  replace w : own_W K b0 Z n0 h46 2 62 320 #[.val (.int p0), .val (.int p1), .val (.ref a1), .unset, .unset, .unset, .unset, .unset, .unset, .unset, .unset, .unset, .unset, .unset, .unset] [(.ref a2), (.ref a2)] := own_dup w at_319 rfl
  replace w : own_W K b0 Z n0 h46 2 62 322 #[.val (.int p0), .val (.int p1), .val (.ref a1), .unset, .unset, .unset, .unset, .unset, .unset, .unset, .unset, .unset, .unset, .unset, .unset] [(.int (15 : Int32)), (.ref a2), (.ref a2)] := own_bipush w at_320 rfl
  replace w : own_W K b0 Z n0 h46 2 62 325 #[.val (.int p0), .val (.int p1), .val (.ref a1), .unset, .unset, .unset, .unset, .unset, .unset, .unset, .unset, .unset, .unset, .unset, .unset] [(.long (64 : Int64)), (.int (15 : Int32)), (.ref a2), (.ref a2)] := own_ldc2 w at_322 (hw _ (List.mem_of_getElem? (i := 46) rfl))
  obtain ⟨h47, w, A_a2, K_h47⟩ := own_lastore w at_325 A_a2 15 (by decide) (Nat.le_of_ble_eq_true rfl) g_a2 (l' := [90, 95, 122, 214, 246, 767, 893, 8191, 8205, 8591, 12271, 55295, 64975, 65533, 983039, 64, 0, 0, 0, 0, 0, 0, 0, 0, 0, 0, 0, 0, 0, 0, 0]) rfl
  replace A_a1 := own_Jkeep A_a1 K_h47 (own_nin ne_a1_a2)
  replace w : own_W K b0 Z n0 h47 2 62 326 #[.val (.int p0), .val (.int p1), .val (.ref a1), .unset, .unset, .unset, .unset, .unset, .unset, .unset, .unset, .unset, .unset, .unset, .unset] [(.ref a2)] := w
  replace w : own_W K b0 Z n0 h47 2 62 327 #[.val (.int p0), .val (.int p1), .val (.ref a1), .unset, .unset, .unset, .unset, .unset, .unset, .unset, .unset, .unset, .unset, .unset, .unset] [(.ref a2), (.ref a2)] := own_dup w at_326 rfl
  replace w : own_W K b0 Z n0 h47 2 62 329 #[.val (.int p0), .val (.int p1), .val (.ref a1), .unset, .unset, .unset, .unset, .unset, .unset, .unset, .unset, .unset, .unset, .unset, .unset] [(.int (16 : Int32)), (.ref a2), (.ref a2)] := own_bipush w at_327 rfl
  replace w : own_W K b0 Z n0 h47 2 62 332 #[.val (.int p0), .val (.int p1), .val (.ref a1), .unset, .unset, .unset, .unset, .unset, .unset, .unset, .unset, .unset, .unset, .unset, .unset] [(.long (94 : Int64)), (.int (16 : Int32)), (.ref a2), (.ref a2)] := own_ldc2 w at_329 (hw _ (List.mem_of_getElem? (i := 47) rfl))
  obtain ⟨h48, w, A_a2, K_h48⟩ := own_lastore w at_332 A_a2 16 (by decide) (Nat.le_of_ble_eq_true rfl) g_a2 (l' := [90, 95, 122, 214, 246, 767, 893, 8191, 8205, 8591, 12271, 55295, 64975, 65533, 983039, 64, 94, 0, 0, 0, 0, 0, 0, 0, 0, 0, 0, 0, 0, 0, 0]) rfl
  replace A_a1 := own_Jkeep A_a1 K_h48 (own_nin ne_a1_a2)
  replace w : own_W K b0 Z n0 h48 2 62 333 #[.val (.int p0), .val (.int p1), .val (.ref a1), .unset, .unset, .unset, .unset, .unset, .unset, .unset, .unset, .unset, .unset, .unset, .unset] [(.ref a2)] := w
  replace w : own_W K b0 Z n0 h48 2 62 334 #[.val (.int p0), .val (.int p1), .val (.ref a1), .unset, .unset, .unset, .unset, .unset, .unset, .unset, .unset, .unset, .unset, .unset, .unset] [(.ref a2), (.ref a2)] := own_dup w at_333 rfl
  replace w : own_W K b0 Z n0 h48 2 62 336 #[.val (.int p0), .val (.int p1), .val (.ref a1), .unset, .unset, .unset, .unset, .unset, .unset, .unset, .unset, .unset, .unset, .unset, .unset] [(.int (17 : Int32)), (.ref a2), (.ref a2)] := own_bipush w at_334 rfl
  replace w : own_W K b0 Z n0 h48 2 62 339 #[.val (.int p0), .val (.int p1), .val (.ref a1), .unset, .unset, .unset, .unset, .unset, .unset, .unset, .unset, .unset, .unset, .unset, .unset] [(.long (96 : Int64)), (.int (17 : Int32)), (.ref a2), (.ref a2)] := own_ldc2 w at_336 (hw _ (List.mem_of_getElem? (i := 18) rfl))
  obtain ⟨h49, w, A_a2, K_h49⟩ := own_lastore w at_339 A_a2 17 (by decide) (Nat.le_of_ble_eq_true rfl) g_a2 (l' := [90, 95, 122, 214, 246, 767, 893, 8191, 8205, 8591, 12271, 55295, 64975, 65533, 983039, 64, 94, 96, 0, 0, 0, 0, 0, 0, 0, 0, 0, 0, 0, 0, 0]) rfl
  replace A_a1 := own_Jkeep A_a1 K_h49 (own_nin ne_a1_a2)
  replace w : own_W K b0 Z n0 h49 2 62 340 #[.val (.int p0), .val (.int p1), .val (.ref a1), .unset, .unset, .unset, .unset, .unset, .unset, .unset, .unset, .unset, .unset, .unset, .unset] [(.ref a2)] := w
  replace w : own_W K b0 Z n0 h49 2 62 341 #[.val (.int p0), .val (.int p1), .val (.ref a1), .unset, .unset, .unset, .unset, .unset, .unset, .unset, .unset, .unset, .unset, .unset, .unset] [(.ref a2), (.ref a2)] := own_dup w at_340 rfl
  replace w : own_W K b0 Z n0 h49 2 62 343 #[.val (.int p0), .val (.int p1), .val (.ref a1), .unset, .unset, .unset, .unset, .unset, .unset, .unset, .unset, .unset, .unset, .unset, .unset] [(.int (18 : Int32)), (.ref a2), (.ref a2)] := own_bipush w at_341 rfl
  replace w : own_W K b0 Z n0 h49 2 62 346 #[.val (.int p0), .val (.int p1), .val (.ref a1), .unset, .unset, .unset, .unset, .unset, .unset, .unset, .unset, .unset, .unset, .unset, .unset] [(.long (191 : Int64)), (.int (18 : Int32)), (.ref a2), (.ref a2)] := own_ldc2 w at_343 (hw _ (List.mem_of_getElem? (i := 48) rfl))
  obtain ⟨h50, w, A_a2, K_h50⟩ := own_lastore w at_346 A_a2 18 (by decide) (Nat.le_of_ble_eq_true rfl) g_a2 (l' := [90, 95, 122, 214, 246, 767, 893, 8191, 8205, 8591, 12271, 55295, 64975, 65533, 983039, 64, 94, 96, 191, 0, 0, 0, 0, 0, 0, 0, 0, 0, 0, 0, 0]) rfl
  replace A_a1 := own_Jkeep A_a1 K_h50 (own_nin ne_a1_a2)
  replace w : own_W K b0 Z n0 h50 2 62 347 #[.val (.int p0), .val (.int p1), .val (.ref a1), .unset, .unset, .unset, .unset, .unset, .unset, .unset, .unset, .unset, .unset, .unset, .unset] [(.ref a2)] := w
  replace w : own_W K b0 Z n0 h50 2 62 348 #[.val (.int p0), .val (.int p1), .val (.ref a1), .unset, .unset, .unset, .unset, .unset, .unset, .unset, .unset, .unset, .unset, .unset, .unset] [(.ref a2), (.ref a2)] := own_dup w at_347 rfl
  replace w : own_W K b0 Z n0 h50 2 62 350 #[.val (.int p0), .val (.int p1), .val (.ref a1), .unset, .unset, .unset, .unset, .unset, .unset, .unset, .unset, .unset, .unset, .unset, .unset] [(.int (19 : Int32)), (.ref a2), (.ref a2)] := own_bipush w at_348 rfl
  replace w : own_W K b0 Z n0 h50 2 62 353 #[.val (.int p0), .val (.int p1), .val (.ref a1), .unset, .unset, .unset, .unset, .unset, .unset, .unset, .unset, .unset, .unset, .unset, .unset] [(.long (215 : Int64)), (.int (19 : Int32)), (.ref a2), (.ref a2)] := own_ldc2 w at_350 (hw _ (List.mem_of_getElem? (i := 20) rfl))
  obtain ⟨h51, w, A_a2, K_h51⟩ := own_lastore w at_353 A_a2 19 (by decide) (Nat.le_of_ble_eq_true rfl) g_a2 (l' := [90, 95, 122, 214, 246, 767, 893, 8191, 8205, 8591, 12271, 55295, 64975, 65533, 983039, 64, 94, 96, 191, 215, 0, 0, 0, 0, 0, 0, 0, 0, 0, 0, 0]) rfl
  replace A_a1 := own_Jkeep A_a1 K_h51 (own_nin ne_a1_a2)
  replace w : own_W K b0 Z n0 h51 2 62 354 #[.val (.int p0), .val (.int p1), .val (.ref a1), .unset, .unset, .unset, .unset, .unset, .unset, .unset, .unset, .unset, .unset, .unset, .unset] [(.ref a2)] := w
  replace w : own_W K b0 Z n0 h51 2 62 355 #[.val (.int p0), .val (.int p1), .val (.ref a1), .unset, .unset, .unset, .unset, .unset, .unset, .unset, .unset, .unset, .unset, .unset, .unset] [(.ref a2), (.ref a2)] := own_dup w at_354 rfl
  replace w : own_W K b0 Z n0 h51 2 62 357 #[.val (.int p0), .val (.int p1), .val (.ref a1), .unset, .unset, .unset, .unset, .unset, .unset, .unset, .unset, .unset, .unset, .unset, .unset] [(.int (20 : Int32)), (.ref a2), (.ref a2)] := own_bipush w at_355 rfl
  replace w : own_W K b0 Z n0 h51 2 62 360 #[.val (.int p0), .val (.int p1), .val (.ref a1), .unset, .unset, .unset, .unset, .unset, .unset, .unset, .unset, .unset, .unset, .unset, .unset] [(.long (247 : Int64)), (.int (20 : Int32)), (.ref a2), (.ref a2)] := own_ldc2 w at_357 (hw _ (List.mem_of_getElem? (i := 21) rfl))
  obtain ⟨h52, w, A_a2, K_h52⟩ := own_lastore w at_360 A_a2 20 (by decide) (Nat.le_of_ble_eq_true rfl) g_a2 (l' := [90, 95, 122, 214, 246, 767, 893, 8191, 8205, 8591, 12271, 55295, 64975, 65533, 983039, 64, 94, 96, 191, 215, 247, 0, 0, 0, 0, 0, 0, 0, 0, 0, 0]) rfl
  replace A_a1 := own_Jkeep A_a1 K_h52 (own_nin ne_a1_a2)
  replace w : own_W K b0 Z n0 h52 2 62 361 #[.val (.int p0), .val (.int p1), .val (.ref a1), .unset, .unset, .unset, .unset, .unset, .unset, .unset, .unset, .unset, .unset, .unset, .unset] [(.ref a2)] := w
  replace w : own_W K b0 Z n0 h52 2 62 362 #[.val (.int p0), .val (.int p1), .val (.ref a1), .unset, .unset, .unset, .unset, .unset, .unset, .unset, .unset, .unset, .unset, .unset, .unset] [(.ref a2), (.ref a2)] := own_dup w at_361 rfl
  replace w : own_W K b0 Z n0 h52 2 62 364 #[.val (.int p0), .val (.int p1), .val (.ref a1), .unset, .unset, .unset, .unset, .unset, .unset, .unset, .unset, .unset, .unset, .unset, .unset] [(.int (21 : Int32)), (.ref a2), (.ref a2)] := own_bipush w at_362 rfl
  replace w : own_W K b0 Z n0 h52 2 62 367 #[.val (.int p0), .val (.int p1), .val (.ref a1), .unset, .unset, .unset, .unset, .unset, .unset, .unset, .unset, .unset, .unset, .unset, .unset] [(.long (879 : Int64)), (.int (21 : Int32)), (.ref a2), (.ref a2)] := own_ldc2 w at_364 (hw _ (List.mem_of_getElem? (i := 49) rfl))
  obtain ⟨h53, w, A_a2, K_h53⟩ := own_lastore w at_367 A_a2 21 (by decide) (Nat.le_of_ble_eq_true rfl) g_a2 (l' := [90, 95, 122, 214, 246, 767, 893, 8191, 8205, 8591, 12271, 55295, 64975, 65533, 983039, 64, 94, 96, 191, 215, 247, 879, 0, 0, 0, 0, 0, 0, 0, 0, 0]) rfl
  replace A_a1 := own_Jkeep A_a1 K_h53 (own_nin ne_a1_a2)
  replace w : own_W K b0 Z n0 h53 2 62 368 #[.val (.int p0), .val (.int p1), .val (.ref a1), .unset, .unset, .unset, .unset, .unset, .unset, .unset, .unset, .unset, .unset, .unset, .unset] [(.ref a2)] := w
  replace w : own_W K b0 Z n0 h53 2 62 369 #[.val (.int p0), .val (.int p1), .val (.ref a1), .unset, .unset, .unset, .unset, .unset, .unset, .unset, .unset, .unset, .unset, .unset, .unset] [(.ref a2), (.ref a2)] := own_dup w at_368 rfl
  replace w : own_W K b0 Z n0 h53 2 62 371 #[.val (.int p0), .val (.int p1), .val (.ref a1), .unset, .unset, .unset, .unset, .unset, .unset, .unset, .unset, .unset, .unset, .unset, .unset] [(.int (22 : Int32)), (.ref a2), (.ref a2)] := own_bipush w at_369 rfl
  replace w : own_W K b0 Z n0 h53 2 62 374 #[.val (.int p0), .val (.int p1), .val (.ref a1), .unset, .unset, .unset, .unset, .unset, .unset, .unset, .unset, .unset, .unset, .unset, .unset] [(.long (894 : Int64)), (.int (22 : Int32)), (.ref a2), (.ref a2)] := own_ldc2 w at_371 (hw _ (List.mem_of_getElem? (i := 23) rfl))
  obtain ⟨h54, w, A_a2, K_h54⟩ := own_lastore w at_374 A_a2 22 (by decide) (Nat.le_of_ble_eq_true rfl) g_a2 (l' := [90, 95, 122, 214, 246, 767, 893, 8191, 8205, 8591, 12271, 55295, 64975, 65533, 983039, 64, 94, 96, 191, 215, 247, 879, 894, 0, 0, 0, 0, 0, 0, 0, 0]) rfl
  replace A_a1 := own_Jkeep A_a1 K_h54 (own_nin ne_a1_a2)
  replace w : own_W K b0 Z n0 h54 2 62 375 #[.val (.int p0), .val (.int p1), .val (.ref a1), .unset, .unset, .unset, .unset, .unset, .unset, .unset, .unset, .unset, .unset, .unset, .unset] [(.ref a2)] := w
  replace w : own_W K b0 Z n0 h54 2 62 376 #[.val (.int p0), .val (.int p1), .val (.ref a1), .unset, .unset, .unset, .unset, .unset, .unset, .unset, .unset, .unset, .unset, .unset, .unset] [(.ref a2), (.ref a2)] := own_dup w at_375 rfl
  replace w : own_W K b0 Z n0 h54 2 62 378 #[.val (.int p0), .val (.int p1), .val (.ref a1), .unset, .unset, .unset, .unset, .unset, .unset, .unset, .unset, .unset, .unset, .unset, .unset] [(.int (23 : Int32)), (.ref a2), (.ref a2)] := own_bipush w at_376 rfl
  replace w : own_W K b0 Z n0 h54 2 62 381 #[.val (.int p0), .val (.int p1), .val (.ref a1), .unset, .unset, .unset, .unset, .unset, .unset, .unset, .unset, .unset, .unset, .unset, .unset] [(.long (8203 : Int64)), (.int (23 : Int32)), (.ref a2), (.ref a2)] := own_ldc2 w at_378 (hw _ (List.mem_of_getElem? (i := 50) rfl))
  obtain ⟨h55, w, A_a2, K_h55⟩ := own_lastore w at_381 A_a2 23 (by decide) (Nat.le_of_ble_eq_true rfl) g_a2 (l' := [90, 95, 122, 214, 246, 767, 893, 8191, 8205, 8591, 12271, 55295, 64975, 65533, 983039, 64, 94, 96, 191, 215, 247, 879, 894, 8203, 0, 0, 0, 0, 0, 0, 0]) rfl
  replace A_a1 := own_Jkeep A_a1 K_h55 (own_nin ne_a1_a2)
  replace w : own_W K b0 Z n0 h55 2 62 382 #[.val (.int p0), .val (.int p1), .val (.ref a1), .unset, .unset, .unset, .unset, .unset, .unset, .unset, .unset, .unset, .unset, .unset, .unset] [(.ref a2)] := w
  replace w : own_W K b0 Z n0 h55 2 62 383 #[.val (.int p0), .val (.int p1), .val (.ref a1), .unset, .unset, .unset, .unset, .unset, .unset, .unset, .unset, .unset, .unset, .unset, .unset] [(.ref a2), (.ref a2)] := own_dup w at_382 rfl
  replace w : own_W K b0 Z n0 h55 2 62 385 #[.val (.int p0), .val (.int p1), .val (.ref a1), .unset, .unset, .unset, .unset, .unset, .unset, .unset, .unset, .unset, .unset, .unset, .unset] [(.int (24 : Int32)), (.ref a2), (.ref a2)] := own_bipush w at_383 rfl
  replace w : own_W K b0 Z n0 h55 2 62 388 #[.val (.int p0), .val (.int p1), .val (.ref a1), .unset, .unset, .unset, .unset, .unset, .unset, .unset, .unset, .unset, .unset, .unset, .unset] [(.long (8303 : Int64)), (.int (24 : Int32)), (.ref a2), (.ref a2)] := own_ldc2 w at_385 (hw _ (List.mem_of_getElem? (i := 51) rfl))
  obtain ⟨h56, w, A_a2, K_h56⟩ := own_lastore w at_388 A_a2 24 (by decide) (Nat.le_of_ble_eq_true rfl) g_a2 (l' := [90, 95, 122, 214, 246, 767, 893, 8191, 8205, 8591, 12271, 55295, 64975, 65533, 983039, 64, 94, 96, 191, 215, 247, 879, 894, 8203, 8303, 0, 0, 0, 0, 0, 0]) rfl
  replace A_a1 := own_Jkeep A_a1 K_h56 (own_nin ne_a1_a2)
  replace w : own_W K b0 Z n0 h56 2 62 389 #[.val (.int p0), .val (.int p1), .val (.ref a1), .unset, .unset, .unset, .unset, .unset, .unset, .unset, .unset, .unset, .unset, .unset, .unset] [(.ref a2)] := w
  replace w : own_W K b0 Z n0 h56 2 62 390 #[.val (.int p0), .val (.int p1), .val (.ref a1), .unset, .unset, .unset, .unset, .unset, .unset, .unset, .unset, .unset, .unset, .unset, .unset] [(.ref a2), (.ref a2)] := own_dup w at_389 rfl
  replace w : own_W K b0 Z n0 h56 2 62 392 #[.val (.int p0), .val (.int p1), .val (.ref a1), .unset, .unset, .unset, .unset, .unset, .unset, .unset, .unset, .unset, .unset, .unset, .unset] [(.int (25 : Int32)), (.ref a2), (.ref a2)] := own_bipush w at_390 rfl
  replace w : own_W K b0 Z n0 h56 2 62 395 #[.val (.int p0), .val (.int p1), .val (.ref a1), .unset, .unset, .unset, .unset, .unset, .unset, .unset, .unset, .unset, .unset, .unset, .unset] [(.long (11263 : Int64)), (.int (25 : Int32)), (.ref a2), (.ref a2)] := own_ldc2 w at_392 (hw _ (List.mem_of_getElem? (i := 52) rfl))
  obtain ⟨h57, w, A_a2, K_h57⟩ := own_lastore w at_395 A_a2 25 (by decide) (Nat.le_of_ble_eq_true rfl) g_a2 (l' := [90, 95, 122, 214, 246, 767, 893, 8191, 8205, 8591, 12271, 55295, 64975, 65533, 983039, 64, 94, 96, 191, 215, 247, 879, 894, 8203, 8303, 11263, 0, 0, 0, 0, 0]) rfl
  replace A_a1 := own_Jkeep A_a1 K_h57 (own_nin ne_a1_a2)
  replace w : own_W K b0 Z n0 h57 2 62 396 #[.val (.int p0), .val (.int p1), .val (.ref a1), .unset, .unset, .unset, .unset, .unset, .unset, .unset, .unset, .unset, .unset, .unset, .unset] [(.ref a2)] := w
  replace w : own_W K b0 Z n0 h57 2 62 397 #[.val (.int p0), .val (.int p1), .val (.ref a1), .unset, .unset, .unset, .unset, .unset, .unset, .unset, .unset, .unset, .unset, .unset, .unset] [(.ref a2), (.ref a2)] := own_dup w at_396 rfl
  replace w : own_W K b0 Z n0 h57 2 62 399 #[.val (.int p0), .val (.int p1), .val (.ref a1), .unset, .unset, .unset, .unset, .unset, .unset, .unset, .unset, .unset, .unset, .unset, .unset] [(.int (26 : Int32)), (.ref a2), (.ref a2)] := own_bipush w at_397 rfl
  replace w : own_W K b0 Z n0 h57 2 62 402 #[.val (.int p0), .val (.int p1), .val (.ref a1), .unset, .unset, .unset, .unset, .unset, .unset, .unset, .unset, .unset, .unset, .unset, .unset] [(.long (12288 : Int64)), (.int (26 : Int32)), (.ref a2), (.ref a2)] := own_ldc2 w at_399 (hw _ (List.mem_of_getElem? (i := 53) rfl))
  obtain ⟨h58, w, A_a2, K_h58⟩ := own_lastore w at_402 A_a2 26 (by decide) (Nat.le_of_ble_eq_true rfl) g_a2 (l' := [90, 95, 122, 214, 246, 767, 893, 8191, 8205, 8591, 12271, 55295, 64975, 65533, 983039, 64, 94, 96, 191, 215, 247, 879, 894, 8203, 8303, 11263, 12288, 0, 0, 0, 0]) rfl
  replace A_a1 := own_Jkeep A_a1 K_h58 (own_nin ne_a1_a2)
  replace w : own_W K b0 Z n0 h58 2 62 403 #[.val (.int p0), .val (.int p1), .val (.ref a1), .unset, .unset, .unset, .unset, .unset, .unset, .unset, .unset, .unset, .unset, .unset, .unset] [(.ref a2)] := w
  replace w : own_W K b0 Z n0 h58 2 62 404 #[.val (.int p0), .val (.int p1), .val (.ref a1), .unset, .unset, .unset, .unset, .unset, .unset, .unset, .unset, .unset, .unset, .unset, .unset] [(.ref a2), (.ref a2)] := own_dup w at_403 rfl
  replace w : own_W K b0 Z n0 h58 2 62 406 #[.val (.int p0), .val (.int p1), .val (.ref a1), .unset, .unset, .unset, .unset, .unset, .unset, .unset, .unset, .unset, .unset, .unset, .unset] [(.int (27 : Int32)), (.ref a2), (.ref a2)] := own_bipush w at_404 rfl
  replace w : own_W K b0 Z n0 h58 2 62 409 #[.val (.int p0), .val (.int p1), .val (.ref a1), .unset, .unset, .unset, .unset, .unset, .unset, .unset, .unset, .unset, .unset, .unset, .unset] [(.long (63743 : Int64)), (.int (27 : Int32)), (.ref a2), (.ref a2)] := own_ldc2 w at_406 (hw _ (List.mem_of_getElem? (i := 54) rfl))
  obtain ⟨h59, w, A_a2, K_h59⟩ := own_lastore w at_409 A_a2 27 (by decide) (Nat.le_of_ble_eq_true rfl) g_a2 (l' := [90, 95, 122, 214, 246, 767, 893, 8191, 8205, 8591, 12271, 55295, 64975, 65533, 983039, 64, 94, 96, 191, 215, 247, 879, 894, 8203, 8303, 11263, 12288, 63743, 0, 0, 0]) rfl
  replace A_a1 := own_Jkeep A_a1 K_h59 (own_nin ne_a1_a2)
  replace w : own_W K b0 Z n0 h59 2 62 410 #[.val (.int p0), .val (.int p1), .val (.ref a1), .unset, .unset, .unset, .unset, .unset, .unset, .unset, .unset, .unset, .unset, .unset, .unset] [(.ref a2)] := w
  replace w : own_W K b0 Z n0 h59 2 62 411 #[.val (.int p0), .val (.int p1), .val (.ref a1), .unset, .unset, .unset, .unset, .unset, .unset, .unset, .unset, .unset, .unset, .unset, .unset] [(.ref a2), (.ref a2)] := own_dup w at_410 rfl
  replace w : own_W K b0 Z n0 h59 2 62 413 #[.val (.int p0), .val (.int p1), .val (.ref a1), .unset, .unset, .unset, .unset, .unset, .unset, .unset, .unset, .unset, .unset, .unset, .unset] [(.int (28 : Int32)), (.ref a2), (.ref a2)] := own_bipush w at_411 rfl
  replace w : own_W K b0 Z n0 h59 2 62 416 #[.val (.int p0), .val (.int p1), .val (.ref a1), .unset, .unset, .unset, .unset, .unset, .unset, .unset, .unset, .unset, .unset, .unset, .unset] [(.long (65007 : Int64)), (.int (28 : Int32)), (.ref a2), (.ref a2)] := own_ldc2 w at_413 (hw _ (List.mem_of_getElem? (i := 55) rfl))
  obtain ⟨h60, w, A_a2, K_h60⟩ := own_lastore w at_416 A_a2 28 (by decide) (Nat.le_of_ble_eq_true rfl) g_a2 (l' := [90, 95, 122, 214, 246, 767, 893, 8191, 8205, 8591, 12271, 55295, 64975, 65533, 983039, 64, 94, 96, 191, 215, 247, 879, 894, 8203, 8303, 11263, 12288, 63743, 65007, 0, 0]) rfl
  replace A_a1 := own_Jkeep A_a1 K_h60 (own_nin ne_a1_a2)
  replace w : own_W K b0 Z n0 h60 2 62 417 #[.val (.int p0), .val (.int p1), .val (.ref a1), .unset, .unset, .unset, .unset, .unset, .unset, .unset, .unset, .unset, .unset, .unset, .unset] [(.ref a2)] := w
  replace w : own_W K b0 Z n0 h60 2 62 418 #[.val (.int p0), .val (.int p1), .val (.ref a1), .unset, .unset, .unset, .unset, .unset, .unset, .unset, .unset, .unset, .unset, .unset, .unset] [(.ref a2), (.ref a2)] := own_dup w at_417 rfl
  replace w : own_W K b0 Z n0 h60 2 62 420 #[.val (.int p0), .val (.int p1), .val (.ref a1), .unset, .unset, .unset, .unset, .unset, .unset, .unset, .unset, .unset, .unset, .unset, .unset] [(.int (29 : Int32)), (.ref a2), (.ref a2)] := own_bipush w at_418 rfl
  replace w : own_W K b0 Z n0 h60 2 62 423 #[.val (.int p0), .val (.int p1), .val (.ref a1), .unset, .unset, .unset, .unset, .unset, .unset, .unset, .unset, .unset, .unset, .unset, .unset] [(.long (65535 : Int64)), (.int (29 : Int32)), (.ref a2), (.ref a2)] := own_ldc2 w at_420 (hw _ (List.mem_of_getElem? (i := 56) rfl))
  obtain ⟨h61, w, A_a2, K_h61⟩ := own_lastore w at_423 A_a2 29 (by decide) (Nat.le_of_ble_eq_true rfl) g_a2 (l' := [90, 95, 122, 214, 246, 767, 893, 8191, 8205, 8591, 12271, 55295, 64975, 65533, 983039, 64, 94, 96, 191, 215, 247, 879, 894, 8203, 8303, 11263, 12288, 63743, 65007, 65535, 0]) rfl
  replace A_a1 := own_Jkeep A_a1 K_h61 (own_nin ne_a1_a2)
  replace w : own_W K b0 Z n0 h61 2 62 424 #[.val (.int p0), .val (.int p1), .val (.ref a1), .unset, .unset, .unset, .unset, .unset, .unset, .unset, .unset, .unset, .unset, .unset, .unset] [(.ref a2)] := w
  replace w : own_W K b0 Z n0 h61 2 62 425 #[.val (.int p0), .val (.int p1), .val (.ref a1), .unset, .unset, .unset, .unset, .unset, .unset, .unset, .unset, .unset, .unset, .unset, .unset] [(.ref a2), (.ref a2)] := own_dup w at_424 rfl
  replace w : own_W K b0 Z n0 h61 2 62 427 #[.val (.int p0), .val (.int p1), .val (.ref a1), .unset, .unset, .unset, .unset, .unset, .unset, .unset, .unset, .unset, .unset, .unset, .unset] [(.int (30 : Int32)), (.ref a2), (.ref a2)] := own_bipush w at_425 rfl
  replace w : own_W K b0 Z n0 h61 2 62 430 #[.val (.int p0), .val (.int p1), .val (.ref a1), .unset, .unset, .unset, .unset, .unset, .unset, .unset, .unset, .unset, .unset, .unset, .unset] [(.long (2147483647 : Int64)), (.int (30 : Int32)), (.ref a2), (.ref a2)] := own_ldc2 w at_427 (hw _ (List.mem_of_getElem? (i := 57) rfl))
  obtain ⟨h62, w, A_a2, K_h62⟩ := own_lastore w at_430 A_a2 30 (by decide) (Nat.le_of_ble_eq_true rfl) g_a2 (l' := [90, 95, 122, 214, 246, 767, 893, 8191, 8205, 8591, 12271, 55295, 64975, 65533, 983039, 64, 94, 96, 191, 215, 247, 879, 894, 8203, 8303, 11263, 12288, 63743, 65007, 65535, 2147483647]) rfl
  replace A_a1 := own_Jkeep A_a1 K_h62 (own_nin ne_a1_a2)
  replace w : own_W K b0 Z n0 h62 2 62 431 #[.val (.int p0), .val (.int p1), .val (.ref a1), .unset, .unset, .unset, .unset, .unset, .unset, .unset, .unset, .unset, .unset, .unset, .unset] [(.ref a2)] := w
  replace w : own_W K b0 Z n0 h62 2 62 432 #[.val (.int p0), .val (.int p1), .val (.ref a1), .val (.ref a2), .unset, .unset, .unset, .unset, .unset, .unset, .unset, .unset, .unset, .unset, .unset] [] := own_astoreN w at_431 rfl
  replace w : own_W K b0 Z n0 h62 2 62 433 #[.val (.int p0), .val (.int p1), .val (.ref a1), .val (.ref a2), .unset, .unset, .unset, .unset, .unset, .unset, .unset, .unset, .unset, .unset, .unset] [(.int p0)] := own_iloadN w at_432 rfl
  replace w : own_W K b0 Z n0 h62 2 62 435 #[.val (.int p0), .val (.int p1), .val (.ref a1), .val (.ref a2), .unset, .unset, .unset, .unset, .unset, .unset, .unset, .unset, .unset, .unset, .unset] [(.int (2147483647 : Int32)), (.int p0)] := own_ldc w at_433 (hw _ (List.mem_of_getElem? (i := 58) rfl))
  replace w : own_W K b0 Z n0 h62 2 62 436 #[.val (.int p0), .val (.int p1), .val (.ref a1), .val (.ref a2), .unset, .unset, .unset, .unset, .unset, .unset, .unset, .unset, .unset, .unset, .unset] [(.int (p0 &&& (2147483647 : Int32)))] := own_iand w at_435
  replace w : own_W K b0 Z n0 h62 2 62 438 #[.val (.int p0), .val (.int p1), .val (.ref a1), .val (.ref a2), .unset, .unset, .unset, .unset, .unset, .unset, .unset, .unset, .unset, .unset, .unset] [(.int (31 : Int32)), (.int (p0 &&& (2147483647 : Int32)))] := own_bipush w at_436 rfl
  replace w : own_W K b0 Z n0 h62 2 62 439 #[.val (.int p0), .val (.int p1), .val (.ref a1), .val (.ref a2), .unset, .unset, .unset, .unset, .unset, .unset, .unset, .unset, .unset, .unset, .unset] [(.int ((p0 &&& (2147483647 : Int32)) % (31 : Int32)))] := own_irem w at_438 (by decide)
  replace A_a1 : own_J Z h62 a1 own_lo := A_a1
  replace A_a2 : own_J Z h62 a2 own_hi := A_a2
  have hn := own_size w
  obtain ⟨k, hk, ek⟩ := own_idx p0
  obtain ⟨j, ej⟩ : ∃ z : Int32, z = ((p0 &&& (2147483647 : Int32)) % (31 : Int32)) := ⟨_, rfl⟩
  rw [← ej] at w ek
  obtain ⟨u, eu⟩ : ∃ z : Int64, z = own_lo.getD k 0 := ⟨_, rfl⟩
  obtain ⟨v, ev⟩ : ∃ z : Int64, z = own_hi.getD k 0 := ⟨_, rfl⟩
  obtain ⟨o, eo⟩ : ∃ z : Int64, z = (p1).toInt64 &&& (4294967295 : Int64) := ⟨_, rfl⟩
  obtain ⟨hy, r1, r2, r3⟩ := own_core k hk (o := o) eu ev (by rw [eo]; exact own_off p1)
  replace w : own_W K b0 Z n0 h62 2 62 441 #[.val (.int p0), .val (.int p1), .val (.ref a1), .val (.ref a2), .val (.int j), .unset, .unset, .unset, .unset, .unset, .unset, .unset, .unset, .unset, .unset] [] := own_istore w at_439 rfl
  replace w : own_W K b0 Z n0 h62 2 62 443 #[.val (.int p0), .val (.int p1), .val (.ref a1), .val (.ref a2), .val (.int j), .unset, .unset, .unset, .unset, .unset, .unset, .unset, .unset, .unset, .unset] [(.int j)] := own_iload w at_441 rfl
  replace w : own_W K b0 Z n0 h62 2 62 445 #[.val (.int p0), .val (.int p1), .val (.ref a1), .val (.ref a2), .val (.int j), .unset, .unset, .unset, .unset, .unset, .unset, .unset, .unset, .unset, .unset] [(.int (15 : Int32)), (.int j)] := own_bipush w at_443 rfl
  by_cases hc : j.toInt < 15
  · rw [if_pos (by omega)] at r1 r2 r3
    replace w : own_W K b0 Z n0 h62 2 62 448 #[.val (.int p0), .val (.int p1), .val (.ref a1), .val (.ref a2), .val (.int j), .unset, .unset, .unset, .unset, .unset, .unset, .unset, .unset, .unset, .unset] [] := own_icmpN (a := j.toInt) (b := 15) w at_445 rfl (by decide) hc
    replace w : own_W K b0 Z n0 h62 2 62 449 #[.val (.int p0), .val (.int p1), .val (.ref a1), .val (.ref a2), .val (.int j), .unset, .unset, .unset, .unset, .unset, .unset, .unset, .unset, .unset, .unset] [(.int (1 : Int32))] := own_iconst w at_448 rfl
    replace w : own_W K b0 Z n0 h62 2 62 453 #[.val (.int p0), .val (.int p1), .val (.ref a1), .val (.ref a2), .val (.int j), .unset, .unset, .unset, .unset, .unset, .unset, .unset, .unset, .unset, .unset] [(.int (1 : Int32))] := own_goto w at_449 (by decide) (by decide)
    replace w : own_W K b0 Z n0 h62 2 62 455 #[.val (.int p0), .val (.int p1), .val (.ref a1), .val (.ref a2), .val (.int j), .val (.int (1 : Int32)), .unset, .unset, .unset, .unset, .unset, .unset, .unset, .unset, .unset] [] := own_istore w at_453 rfl
    replace w : own_W K b0 Z n0 h62 2 62 456 #[.val (.int p0), .val (.int p1), .val (.ref a1), .val (.ref a2), .val (.int j), .val (.int (1 : Int32)), .unset, .unset, .unset, .unset, .unset, .unset, .unset, .unset, .unset] [(.ref a2)] := own_aloadN w at_455 rfl
    replace w : own_W K b0 Z n0 h62 2 62 458 #[.val (.int p0), .val (.int p1), .val (.ref a1), .val (.ref a2), .val (.int j), .val (.int (1 : Int32)), .unset, .unset, .unset, .unset, .unset, .unset, .unset, .unset, .unset] [(.int j), (.ref a2)] := own_iload w at_456 rfl
    replace w : own_W K b0 Z n0 h62 2 62 459 #[.val (.int p0), .val (.int p1), .val (.ref a1), .val (.ref a2), .val (.int j), .val (.int (1 : Int32)), .unset, .unset, .unset, .unset, .unset, .unset, .unset, .unset, .unset] [(.long v)] := own_laload w at_458 A_a2 k ek hk ev.symm
    replace w : own_W K b0 Z n0 h62 2 62 460 #[.val (.int p0), .val (.int p1), .val (.ref a1), .val (.ref a2), .val (.int j), .val (.int (1 : Int32)), .unset, .unset, .unset, .unset, .unset, .unset, .unset, .unset, .unset] [(.ref a1), (.long v)] := own_aloadN w at_459 rfl
    replace w : own_W K b0 Z n0 h62 2 62 462 #[.val (.int p0), .val (.int p1), .val (.ref a1), .val (.ref a2), .val (.int j), .val (.int (1 : Int32)), .unset, .unset, .unset, .unset, .unset, .unset, .unset, .unset, .unset] [(.int j), (.ref a1), (.long v)] := own_iload w at_460 rfl
    replace w : own_W K b0 Z n0 h62 2 62 463 #[.val (.int p0), .val (.int p1), .val (.ref a1), .val (.ref a2), .val (.int j), .val (.int (1 : Int32)), .unset, .unset, .unset, .unset, .unset, .unset, .unset, .unset, .unset] [(.long u), (.long v)] := own_laload w at_462 A_a1 k ek hk eu.symm
    replace w : own_W K b0 Z n0 h62 2 62 464 #[.val (.int p0), .val (.int p1), .val (.ref a1), .val (.ref a2), .val (.int j), .val (.int (1 : Int32)), .unset, .unset, .unset, .unset, .unset, .unset, .unset, .unset, .unset] [(.long (v - u))] := own_lsub w at_463
    replace w : own_W K b0 Z n0 h62 2 62 465 #[.val (.int p0), .val (.int p1), .val (.ref a1), .val (.ref a2), .val (.int j), .val (.int (1 : Int32)), .unset, .unset, .unset, .unset, .unset, .unset, .unset, .unset, .unset] [(.long (1 : Int64)), (.long (v - u))] := own_lconst w at_464 rfl
    replace w : own_W K b0 Z n0 h62 2 62 466 #[.val (.int p0), .val (.int p1), .val (.ref a1), .val (.ref a2), .val (.int j), .val (.int (1 : Int32)), .unset, .unset, .unset, .unset, .unset, .unset, .unset, .unset, .unset] [(.long ((v - u) + (1 : Int64)))] := own_ladd w at_465
    replace w : own_W K b0 Z n0 h62 2 62 468 #[.val (.int p0), .val (.int p1), .val (.ref a1), .val (.ref a2), .val (.int j), .val (.int (1 : Int32)), .val (.long ((v - u) + (1 : Int64))), .second, .unset, .unset, .unset, .unset, .unset, .unset, .unset] [] := own_lstore w at_466 rfl
    replace w : own_W K b0 Z n0 h62 2 62 469 #[.val (.int p0), .val (.int p1), .val (.ref a1), .val (.ref a2), .val (.int j), .val (.int (1 : Int32)), .val (.long ((v - u) + (1 : Int64))), .second, .unset, .unset, .unset, .unset, .unset, .unset, .unset] [(.int p1)] := own_iloadN w at_468 rfl
    replace w : own_W K b0 Z n0 h62 2 62 470 #[.val (.int p0), .val (.int p1), .val (.ref a1), .val (.ref a2), .val (.int j), .val (.int (1 : Int32)), .val (.long ((v - u) + (1 : Int64))), .second, .unset, .unset, .unset, .unset, .unset, .unset, .unset] [(.long (p1).toInt64)] := own_i2l w at_469
    replace w : own_W K b0 Z n0 h62 2 62 473 #[.val (.int p0), .val (.int p1), .val (.ref a1), .val (.ref a2), .val (.int j), .val (.int (1 : Int32)), .val (.long ((v - u) + (1 : Int64))), .second, .unset, .unset, .unset, .unset, .unset, .unset, .unset] [(.long (4294967295 : Int64)), (.long (p1).toInt64)] := own_ldc2 w at_470 (hw _ (List.mem_of_getElem? (i := 59) rfl))
    replace w : own_W K b0 Z n0 h62 2 62 474 #[.val (.int p0), .val (.int p1), .val (.ref a1), .val (.ref a2), .val (.int j), .val (.int (1 : Int32)), .val (.long ((v - u) + (1 : Int64))), .second, .unset, .unset, .unset, .unset, .unset, .unset, .unset] [(.long ((p1).toInt64 &&& (4294967295 : Int64)))] := own_land w at_473
    rw [← eo] at w
    replace w : own_W K b0 Z n0 h62 2 62 476 #[.val (.int p0), .val (.int p1), .val (.ref a1), .val (.ref a2), .val (.int j), .val (.int (1 : Int32)), .val (.long ((v - u) + (1 : Int64))), .second, .val (.long o), .second, .unset, .unset, .unset, .unset, .unset] [] := own_lstore w at_474 rfl
    replace w : own_W K b0 Z n0 h62 2 62 477 #[.val (.int p0), .val (.int p1), .val (.ref a1), .val (.ref a2), .val (.int j), .val (.int (1 : Int32)), .val (.long ((v - u) + (1 : Int64))), .second, .val (.long o), .second, .unset, .unset, .unset, .unset, .unset] [(.ref a1)] := own_aloadN w at_476 rfl
    replace w : own_W K b0 Z n0 h62 2 62 479 #[.val (.int p0), .val (.int p1), .val (.ref a1), .val (.ref a2), .val (.int j), .val (.int (1 : Int32)), .val (.long ((v - u) + (1 : Int64))), .second, .val (.long o), .second, .unset, .unset, .unset, .unset, .unset] [(.int j), (.ref a1)] := own_iload w at_477 rfl
    replace w : own_W K b0 Z n0 h62 2 62 480 #[.val (.int p0), .val (.int p1), .val (.ref a1), .val (.ref a2), .val (.int j), .val (.int (1 : Int32)), .val (.long ((v - u) + (1 : Int64))), .second, .val (.long o), .second, .unset, .unset, .unset, .unset, .unset] [(.long u)] := own_laload w at_479 A_a1 k ek hk eu.symm
    replace w : own_W K b0 Z n0 h62 2 62 482 #[.val (.int p0), .val (.int p1), .val (.ref a1), .val (.ref a2), .val (.int j), .val (.int (1 : Int32)), .val (.long ((v - u) + (1 : Int64))), .second, .val (.long o), .second, .unset, .unset, .unset, .unset, .unset] [(.long o), (.long u)] := own_lload w at_480 rfl
    replace w : own_W K b0 Z n0 h62 2 62 484 #[.val (.int p0), .val (.int p1), .val (.ref a1), .val (.ref a2), .val (.int j), .val (.int (1 : Int32)), .val (.long ((v - u) + (1 : Int64))), .second, .val (.long o), .second, .unset, .unset, .unset, .unset, .unset] [(.long ((v - u) + (1 : Int64))), (.long o), (.long u)] := own_lload w at_482 rfl
    replace w : own_W K b0 Z n0 h62 2 62 485 #[.val (.int p0), .val (.int p1), .val (.ref a1), .val (.ref a2), .val (.int j), .val (.int (1 : Int32)), .val (.long ((v - u) + (1 : Int64))), .second, .val (.long o), .second, .unset, .unset, .unset, .unset, .unset] [(.long (o - (o / ((v - u) + (1 : Int64))) * ((v - u) + (1 : Int64)))), (.long u)] := own_lrem w at_484 hy
    replace w : own_W K b0 Z n0 h62 2 62 486 #[.val (.int p0), .val (.int p1), .val (.ref a1), .val (.ref a2), .val (.int j), .val (.int (1 : Int32)), .val (.long ((v - u) + (1 : Int64))), .second, .val (.long o), .second, .unset, .unset, .unset, .unset, .unset] [(.long (u + (o - (o / ((v - u) + (1 : Int64))) * ((v - u) + (1 : Int64)))))] := own_ladd w at_485
    replace w : own_W K b0 Z n0 h62 2 62 488 #[.val (.int p0), .val (.int p1), .val (.ref a1), .val (.ref a2), .val (.int j), .val (.int (1 : Int32)), .val (.long ((v - u) + (1 : Int64))), .second, .val (.long o), .second, .val (.long (u + (o - (o / ((v - u) + (1 : Int64))) * ((v - u) + (1 : Int64))))), .second, .unset, .unset, .unset] [] := own_lstore w at_486 rfl
    replace w : own_W K b0 Z n0 h62 2 62 489 #[.val (.int p0), .val (.int p1), .val (.ref a1), .val (.ref a2), .val (.int j), .val (.int (1 : Int32)), .val (.long ((v - u) + (1 : Int64))), .second, .val (.long o), .second, .val (.long (u + (o - (o / ((v - u) + (1 : Int64))) * ((v - u) + (1 : Int64))))), .second, .unset, .unset, .unset] [(.ref a1)] := own_aloadN w at_488 rfl
    replace w : own_W K b0 Z n0 h62 2 62 491 #[.val (.int p0), .val (.int p1), .val (.ref a1), .val (.ref a2), .val (.int j), .val (.int (1 : Int32)), .val (.long ((v - u) + (1 : Int64))), .second, .val (.long o), .second, .val (.long (u + (o - (o / ((v - u) + (1 : Int64))) * ((v - u) + (1 : Int64))))), .second, .unset, .unset, .unset] [(.int j), (.ref a1)] := own_iload w at_489 rfl
    replace w : own_W K b0 Z n0 h62 2 62 492 #[.val (.int p0), .val (.int p1), .val (.ref a1), .val (.ref a2), .val (.int j), .val (.int (1 : Int32)), .val (.long ((v - u) + (1 : Int64))), .second, .val (.long o), .second, .val (.long (u + (o - (o / ((v - u) + (1 : Int64))) * ((v - u) + (1 : Int64))))), .second, .unset, .unset, .unset] [(.long u)] := own_laload w at_491 A_a1 k ek hk eu.symm
    replace w : own_W K b0 Z n0 h62 2 62 493 #[.val (.int p0), .val (.int p1), .val (.ref a1), .val (.ref a2), .val (.int j), .val (.int (1 : Int32)), .val (.long ((v - u) + (1 : Int64))), .second, .val (.long o), .second, .val (.long (u + (o - (o / ((v - u) + (1 : Int64))) * ((v - u) + (1 : Int64))))), .second, .unset, .unset, .unset] [(.int (u).toInt32)] := own_l2i w at_492
    obtain ⟨_, _, ⟨rfl, rfl⟩, w⟩ := own_callS (By := b1) [(.int (u).toInt32)] w rfl at_493 (hw _ (List.mem_of_getElem? (i := 60) rfl)) (hw _ (List.mem_of_getElem? (i := 61) rfl)) (hw _ (List.mem_of_getElem? (i := 62) rfl)) (hw _ (List.mem_of_getElem? (i := 63) rfl)) (rm1 hw ((u).toInt32) hn) (by decide) pd_1 rfl rfl (by decide) (Nat.le_of_ble_eq_true rfl) (by decide) (by decide)
    replace w : own_W K b0 Z n0 h62 2 62 496 #[.val (.int p0), .val (.int p1), .val (.ref a1), .val (.ref a2), .val (.int j), .val (.int (1 : Int32)), .val (.long ((v - u) + (1 : Int64))), .second, .val (.long o), .second, .val (.long (u + (o - (o / ((v - u) + (1 : Int64))) * ((v - u) + (1 : Int64))))), .second, .unset, .unset, .unset] [(.int (g1_0 ((u).toInt32).toInt))] := w
    rw [r1] at w
    replace w : own_W K b0 Z n0 h62 2 62 498 #[.val (.int p0), .val (.int p1), .val (.ref a1), .val (.ref a2), .val (.int j), .val (.int (1 : Int32)), .val (.long ((v - u) + (1 : Int64))), .second, .val (.long o), .second, .val (.long (u + (o - (o / ((v - u) + (1 : Int64))) * ((v - u) + (1 : Int64))))), .second, .val (.int (1 : Int32)), .unset, .unset] [] := own_istore w at_496 rfl
    replace w : own_W K b0 Z n0 h62 2 62 499 #[.val (.int p0), .val (.int p1), .val (.ref a1), .val (.ref a2), .val (.int j), .val (.int (1 : Int32)), .val (.long ((v - u) + (1 : Int64))), .second, .val (.long o), .second, .val (.long (u + (o - (o / ((v - u) + (1 : Int64))) * ((v - u) + (1 : Int64))))), .second, .val (.int (1 : Int32)), .unset, .unset] [(.ref a2)] := own_aloadN w at_498 rfl
    replace w : own_W K b0 Z n0 h62 2 62 501 #[.val (.int p0), .val (.int p1), .val (.ref a1), .val (.ref a2), .val (.int j), .val (.int (1 : Int32)), .val (.long ((v - u) + (1 : Int64))), .second, .val (.long o), .second, .val (.long (u + (o - (o / ((v - u) + (1 : Int64))) * ((v - u) + (1 : Int64))))), .second, .val (.int (1 : Int32)), .unset, .unset] [(.int j), (.ref a2)] := own_iload w at_499 rfl
    replace w : own_W K b0 Z n0 h62 2 62 502 #[.val (.int p0), .val (.int p1), .val (.ref a1), .val (.ref a2), .val (.int j), .val (.int (1 : Int32)), .val (.long ((v - u) + (1 : Int64))), .second, .val (.long o), .second, .val (.long (u + (o - (o / ((v - u) + (1 : Int64))) * ((v - u) + (1 : Int64))))), .second, .val (.int (1 : Int32)), .unset, .unset] [(.long v)] := own_laload w at_501 A_a2 k ek hk ev.symm
    replace w : own_W K b0 Z n0 h62 2 62 503 #[.val (.int p0), .val (.int p1), .val (.ref a1), .val (.ref a2), .val (.int j), .val (.int (1 : Int32)), .val (.long ((v - u) + (1 : Int64))), .second, .val (.long o), .second, .val (.long (u + (o - (o / ((v - u) + (1 : Int64))) * ((v - u) + (1 : Int64))))), .second, .val (.int (1 : Int32)), .unset, .unset] [(.int (v).toInt32)] := own_l2i w at_502
    obtain ⟨_, _, ⟨rfl, rfl⟩, w⟩ := own_callS (By := b1) [(.int (v).toInt32)] w rfl at_503 (hw _ (List.mem_of_getElem? (i := 60) rfl)) (hw _ (List.mem_of_getElem? (i := 61) rfl)) (hw _ (List.mem_of_getElem? (i := 62) rfl)) (hw _ (List.mem_of_getElem? (i := 63) rfl)) (rm1 hw ((v).toInt32) hn) (by decide) pd_1 rfl rfl (by decide) (Nat.le_of_ble_eq_true rfl) (by decide) (by decide)
    replace w : own_W K b0 Z n0 h62 2 62 506 #[.val (.int p0), .val (.int p1), .val (.ref a1), .val (.ref a2), .val (.int j), .val (.int (1 : Int32)), .val (.long ((v - u) + (1 : Int64))), .second, .val (.long o), .second, .val (.long (u + (o - (o / ((v - u) + (1 : Int64))) * ((v - u) + (1 : Int64))))), .second, .val (.int (1 : Int32)), .unset, .unset] [(.int (g1_0 ((v).toInt32).toInt))] := w
    rw [r2] at w
    replace w : own_W K b0 Z n0 h62 2 62 508 #[.val (.int p0), .val (.int p1), .val (.ref a1), .val (.ref a2), .val (.int j), .val (.int (1 : Int32)), .val (.long ((v - u) + (1 : Int64))), .second, .val (.long o), .second, .val (.long (u + (o - (o / ((v - u) + (1 : Int64))) * ((v - u) + (1 : Int64))))), .second, .val (.int (1 : Int32)), .val (.int (1 : Int32)), .unset] [] := own_istore w at_506 rfl
    replace w : own_W K b0 Z n0 h62 2 62 510 #[.val (.int p0), .val (.int p1), .val (.ref a1), .val (.ref a2), .val (.int j), .val (.int (1 : Int32)), .val (.long ((v - u) + (1 : Int64))), .second, .val (.long o), .second, .val (.long (u + (o - (o / ((v - u) + (1 : Int64))) * ((v - u) + (1 : Int64))))), .second, .val (.int (1 : Int32)), .val (.int (1 : Int32)), .unset] [(.long (u + (o - (o / ((v - u) + (1 : Int64))) * ((v - u) + (1 : Int64)))))] := own_lload w at_508 rfl
    replace w : own_W K b0 Z n0 h62 2 62 511 #[.val (.int p0), .val (.int p1), .val (.ref a1), .val (.ref a2), .val (.int j), .val (.int (1 : Int32)), .val (.long ((v - u) + (1 : Int64))), .second, .val (.long o), .second, .val (.long (u + (o - (o / ((v - u) + (1 : Int64))) * ((v - u) + (1 : Int64))))), .second, .val (.int (1 : Int32)), .val (.int (1 : Int32)), .unset] [(.int ((u + (o - (o / ((v - u) + (1 : Int64))) * ((v - u) + (1 : Int64))))).toInt32)] := own_l2i w at_510
    obtain ⟨_, _, ⟨rfl, rfl⟩, w⟩ := own_callS (By := b1) [(.int ((u + (o - (o / ((v - u) + (1 : Int64))) * ((v - u) + (1 : Int64))))).toInt32)] w rfl at_511 (hw _ (List.mem_of_getElem? (i := 60) rfl)) (hw _ (List.mem_of_getElem? (i := 61) rfl)) (hw _ (List.mem_of_getElem? (i := 62) rfl)) (hw _ (List.mem_of_getElem? (i := 63) rfl)) (rm1 hw (((u + (o - (o / ((v - u) + (1 : Int64))) * ((v - u) + (1 : Int64))))).toInt32) hn) (by decide) pd_1 rfl rfl (by decide) (Nat.le_of_ble_eq_true rfl) (by decide) (by decide)
    replace w : own_W K b0 Z n0 h62 2 62 514 #[.val (.int p0), .val (.int p1), .val (.ref a1), .val (.ref a2), .val (.int j), .val (.int (1 : Int32)), .val (.long ((v - u) + (1 : Int64))), .second, .val (.long o), .second, .val (.long (u + (o - (o / ((v - u) + (1 : Int64))) * ((v - u) + (1 : Int64))))), .second, .val (.int (1 : Int32)), .val (.int (1 : Int32)), .unset] [(.int (g1_0 (((u + (o - (o / ((v - u) + (1 : Int64))) * ((v - u) + (1 : Int64))))).toInt32).toInt))] := w
    rw [r3] at w
    replace w : own_W K b0 Z n0 h62 2 62 516 #[.val (.int p0), .val (.int p1), .val (.ref a1), .val (.ref a2), .val (.int j), .val (.int (1 : Int32)), .val (.long ((v - u) + (1 : Int64))), .second, .val (.long o), .second, .val (.long (u + (o - (o / ((v - u) + (1 : Int64))) * ((v - u) + (1 : Int64))))), .second, .val (.int (1 : Int32)), .val (.int (1 : Int32)), .val (.int (1 : Int32))] [] := own_istore w at_514 rfl
    replace w : own_W K b0 Z n0 h62 2 62 518 #[.val (.int p0), .val (.int p1), .val (.ref a1), .val (.ref a2), .val (.int j), .val (.int (1 : Int32)), .val (.long ((v - u) + (1 : Int64))), .second, .val (.long o), .second, .val (.long (u + (o - (o / ((v - u) + (1 : Int64))) * ((v - u) + (1 : Int64))))), .second, .val (.int (1 : Int32)), .val (.int (1 : Int32)), .val (.int (1 : Int32))] [(.int (1 : Int32))] := own_iload w at_516 rfl
    replace w : own_W K b0 Z n0 h62 2 62 520 #[.val (.int p0), .val (.int p1), .val (.ref a1), .val (.ref a2), .val (.int j), .val (.int (1 : Int32)), .val (.long ((v - u) + (1 : Int64))), .second, .val (.long o), .second, .val (.long (u + (o - (o / ((v - u) + (1 : Int64))) * ((v - u) + (1 : Int64))))), .second, .val (.int (1 : Int32)), .val (.int (1 : Int32)), .val (.int (1 : Int32))] [(.int (1 : Int32)), (.int (1 : Int32))] := own_iload w at_518 rfl
    replace w : own_W K b0 Z n0 h62 2 62 523 #[.val (.int p0), .val (.int p1), .val (.ref a1), .val (.ref a2), .val (.int j), .val (.int (1 : Int32)), .val (.long ((v - u) + (1 : Int64))), .second, .val (.long o), .second, .val (.long (u + (o - (o / ((v - u) + (1 : Int64))) * ((v - u) + (1 : Int64))))), .second, .val (.int (1 : Int32)), .val (.int (1 : Int32)), .val (.int (1 : Int32))] [] := own_icmpN (a := 1) (b := 1) w at_520 (by decide) (by decide) rfl
    replace w : own_W K b0 Z n0 h62 2 62 525 #[.val (.int p0), .val (.int p1), .val (.ref a1), .val (.ref a2), .val (.int j), .val (.int (1 : Int32)), .val (.long ((v - u) + (1 : Int64))), .second, .val (.long o), .second, .val (.long (u + (o - (o / ((v - u) + (1 : Int64))) * ((v - u) + (1 : Int64))))), .second, .val (.int (1 : Int32)), .val (.int (1 : Int32)), .val (.int (1 : Int32))] [(.int (1 : Int32))] := own_iload w at_523 rfl
    replace w : own_W K b0 Z n0 h62 2 62 527 #[.val (.int p0), .val (.int p1), .val (.ref a1), .val (.ref a2), .val (.int j), .val (.int (1 : Int32)), .val (.long ((v - u) + (1 : Int64))), .second, .val (.long o), .second, .val (.long (u + (o - (o / ((v - u) + (1 : Int64))) * ((v - u) + (1 : Int64))))), .second, .val (.int (1 : Int32)), .val (.int (1 : Int32)), .val (.int (1 : Int32))] [(.int (1 : Int32)), (.int (1 : Int32))] := own_iload w at_525 rfl
    replace w : own_W K b0 Z n0 h62 2 62 530 #[.val (.int p0), .val (.int p1), .val (.ref a1), .val (.ref a2), .val (.int j), .val (.int (1 : Int32)), .val (.long ((v - u) + (1 : Int64))), .second, .val (.long o), .second, .val (.long (u + (o - (o / ((v - u) + (1 : Int64))) * ((v - u) + (1 : Int64))))), .second, .val (.int (1 : Int32)), .val (.int (1 : Int32)), .val (.int (1 : Int32))] [] := own_icmpN (a := 1) (b := 1) w at_527 (by decide) (by decide) rfl
    replace w : own_W K b0 Z n0 h62 2 62 532 #[.val (.int p0), .val (.int p1), .val (.ref a1), .val (.ref a2), .val (.int j), .val (.int (1 : Int32)), .val (.long ((v - u) + (1 : Int64))), .second, .val (.long o), .second, .val (.long (u + (o - (o / ((v - u) + (1 : Int64))) * ((v - u) + (1 : Int64))))), .second, .val (.int (1 : Int32)), .val (.int (1 : Int32)), .val (.int (1 : Int32))] [(.int (1 : Int32))] := own_iload w at_530 rfl
    replace w : own_W K b0 Z n0 h62 2 62 534 #[.val (.int p0), .val (.int p1), .val (.ref a1), .val (.ref a2), .val (.int j), .val (.int (1 : Int32)), .val (.long ((v - u) + (1 : Int64))), .second, .val (.long o), .second, .val (.long (u + (o - (o / ((v - u) + (1 : Int64))) * ((v - u) + (1 : Int64))))), .second, .val (.int (1 : Int32)), .val (.int (1 : Int32)), .val (.int (1 : Int32))] [(.int (1 : Int32)), (.int (1 : Int32))] := own_iload w at_532 rfl
    replace w : own_W K b0 Z n0 h62 2 62 537 #[.val (.int p0), .val (.int p1), .val (.ref a1), .val (.ref a2), .val (.int j), .val (.int (1 : Int32)), .val (.long ((v - u) + (1 : Int64))), .second, .val (.long o), .second, .val (.long (u + (o - (o / ((v - u) + (1 : Int64))) * ((v - u) + (1 : Int64))))), .second, .val (.int (1 : Int32)), .val (.int (1 : Int32)), .val (.int (1 : Int32))] [] := own_icmpN (a := 1) (b := 1) w at_534 (by decide) (by decide) rfl
    replace w : own_W K b0 Z n0 h62 2 62 538 #[.val (.int p0), .val (.int p1), .val (.ref a1), .val (.ref a2), .val (.int j), .val (.int (1 : Int32)), .val (.long ((v - u) + (1 : Int64))), .second, .val (.long o), .second, .val (.long (u + (o - (o / ((v - u) + (1 : Int64))) * ((v - u) + (1 : Int64))))), .second, .val (.int (1 : Int32)), .val (.int (1 : Int32)), .val (.int (1 : Int32))] [(.int (1 : Int32))] := own_iconst w at_537 rfl
    replace w : own_W K b0 Z n0 h62 2 62 542 #[.val (.int p0), .val (.int p1), .val (.ref a1), .val (.ref a2), .val (.int j), .val (.int (1 : Int32)), .val (.long ((v - u) + (1 : Int64))), .second, .val (.long o), .second, .val (.long (u + (o - (o / ((v - u) + (1 : Int64))) * ((v - u) + (1 : Int64))))), .second, .val (.int (1 : Int32)), .val (.int (1 : Int32)), .val (.int (1 : Int32))] [(.int (1 : Int32))] := own_goto w at_538 (by decide) (by decide)
    exact own_retZ w at_542 rfl (Or.inl rfl) rfl (by decide) (by decide)
  · rw [if_neg (by omega)] at r1 r2 r3
    replace w : own_W K b0 Z n0 h62 2 62 452 #[.val (.int p0), .val (.int p1), .val (.ref a1), .val (.ref a2), .val (.int j), .unset, .unset, .unset, .unset, .unset, .unset, .unset, .unset, .unset, .unset] [] := own_icmpY (a := j.toInt) (b := 15) w at_445 rfl (by decide) hc (by decide) (by decide)
    replace w : own_W K b0 Z n0 h62 2 62 453 #[.val (.int p0), .val (.int p1), .val (.ref a1), .val (.ref a2), .val (.int j), .unset, .unset, .unset, .unset, .unset, .unset, .unset, .unset, .unset, .unset] [(.int (0 : Int32))] := own_iconst w at_452 rfl
    replace w : own_W K b0 Z n0 h62 2 62 455 #[.val (.int p0), .val (.int p1), .val (.ref a1), .val (.ref a2), .val (.int j), .val (.int (0 : Int32)), .unset, .unset, .unset, .unset, .unset, .unset, .unset, .unset, .unset] [] := own_istore w at_453 rfl
    replace w : own_W K b0 Z n0 h62 2 62 456 #[.val (.int p0), .val (.int p1), .val (.ref a1), .val (.ref a2), .val (.int j), .val (.int (0 : Int32)), .unset, .unset, .unset, .unset, .unset, .unset, .unset, .unset, .unset] [(.ref a2)] := own_aloadN w at_455 rfl
    replace w : own_W K b0 Z n0 h62 2 62 458 #[.val (.int p0), .val (.int p1), .val (.ref a1), .val (.ref a2), .val (.int j), .val (.int (0 : Int32)), .unset, .unset, .unset, .unset, .unset, .unset, .unset, .unset, .unset] [(.int j), (.ref a2)] := own_iload w at_456 rfl
    replace w : own_W K b0 Z n0 h62 2 62 459 #[.val (.int p0), .val (.int p1), .val (.ref a1), .val (.ref a2), .val (.int j), .val (.int (0 : Int32)), .unset, .unset, .unset, .unset, .unset, .unset, .unset, .unset, .unset] [(.long v)] := own_laload w at_458 A_a2 k ek hk ev.symm
    replace w : own_W K b0 Z n0 h62 2 62 460 #[.val (.int p0), .val (.int p1), .val (.ref a1), .val (.ref a2), .val (.int j), .val (.int (0 : Int32)), .unset, .unset, .unset, .unset, .unset, .unset, .unset, .unset, .unset] [(.ref a1), (.long v)] := own_aloadN w at_459 rfl
    replace w : own_W K b0 Z n0 h62 2 62 462 #[.val (.int p0), .val (.int p1), .val (.ref a1), .val (.ref a2), .val (.int j), .val (.int (0 : Int32)), .unset, .unset, .unset, .unset, .unset, .unset, .unset, .unset, .unset] [(.int j), (.ref a1), (.long v)] := own_iload w at_460 rfl
    replace w : own_W K b0 Z n0 h62 2 62 463 #[.val (.int p0), .val (.int p1), .val (.ref a1), .val (.ref a2), .val (.int j), .val (.int (0 : Int32)), .unset, .unset, .unset, .unset, .unset, .unset, .unset, .unset, .unset] [(.long u), (.long v)] := own_laload w at_462 A_a1 k ek hk eu.symm
    replace w : own_W K b0 Z n0 h62 2 62 464 #[.val (.int p0), .val (.int p1), .val (.ref a1), .val (.ref a2), .val (.int j), .val (.int (0 : Int32)), .unset, .unset, .unset, .unset, .unset, .unset, .unset, .unset, .unset] [(.long (v - u))] := own_lsub w at_463
    replace w : own_W K b0 Z n0 h62 2 62 465 #[.val (.int p0), .val (.int p1), .val (.ref a1), .val (.ref a2), .val (.int j), .val (.int (0 : Int32)), .unset, .unset, .unset, .unset, .unset, .unset, .unset, .unset, .unset] [(.long (1 : Int64)), (.long (v - u))] := own_lconst w at_464 rfl
    replace w : own_W K b0 Z n0 h62 2 62 466 #[.val (.int p0), .val (.int p1), .val (.ref a1), .val (.ref a2), .val (.int j), .val (.int (0 : Int32)), .unset, .unset, .unset, .unset, .unset, .unset, .unset, .unset, .unset] [(.long ((v - u) + (1 : Int64)))] := own_ladd w at_465
    replace w : own_W K b0 Z n0 h62 2 62 468 #[.val (.int p0), .val (.int p1), .val (.ref a1), .val (.ref a2), .val (.int j), .val (.int (0 : Int32)), .val (.long ((v - u) + (1 : Int64))), .second, .unset, .unset, .unset, .unset, .unset, .unset, .unset] [] := own_lstore w at_466 rfl
    replace w : own_W K b0 Z n0 h62 2 62 469 #[.val (.int p0), .val (.int p1), .val (.ref a1), .val (.ref a2), .val (.int j), .val (.int (0 : Int32)), .val (.long ((v - u) + (1 : Int64))), .second, .unset, .unset, .unset, .unset, .unset, .unset, .unset] [(.int p1)] := own_iloadN w at_468 rfl
    replace w : own_W K b0 Z n0 h62 2 62 470 #[.val (.int p0), .val (.int p1), .val (.ref a1), .val (.ref a2), .val (.int j), .val (.int (0 : Int32)), .val (.long ((v - u) + (1 : Int64))), .second, .unset, .unset, .unset, .unset, .unset, .unset, .unset] [(.long (p1).toInt64)] := own_i2l w at_469
    replace w : own_W K b0 Z n0 h62 2 62 473 #[.val (.int p0), .val (.int p1), .val (.ref a1), .val (.ref a2), .val (.int j), .val (.int (0 : Int32)), .val (.long ((v - u) + (1 : Int64))), .second, .unset, .unset, .unset, .unset, .unset, .unset, .unset] [(.long (4294967295 : Int64)), (.long (p1).toInt64)] := own_ldc2 w at_470 (hw _ (List.mem_of_getElem? (i := 59) rfl))
    replace w : own_W K b0 Z n0 h62 2 62 474 #[.val (.int p0), .val (.int p1), .val (.ref a1), .val (.ref a2), .val (.int j), .val (.int (0 : Int32)), .val (.long ((v - u) + (1 : Int64))), .second, .unset, .unset, .unset, .unset, .unset, .unset, .unset] [(.long ((p1).toInt64 &&& (4294967295 : Int64)))] := own_land w at_473
    rw [← eo] at w
    replace w : own_W K b0 Z n0 h62 2 62 476 #[.val (.int p0), .val (.int p1), .val (.ref a1), .val (.ref a2), .val (.int j), .val (.int (0 : Int32)), .val (.long ((v - u) + (1 : Int64))), .second, .val (.long o), .second, .unset, .unset, .unset, .unset, .unset] [] := own_lstore w at_474 rfl
    replace w : own_W K b0 Z n0 h62 2 62 477 #[.val (.int p0), .val (.int p1), .val (.ref a1), .val (.ref a2), .val (.int j), .val (.int (0 : Int32)), .val (.long ((v - u) + (1 : Int64))), .second, .val (.long o), .second, .unset, .unset, .unset, .unset, .unset] [(.ref a1)] := own_aloadN w at_476 rfl
    replace w : own_W K b0 Z n0 h62 2 62 479 #[.val (.int p0), .val (.int p1), .val (.ref a1), .val (.ref a2), .val (.int j), .val (.int (0 : Int32)), .val (.long ((v - u) + (1 : Int64))), .second, .val (.long o), .second, .unset, .unset, .unset, .unset, .unset] [(.int j), (.ref a1)] := own_iload w at_477 rfl
    replace w : own_W K b0 Z n0 h62 2 62 480 #[.val (.int p0), .val (.int p1), .val (.ref a1), .val (.ref a2), .val (.int j), .val (.int (0 : Int32)), .val (.long ((v - u) + (1 : Int64))), .second, .val (.long o), .second, .unset, .unset, .unset, .unset, .unset] [(.long u)] := own_laload w at_479 A_a1 k ek hk eu.symm
    replace w : own_W K b0 Z n0 h62 2 62 482 #[.val (.int p0), .val (.int p1), .val (.ref a1), .val (.ref a2), .val (.int j), .val (.int (0 : Int32)), .val (.long ((v - u) + (1 : Int64))), .second, .val (.long o), .second, .unset, .unset, .unset, .unset, .unset] [(.long o), (.long u)] := own_lload w at_480 rfl
    replace w : own_W K b0 Z n0 h62 2 62 484 #[.val (.int p0), .val (.int p1), .val (.ref a1), .val (.ref a2), .val (.int j), .val (.int (0 : Int32)), .val (.long ((v - u) + (1 : Int64))), .second, .val (.long o), .second, .unset, .unset, .unset, .unset, .unset] [(.long ((v - u) + (1 : Int64))), (.long o), (.long u)] := own_lload w at_482 rfl
    replace w : own_W K b0 Z n0 h62 2 62 485 #[.val (.int p0), .val (.int p1), .val (.ref a1), .val (.ref a2), .val (.int j), .val (.int (0 : Int32)), .val (.long ((v - u) + (1 : Int64))), .second, .val (.long o), .second, .unset, .unset, .unset, .unset, .unset] [(.long (o - (o / ((v - u) + (1 : Int64))) * ((v - u) + (1 : Int64)))), (.long u)] := own_lrem w at_484 hy
    replace w : own_W K b0 Z n0 h62 2 62 486 #[.val (.int p0), .val (.int p1), .val (.ref a1), .val (.ref a2), .val (.int j), .val (.int (0 : Int32)), .val (.long ((v - u) + (1 : Int64))), .second, .val (.long o), .second, .unset, .unset, .unset, .unset, .unset] [(.long (u + (o - (o / ((v - u) + (1 : Int64))) * ((v - u) + (1 : Int64)))))] := own_ladd w at_485
    replace w : own_W K b0 Z n0 h62 2 62 488 #[.val (.int p0), .val (.int p1), .val (.ref a1), .val (.ref a2), .val (.int j), .val (.int (0 : Int32)), .val (.long ((v - u) + (1 : Int64))), .second, .val (.long o), .second, .val (.long (u + (o - (o / ((v - u) + (1 : Int64))) * ((v - u) + (1 : Int64))))), .second, .unset, .unset, .unset] [] := own_lstore w at_486 rfl
    replace w : own_W K b0 Z n0 h62 2 62 489 #[.val (.int p0), .val (.int p1), .val (.ref a1), .val (.ref a2), .val (.int j), .val (.int (0 : Int32)), .val (.long ((v - u) + (1 : Int64))), .second, .val (.long o), .second, .val (.long (u + (o - (o / ((v - u) + (1 : Int64))) * ((v - u) + (1 : Int64))))), .second, .unset, .unset, .unset] [(.ref a1)] := own_aloadN w at_488 rfl
    replace w : own_W K b0 Z n0 h62 2 62 491 #[.val (.int p0), .val (.int p1), .val (.ref a1), .val (.ref a2), .val (.int j), .val (.int (0 : Int32)), .val (.long ((v - u) + (1 : Int64))), .second, .val (.long o), .second, .val (.long (u + (o - (o / ((v - u) + (1 : Int64))) * ((v - u) + (1 : Int64))))), .second, .unset, .unset, .unset] [(.int j), (.ref a1)] := own_iload w at_489 rfl
    replace w : own_W K b0 Z n0 h62 2 62 492 #[.val (.int p0), .val (.int p1), .val (.ref a1), .val (.ref a2), .val (.int j), .val (.int (0 : Int32)), .val (.long ((v - u) + (1 : Int64))), .second, .val (.long o), .second, .val (.long (u + (o - (o / ((v - u) + (1 : Int64))) * ((v - u) + (1 : Int64))))), .second, .unset, .unset, .unset] [(.long u)] := own_laload w at_491 A_a1 k ek hk eu.symm
    replace w : own_W K b0 Z n0 h62 2 62 493 #[.val (.int p0), .val (.int p1), .val (.ref a1), .val (.ref a2), .val (.int j), .val (.int (0 : Int32)), .val (.long ((v - u) + (1 : Int64))), .second, .val (.long o), .second, .val (.long (u + (o - (o / ((v - u) + (1 : Int64))) * ((v - u) + (1 : Int64))))), .second, .unset, .unset, .unset] [(.int (u).toInt32)] := own_l2i w at_492
    obtain ⟨_, _, ⟨rfl, rfl⟩, w⟩ := own_callS (By := b1) [(.int (u).toInt32)] w rfl at_493 (hw _ (List.mem_of_getElem? (i := 60) rfl)) (hw _ (List.mem_of_getElem? (i := 61) rfl)) (hw _ (List.mem_of_getElem? (i := 62) rfl)) (hw _ (List.mem_of_getElem? (i := 63) rfl)) (rm1 hw ((u).toInt32) hn) (by decide) pd_1 rfl rfl (by decide) (Nat.le_of_ble_eq_true rfl) (by decide) (by decide)
    replace w : own_W K b0 Z n0 h62 2 62 496 #[.val (.int p0), .val (.int p1), .val (.ref a1), .val (.ref a2), .val (.int j), .val (.int (0 : Int32)), .val (.long ((v - u) + (1 : Int64))), .second, .val (.long o), .second, .val (.long (u + (o - (o / ((v - u) + (1 : Int64))) * ((v - u) + (1 : Int64))))), .second, .unset, .unset, .unset] [(.int (g1_0 ((u).toInt32).toInt))] := w
    rw [r1] at w
    replace w : own_W K b0 Z n0 h62 2 62 498 #[.val (.int p0), .val (.int p1), .val (.ref a1), .val (.ref a2), .val (.int j), .val (.int (0 : Int32)), .val (.long ((v - u) + (1 : Int64))), .second, .val (.long o), .second, .val (.long (u + (o - (o / ((v - u) + (1 : Int64))) * ((v - u) + (1 : Int64))))), .second, .val (.int (0 : Int32)), .unset, .unset] [] := own_istore w at_496 rfl
    replace w : own_W K b0 Z n0 h62 2 62 499 #[.val (.int p0), .val (.int p1), .val (.ref a1), .val (.ref a2), .val (.int j), .val (.int (0 : Int32)), .val (.long ((v - u) + (1 : Int64))), .second, .val (.long o), .second, .val (.long (u + (o - (o / ((v - u) + (1 : Int64))) * ((v - u) + (1 : Int64))))), .second, .val (.int (0 : Int32)), .unset, .unset] [(.ref a2)] := own_aloadN w at_498 rfl
    replace w : own_W K b0 Z n0 h62 2 62 501 #[.val (.int p0), .val (.int p1), .val (.ref a1), .val (.ref a2), .val (.int j), .val (.int (0 : Int32)), .val (.long ((v - u) + (1 : Int64))), .second, .val (.long o), .second, .val (.long (u + (o - (o / ((v - u) + (1 : Int64))) * ((v - u) + (1 : Int64))))), .second, .val (.int (0 : Int32)), .unset, .unset] [(.int j), (.ref a2)] := own_iload w at_499 rfl
    replace w : own_W K b0 Z n0 h62 2 62 502 #[.val (.int p0), .val (.int p1), .val (.ref a1), .val (.ref a2), .val (.int j), .val (.int (0 : Int32)), .val (.long ((v - u) + (1 : Int64))), .second, .val (.long o), .second, .val (.long (u + (o - (o / ((v - u) + (1 : Int64))) * ((v - u) + (1 : Int64))))), .second, .val (.int (0 : Int32)), .unset, .unset] [(.long v)] := own_laload w at_501 A_a2 k ek hk ev.symm
    replace w : own_W K b0 Z n0 h62 2 62 503 #[.val (.int p0), .val (.int p1), .val (.ref a1), .val (.ref a2), .val (.int j), .val (.int (0 : Int32)), .val (.long ((v - u) + (1 : Int64))), .second, .val (.long o), .second, .val (.long (u + (o - (o / ((v - u) + (1 : Int64))) * ((v - u) + (1 : Int64))))), .second, .val (.int (0 : Int32)), .unset, .unset] [(.int (v).toInt32)] := own_l2i w at_502
    obtain ⟨_, _, ⟨rfl, rfl⟩, w⟩ := own_callS (By := b1) [(.int (v).toInt32)] w rfl at_503 (hw _ (List.mem_of_getElem? (i := 60) rfl)) (hw _ (List.mem_of_getElem? (i := 61) rfl)) (hw _ (List.mem_of_getElem? (i := 62) rfl)) (hw _ (List.mem_of_getElem? (i := 63) rfl)) (rm1 hw ((v).toInt32) hn) (by decide) pd_1 rfl rfl (by decide) (Nat.le_of_ble_eq_true rfl) (by decide) (by decide)
    replace w : own_W K b0 Z n0 h62 2 62 506 #[.val (.int p0), .val (.int p1), .val (.ref a1), .val (.ref a2), .val (.int j), .val (.int (0 : Int32)), .val (.long ((v - u) + (1 : Int64))), .second, .val (.long o), .second, .val (.long (u + (o - (o / ((v - u) + (1 : Int64))) * ((v - u) + (1 : Int64))))), .second, .val (.int (0 : Int32)), .unset, .unset] [(.int (g1_0 ((v).toInt32).toInt))] := w
    rw [r2] at w
    replace w : own_W K b0 Z n0 h62 2 62 508 #[.val (.int p0), .val (.int p1), .val (.ref a1), .val (.ref a2), .val (.int j), .val (.int (0 : Int32)), .val (.long ((v - u) + (1 : Int64))), .second, .val (.long o), .second, .val (.long (u + (o - (o / ((v - u) + (1 : Int64))) * ((v - u) + (1 : Int64))))), .second, .val (.int (0 : Int32)), .val (.int (0 : Int32)), .unset] [] := own_istore w at_506 rfl
    replace w : own_W K b0 Z n0 h62 2 62 510 #[.val (.int p0), .val (.int p1), .val (.ref a1), .val (.ref a2), .val (.int j), .val (.int (0 : Int32)), .val (.long ((v - u) + (1 : Int64))), .second, .val (.long o), .second, .val (.long (u + (o - (o / ((v - u) + (1 : Int64))) * ((v - u) + (1 : Int64))))), .second, .val (.int (0 : Int32)), .val (.int (0 : Int32)), .unset] [(.long (u + (o - (o / ((v - u) + (1 : Int64))) * ((v - u) + (1 : Int64)))))] := own_lload w at_508 rfl
    replace w : own_W K b0 Z n0 h62 2 62 511 #[.val (.int p0), .val (.int p1), .val (.ref a1), .val (.ref a2), .val (.int j), .val (.int (0 : Int32)), .val (.long ((v - u) + (1 : Int64))), .second, .val (.long o), .second, .val (.long (u + (o - (o / ((v - u) + (1 : Int64))) * ((v - u) + (1 : Int64))))), .second, .val (.int (0 : Int32)), .val (.int (0 : Int32)), .unset] [(.int ((u + (o - (o / ((v - u) + (1 : Int64))) * ((v - u) + (1 : Int64))))).toInt32)] := own_l2i w at_510
    obtain ⟨_, _, ⟨rfl, rfl⟩, w⟩ := own_callS (By := b1) [(.int ((u + (o - (o / ((v - u) + (1 : Int64))) * ((v - u) + (1 : Int64))))).toInt32)] w rfl at_511 (hw _ (List.mem_of_getElem? (i := 60) rfl)) (hw _ (List.mem_of_getElem? (i := 61) rfl)) (hw _ (List.mem_of_getElem? (i := 62) rfl)) (hw _ (List.mem_of_getElem? (i := 63) rfl)) (rm1 hw (((u + (o - (o / ((v - u) + (1 : Int64))) * ((v - u) + (1 : Int64))))).toInt32) hn) (by decide) pd_1 rfl rfl (by decide) (Nat.le_of_ble_eq_true rfl) (by decide) (by decide)
    replace w : own_W K b0 Z n0 h62 2 62 514 #[.val (.int p0), .val (.int p1), .val (.ref a1), .val (.ref a2), .val (.int j), .val (.int (0 : Int32)), .val (.long ((v - u) + (1 : Int64))), .second, .val (.long o), .second, .val (.long (u + (o - (o / ((v - u) + (1 : Int64))) * ((v - u) + (1 : Int64))))), .second, .val (.int (0 : Int32)), .val (.int (0 : Int32)), .unset] [(.int (g1_0 (((u + (o - (o / ((v - u) + (1 : Int64))) * ((v - u) + (1 : Int64))))).toInt32).toInt))] := w
    rw [r3] at w
    replace w : own_W K b0 Z n0 h62 2 62 516 #[.val (.int p0), .val (.int p1), .val (.ref a1), .val (.ref a2), .val (.int j), .val (.int (0 : Int32)), .val (.long ((v - u) + (1 : Int64))), .second, .val (.long o), .second, .val (.long (u + (o - (o / ((v - u) + (1 : Int64))) * ((v - u) + (1 : Int64))))), .second, .val (.int (0 : Int32)), .val (.int (0 : Int32)), .val (.int (0 : Int32))] [] := own_istore w at_514 rfl
    replace w : own_W K b0 Z n0 h62 2 62 518 #[.val (.int p0), .val (.int p1), .val (.ref a1), .val (.ref a2), .val (.int j), .val (.int (0 : Int32)), .val (.long ((v - u) + (1 : Int64))), .second, .val (.long o), .second, .val (.long (u + (o - (o / ((v - u) + (1 : Int64))) * ((v - u) + (1 : Int64))))), .second, .val (.int (0 : Int32)), .val (.int (0 : Int32)), .val (.int (0 : Int32))] [(.int (0 : Int32))] := own_iload w at_516 rfl
    replace w : own_W K b0 Z n0 h62 2 62 520 #[.val (.int p0), .val (.int p1), .val (.ref a1), .val (.ref a2), .val (.int j), .val (.int (0 : Int32)), .val (.long ((v - u) + (1 : Int64))), .second, .val (.long o), .second, .val (.long (u + (o - (o / ((v - u) + (1 : Int64))) * ((v - u) + (1 : Int64))))), .second, .val (.int (0 : Int32)), .val (.int (0 : Int32)), .val (.int (0 : Int32))] [(.int (0 : Int32)), (.int (0 : Int32))] := own_iload w at_518 rfl
    replace w : own_W K b0 Z n0 h62 2 62 523 #[.val (.int p0), .val (.int p1), .val (.ref a1), .val (.ref a2), .val (.int j), .val (.int (0 : Int32)), .val (.long ((v - u) + (1 : Int64))), .second, .val (.long o), .second, .val (.long (u + (o - (o / ((v - u) + (1 : Int64))) * ((v - u) + (1 : Int64))))), .second, .val (.int (0 : Int32)), .val (.int (0 : Int32)), .val (.int (0 : Int32))] [] := own_icmpN (a := 0) (b := 0) w at_520 (by decide) (by decide) rfl
    replace w : own_W K b0 Z n0 h62 2 62 525 #[.val (.int p0), .val (.int p1), .val (.ref a1), .val (.ref a2), .val (.int j), .val (.int (0 : Int32)), .val (.long ((v - u) + (1 : Int64))), .second, .val (.long o), .second, .val (.long (u + (o - (o / ((v - u) + (1 : Int64))) * ((v - u) + (1 : Int64))))), .second, .val (.int (0 : Int32)), .val (.int (0 : Int32)), .val (.int (0 : Int32))] [(.int (0 : Int32))] := own_iload w at_523 rfl
    replace w : own_W K b0 Z n0 h62 2 62 527 #[.val (.int p0), .val (.int p1), .val (.ref a1), .val (.ref a2), .val (.int j), .val (.int (0 : Int32)), .val (.long ((v - u) + (1 : Int64))), .second, .val (.long o), .second, .val (.long (u + (o - (o / ((v - u) + (1 : Int64))) * ((v - u) + (1 : Int64))))), .second, .val (.int (0 : Int32)), .val (.int (0 : Int32)), .val (.int (0 : Int32))] [(.int (0 : Int32)), (.int (0 : Int32))] := own_iload w at_525 rfl
    replace w : own_W K b0 Z n0 h62 2 62 530 #[.val (.int p0), .val (.int p1), .val (.ref a1), .val (.ref a2), .val (.int j), .val (.int (0 : Int32)), .val (.long ((v - u) + (1 : Int64))), .second, .val (.long o), .second, .val (.long (u + (o - (o / ((v - u) + (1 : Int64))) * ((v - u) + (1 : Int64))))), .second, .val (.int (0 : Int32)), .val (.int (0 : Int32)), .val (.int (0 : Int32))] [] := own_icmpN (a := 0) (b := 0) w at_527 (by decide) (by decide) rfl
    replace w : own_W K b0 Z n0 h62 2 62 532 #[.val (.int p0), .val (.int p1), .val (.ref a1), .val (.ref a2), .val (.int j), .val (.int (0 : Int32)), .val (.long ((v - u) + (1 : Int64))), .second, .val (.long o), .second, .val (.long (u + (o - (o / ((v - u) + (1 : Int64))) * ((v - u) + (1 : Int64))))), .second, .val (.int (0 : Int32)), .val (.int (0 : Int32)), .val (.int (0 : Int32))] [(.int (0 : Int32))] := own_iload w at_530 rfl
    replace w : own_W K b0 Z n0 h62 2 62 534 #[.val (.int p0), .val (.int p1), .val (.ref a1), .val (.ref a2), .val (.int j), .val (.int (0 : Int32)), .val (.long ((v - u) + (1 : Int64))), .second, .val (.long o), .second, .val (.long (u + (o - (o / ((v - u) + (1 : Int64))) * ((v - u) + (1 : Int64))))), .second, .val (.int (0 : Int32)), .val (.int (0 : Int32)), .val (.int (0 : Int32))] [(.int (0 : Int32)), (.int (0 : Int32))] := own_iload w at_532 rfl
    replace w : own_W K b0 Z n0 h62 2 62 537 #[.val (.int p0), .val (.int p1), .val (.ref a1), .val (.ref a2), .val (.int j), .val (.int (0 : Int32)), .val (.long ((v - u) + (1 : Int64))), .second, .val (.long o), .second, .val (.long (u + (o - (o / ((v - u) + (1 : Int64))) * ((v - u) + (1 : Int64))))), .second, .val (.int (0 : Int32)), .val (.int (0 : Int32)), .val (.int (0 : Int32))] [] := own_icmpN (a := 0) (b := 0) w at_534 (by decide) (by decide) rfl
    replace w : own_W K b0 Z n0 h62 2 62 538 #[.val (.int p0), .val (.int p1), .val (.ref a1), .val (.ref a2), .val (.int j), .val (.int (0 : Int32)), .val (.long ((v - u) + (1 : Int64))), .second, .val (.long o), .second, .val (.long (u + (o - (o / ((v - u) + (1 : Int64))) * ((v - u) + (1 : Int64))))), .second, .val (.int (0 : Int32)), .val (.int (0 : Int32)), .val (.int (0 : Int32))] [(.int (1 : Int32))] := own_iconst w at_537 rfl
    replace w : own_W K b0 Z n0 h62 2 62 542 #[.val (.int p0), .val (.int p1), .val (.ref a1), .val (.ref a2), .val (.int j), .val (.int (0 : Int32)), .val (.long ((v - u) + (1 : Int64))), .second, .val (.long o), .second, .val (.long (u + (o - (o / ((v - u) + (1 : Int64))) * ((v - u) + (1 : Int64))))), .second, .val (.int (0 : Int32)), .val (.int (0 : Int32)), .val (.int (0 : Int32))] [(.int (1 : Int32))] := own_goto w at_538 (by decide) (by decide)
    exact own_retZ w at_542 rfl (Or.inl rfl) rfl (by decide) (by decide)
theorem rm0 {Z : State} {n0 : Nat} {h : Heap} {a0 : Array Value} (hw : ∀ d ∈ tables_1, d.before a0 Z = true) (p0 : Int32) (p1 : Int32) (hn : n0 ≤ h.size) : ∀ l, own_M l Z n0 b0 #[(.int p0), (.int p1)] h (fun v _ => v = some (.int 1)) :=
  fun l => own_enter hn pn_0 (ef_0 p0 p1) (fun K w => own_law0 hw p0 p1 w)
set_option maxRecDepth 65536 in
set_option maxHeartbeats 40000000 in
theorem comes_1 {Post : Tables → Env → Array Value → State → Outcome → State → Prop} (hpost : ∀ tb e args s v u, (limb_1_1.after args s (.returned v) u = true ∧ limb_1_2.after args s (.returned v) u = true ∧ True) → FrameEnd s (.returned v) u (Jvm.fieldLocs frame_1_writes args s ++ Jvm.arrayLocs frame_1_arrays args s ++ Jvm.staticLocs frame_1_statics s) 16 192 → Post tb e args s (.returned v) u) :
    ArmFor flags0 classFile x code maxLocals ret World_1 tables_1 room_1 Calls_1 rest_1 Pre_1 Post := by
  intro l hfl _ _ p e ha hc hk s m args below hf hA hF happ hP
  obtain ⟨hcalls, hrest, hpre⟩ := hP
  obtain ⟨-, -, -, hnamed, -, -, -, hat⟩ := (Spec.applies_iff hf).mp happ
  obtain ⟨hg, hn⟩ := and_e (Cond.before_iff.mp (show (Jvm.Cond.and given_1 narrow_1).before args s = true from hpre))
  obtain ⟨gc, t0⟩ := and_e hg
  obtain ⟨k0, t1⟩ := and_e t0
  have k1 := t1
  obtain ⟨w0, w1, rfl⟩ : ∃ w0 w1 : Value, args = #[w0, w1] := by
    have hs : args.size = 2 := by simpa [Cond.value, given_1] using gc
    obtain ⟨L⟩ := args
    match L, hs with
    | [w0, w1], _ => exact ⟨w0, w1, rfl⟩
  have hw := fun d (hd : d ∈ tables_1) => atoms_spec (ws := Jvm.Cond.code x code maxLocals ret :: tables_1) hat d (List.mem_cons_of_mem _ hd)
  obtain ⟨i0, ei0⟩ := is_v k0
  obtain rfl : w0 = (.int i0) := Option.some.inj ei0
  obtain ⟨i1, ei1⟩ := is_v k1
  obtain rfl : w1 = (.int i1) := Option.some.inj ei1
  obtain ⟨n, o, h1, h2, h3, _, L, rfl, ⟨rfl, N, -⟩, hq⟩ := rm0 (Z := s) (n0 := s.heap.size) (h := s.heap) hw i0 i1 (Nat.le_refl _) l tables_1 p e ha hc hk s m _ below hf ((Spec.applies_iff_loose hf).mp happ).1 ⟨rfl, State.Warmed39.refl s, rfl⟩ trivial
  refine ⟨n, _, h1, h2, h3, hpost _ _ _ _ _ _ ⟨Cond.after_iff.mpr rfl, Cond.after_iff.mpr (eq_i res_at (Term.int_eval (1)) rfl), trivial⟩ ⟨hq.1, hq.2.1, (hq.2.2.sift fun y hy => Or.inr (N y hy)).mono (by decide) (by decide)⟩⟩
theorem main_1_1 : Claimed_1_1 := comes_1 fun _ _ _ _ _ _ h hF => ⟨h.1, hF⟩
theorem main_1_2 : Claimed_1_2 := comes_1 fun _ _ _ _ _ _ h hF => ⟨h.2.1, hF⟩
end Jvm.Pilot.@@N@@
namespace Jvm.Pilot.@@N@@
open Jvm Jvm.ClassFile Sem Op Lib Jvm.Free Jvm.Stand Jvm.Pilot.@@N@@.Jvm.D
/-! MADE BY PROGRAM (witnessworld.py) out of the Statement's table words and the real class files: 11 classes; the members and pool entries that the words name. The judged class is class 1, her method 1. -/
namespace start1
open Jvm.ClassFile
def u (s : String) : CpInfo := .utf8 (stringToUtf16 s)
/-- a pool by its gaps: so many unusable entries, then the entry; so many at the end -/
def gap : Nat → List CpInfo → List CpInfo
  | 0, r => r
  | n + 1, r => .unusable :: gap n r
def poolList (es : List (Nat × CpInfo)) (last : Nat) : List CpInfo := es.foldr (fun e r => gap e.1 (e.2 :: r)) (gap last [])
def pool (es : List (Nat × CpInfo)) (last : Nat) : Array CpInfo := ⟨poolList es last⟩
def fileOf (pool : Array CpInfo) (this : Nat) (attrs : Array Attribute := #[]) (ms : Array MethodInfo := #[]) (fl : Nat := 33) (sup : Nat := 0) (ifs : Array Nat := #[]) (fds : Array FieldInfo := #[]) : ClassFile where
  minorVersion := 0
  majorVersion := 65
  constantPool := pool
  accessFlags := fl
  thisClass := this
  superClass := sup
  interfaces := ifs
  fields := fds
  methods := ms
  attributes := attrs
def plain (name : String) (sup : Option ClassId) : Class where
  name := name
  kind := .ordinary
  loader := none
  accessFlags := 33
  super := sup
  interfaces := #[]
  cf := none
  fields := #[]
  methods := #[]
  instanceTypes := #[]
  staticTypes := #[]
  resolved := #[]
  callSites := []
  init := .initialized
  statics := none
  mirror := none

def pool0 : Array CpInfo := pool [(5, u "<init>"), (0, u "()V"), (1, .class_ 10), (1, u "java/lang/Object")] 113

def k0m0 : Method := { name := "<init>", desc := "()V", sig := { parameters := [], returnType := none }, accessFlags := 1, code := none }
/-- java/lang/Object -/
def k0 : Class := { plain "java/lang/Object" none with
  accessFlags := 33
  interfaces := #[]
  cf := some (fileOf pool0 8 #[] #[{ accessFlags := 1, nameIndex := 5, descriptorIndex := 6, attributes := #[] }] 33 0 #[] #[])
  fields := #[]
  methods := #[k0m0]
  instanceTypes := #[]
  staticTypes := #[]
  resolved := Array.replicate 124 none
  statics := none }

def pool1 : Array CpInfo := pool [(2, .class_ 4), (1, u "java/lang/Object"), (0, u "<init>"), (0, u "()V"), (0, .long 65), (1, .long 95), (1, .long 97), (1, .long 192), (1, .long 216), (1, .long 248), (1, .long 880), (1, .long 895), (1, .long 8204), (1, .long 8304), (1, .long 11264), (1, .long 12289), (1, .long 63744), (1, .long 65008), (1, .long 65536), (3, .long 18446744071562067968), (1, .long 91), (1, .long 96), (1, .long 123), (1, .long 215), (1, .long 247), (1, .long 768), (1, .long 894), (1, .long 8192), (1, .long 8206), (1, .long 8592), (1, .long 12272), (1, .long 55296), (1, .long 64976), (1, .long 65534), (1, .long 983040), (1, .long 90), (1, .long 122), (1, .long 214), (1, .long 246), (1, .long 767), (1, .long 893), (1, .long 8191), (1, .long 8205), (1, .long 8591), (1, .long 12271), (1, .long 55295), (1, .long 64975), (1, .long 65533), (1, .long 983039), (1, .long 64), (1, .long 94), (1, .long 191), (1, .long 879), (1, .long 8203), (1, .long 8303), (1, .long 11263), (1, .long 12288), (1, .long 63743), (1, .long 65007), (1, .long 65535), (1, .long 2147483647), (1, .integer 2147483647), (0, .long 4294967295), (1, .methodref 127 128), (0, .class_ 129), (0, .nameAndType 130 131), (0, u "com/example/xqstat/xqstat/document/XmlCharacters"), (0, u "isNameStart"), (0, u "(I)Z"), (0, .class_ 133), (0, u "com/example/xqstat/xqstat/document/XmlCharactersIsNameStartPinLaw"), (2, u "law"), (0, u "(II)Z")] 5

def k1m0 : Method := { name := "<init>", desc := "()V", sig := { parameters := [], returnType := none }, accessFlags := 2, code := none }
def k1c1 : Code := { maxStack := 6, maxLocals := 15, code := code, exceptionTable := #[], attributes := #[] }
def k1m1 : Method := { name := "law", desc := "(II)Z", sig := { parameters := [.int, .int], returnType := some .boolean }, accessFlags := 9, code := some k1c1 }
/-- com/example/xqstat/xqstat/document/XmlCharactersIsNameStartPinLaw -/
def k1 : Class := { plain "com/example/xqstat/xqstat/document/XmlCharactersIsNameStartPinLaw" (some 0) with
  accessFlags := 49
  interfaces := #[]
  cf := some (fileOf pool1 132 #[] #[{ accessFlags := 2, nameIndex := 5, descriptorIndex := 6, attributes := #[] }, { accessFlags := 9, nameIndex := 136, descriptorIndex := 137, attributes := #[] }] 49 2 #[] #[])
  fields := #[]
  methods := #[k1m0, k1m1]
  instanceTypes := #[]
  staticTypes := #[]
  resolved := Array.replicate 143 none
  statics := none }

def pool2 : Array CpInfo := pool [(2, .class_ 4), (1, u "java/lang/Object"), (0, u "<init>"), (0, u "()V"), (12, .class_ 21), (1, u "com/example/xqstat/xqstat/document/XmlCharacters"), (1, u "(I)Z"), (11, .integer 55295), (0, .integer 63744), (0, .integer 64975), (0, .integer 65008), (0, .integer 65533), (0, .integer 65536), (0, .integer 983039), (2, u "isNameStart")] 106

def k2m0 : Method := { name := "<init>", desc := "()V", sig := { parameters := [], returnType := none }, accessFlags := 2, code := none }
def k2c1 : Code := { maxStack := 2, maxLocals := 1, code := prog_76_method_4_code, exceptionTable := #[], attributes := #[] }
def k2m1 : Method := { name := "isNameStart", desc := "(I)Z", sig := { parameters := [.int], returnType := some .boolean }, accessFlags := 9, code := some k2c1 }
/-- com/example/xqstat/xqstat/document/XmlCharacters -/
def k2 : Class := { plain "com/example/xqstat/xqstat/document/XmlCharacters" (some 0) with
  accessFlags := 49
  interfaces := #[]
  cf := some (fileOf pool2 19 #[] #[{ accessFlags := 2, nameIndex := 5, descriptorIndex := 6, attributes := #[] }, { accessFlags := 9, nameIndex := 44, descriptorIndex := 23, attributes := #[] }] 49 2 #[] #[])
  fields := #[]
  methods := #[k2m0, k2m1]
  instanceTypes := #[]
  staticTypes := #[]
  resolved := Array.replicate 151 none
  statics := none }

def pool3 : Array CpInfo := pool [(1, u "java/lang/Cloneable"), (0, .class_ 1), (0, u "java/lang/Object"), (0, .class_ 3)] 3

/-- java/lang/Cloneable -/
def k3 : Class := { plain "java/lang/Cloneable" (some 0) with
  accessFlags := 1537
  interfaces := #[]
  cf := some (fileOf pool3 2 #[] #[] 1537 4 #[] #[])
  fields := #[]
  methods := #[]
  instanceTypes := #[]
  staticTypes := #[]
  resolved := Array.replicate 8 none
  statics := none }

def pool4 : Array CpInfo := pool [(1, u "java/io/Serializable"), (0, .class_ 1), (0, u "java/lang/Object"), (0, .class_ 3)] 3

/-- java/io/Serializable -/
def k4 : Class := { plain "java/io/Serializable" (some 0) with
  accessFlags := 1537
  interfaces := #[]
  cf := some (fileOf pool4 2 #[] #[] 1537 4 #[] #[])
  fields := #[]
  methods := #[]
  instanceTypes := #[]
  staticTypes := #[]
  resolved := Array.replicate 8 none
  statics := none }

/-- the primitive byte -/
def k5 : Class := { plain "byte" none with kind := .primitive 'B', accessFlags := 0x411 }
/-- [B -/
def k6 : Class := { plain "[B" (some 0) with kind := .array 5 .byte, interfaces := #[3, 4], accessFlags := 1041 }

/-- the primitive int -/
def k7 : Class := { plain "int" none with kind := .primitive 'I', accessFlags := 0x411 }
/-- [I -/
def k8 : Class := { plain "[I" (some 0) with kind := .array 7 .int, interfaces := #[3, 4], accessFlags := 1041 }

/-- the primitive long -/
def k9 : Class := { plain "long" none with kind := .primitive 'J', accessFlags := 0x411 }
/-- [J -/
def k10 : Class := { plain "[J" (some 0) with kind := .array 9 .long, interfaces := #[3, 4], accessFlags := 1041 }

def heap : Heap := #[]
def classes : Array Class := #[k0, k1, k2, k3, k4, k5, k6, k7, k8, k9, k10]
def interned : List (Array UInt16 × Addr) := []
def slotsUsed : Nat := 0
def theMethod : MethodId := ⟨1, 1⟩
def args0 : Array Value := #[.int 9, .int 5]
def aboutOver (below : List Frame) : State where
  vm := { classes := classes, interned := interned.toArray }
  heap := heap
  slotsUsed := slotsUsed
  threads := #[{ frames := .invoking theMethod args0 :: below }]
def below0 : List Frame := [.native { method := ⟨0, 0⟩, args := #[] }]
def about1 : State := aboutOver below0
def p0 : Program := .bare "" "" ""
def e0 : Env := launch0.env 0 0 0
theorem w_frames : about1.frames = Frame.invoking theMethod args0 :: below0 := rfl
set_option maxRecDepth 65536 in
theorem w_args : argsFit about1.vm theMethod args0 = true := by decide +kernel
set_option maxRecDepth 65536 in
theorem w_heap : heapFits about1 = true := by decide +kernel
set_option maxRecDepth 65536 in
theorem w_runnable : about1.curStatus? = some .runnable := by decide +kernel
set_option maxRecDepth 65536 in
theorem w_alone : about1.alone = true := by decide +kernel
set_option maxRecDepth 65536 in
theorem w_named : about1.methodNamed? x = some theMethod := by decide +kernel
set_option maxRecDepth 65536 in
theorem w_hears : about1.hears theMethod below0 = true := by decide +kernel
set_option maxRecDepth 65536 in
theorem w_ripe : about1.ripe theMethod args0 below0 = true := by decide +kernel
theorem w_running : about1.status = .running := rfl
set_option maxRecDepth 65536 in
theorem w_room : about1.hasRoom e0.platform room_1 = true :=
  launch0.hasRoom_least _ room_1 (by decide +kernel) (by decide +kernel) (by decide +kernel) (by decide +kernel) (by decide +kernel) (by decide +kernel)
theorem allAtoms_all (ts : List Jvm.Cond) (a : Array Jvm.Value) (st : Jvm.State) : (allAtoms ts).before a st = ts.all (fun c => c.before a st) := by
  induction ts with
  | nil => rfl
  | cons c t ih =>
    show (Jvm.Cond.and c (allAtoms t)).before a st = _
    rw [Jvm.Cond.before_and, ih, List.all_cons]
def words1 : List Jvm.Cond := Jvm.Cond.code x code maxLocals ret :: tables_1
/-- a 'code' word, met by the world's own term for the bytes: nothing is compared byte by byte -/
theorem code_word {y : MethodName} {bytes : ByteArray} {mx : Nat} {rt : Option FieldType} {a : Array Value} {s : State} {m : MethodId} {meth : Method} {c : Code} (h1 : s.methodNamed? y = some m) (h2 : s.vm.method? m = some meth) (h3 : meth.code = some c) (h4 : c.code = bytes)
    (h5 : (c.maxLocals == mx && c.exceptionTable.isEmpty && decide (c.maxStack ≤ mostOperands) && decide (meth.sig.returnType = rt) && !meth.locks && decide (parseMethodDescriptor y.desc = some meth.sig)) = true) : (Jvm.Cond.code y bytes mx rt).before a s = true := by
  simp only [Bool.and_eq_true, beq_iff_eq, Bool.not_eq_true', decide_eq_true_eq] at h5
  obtain ⟨⟨⟨⟨⟨g1, g2⟩, g3⟩, g4⟩, g5⟩, g6⟩ := h5
  simp [Cond.before, Cond.holds, Cond.value, h1, h2, h3, h4, g1, g2, g3, g4, g5, g6]
def isCode : Jvm.Cond → Bool
  | .code _ _ _ _ => true
  | _ => false
theorem all_split {L : List Jvm.Cond} {P : Jvm.Cond → Bool} (h1 : L.all (fun c => isCode c || P c) = true) (h2 : ∀ c ∈ L.filter isCode, P c = true) : L.all P = true := by
  refine List.all_eq_true.mpr fun c hc => ?_
  have h := List.all_eq_true.mp h1 c hc
  rcases Bool.eq_false_or_eq_true (isCode c) with hi | hi
  · exact h2 c (List.mem_filter.mpr ⟨hc, hi⟩)
  · simpa [hi] using h
set_option maxRecDepth 65536 in
theorem w_c0 : (Jvm.Cond.code x code maxLocals ret).before args0 about1 = true := code_word (m := ⟨1, 1⟩) (meth := k1m1) (c := k1c1) (by decide +kernel) rfl rfl rfl (by decide +kernel)
set_option maxRecDepth 65536 in
theorem w_c1 : (Jvm.Cond.code ({ cls := "com/example/xqstat/xqstat/document/XmlCharacters", name := "isNameStart", desc := "(I)Z" } : Jvm.MethodName) prog_76_method_4_code (1 : Nat) (Option.some Jvm.ClassFile.FieldType.boolean)).before args0 about1 = true := code_word (m := ⟨2, 1⟩) (meth := k2m1) (c := k2c1) (by decide +kernel) rfl rfl rfl (by decide +kernel)
def codes1 : List Jvm.Cond := [Jvm.Cond.code x code maxLocals ret, Jvm.Cond.code ({ cls := "com/example/xqstat/xqstat/document/XmlCharacters", name := "isNameStart", desc := "(I)Z" } : Jvm.MethodName) prog_76_method_4_code (1 : Nat) (Option.some Jvm.ClassFile.FieldType.boolean)]
set_option maxRecDepth 65536 in
theorem codes_eq : words1.filter isCode = codes1 := rfl
theorem w_codes : ∀ c ∈ words1.filter isCode, c.before args0 about1 = true := by
  rw [codes_eq]
  intro c hc
  simp only [codes1, List.mem_cons, List.not_mem_nil, or_false] at hc
  rcases hc with rfl | rfl
  · exact w_c0
  · exact w_c1
set_option maxRecDepth 65536 in
theorem w_t1 : (words1.take 24).all (fun c => isCode c || c.before args0 about1) = true := by decide +kernel
set_option maxRecDepth 65536 in
theorem w_t2 : ((words1.drop 24).take 24).all (fun c => isCode c || c.before args0 about1) = true := by decide +kernel
set_option maxRecDepth 65536 in
theorem w_t3 : ((words1.drop 24).drop 24).all (fun c => isCode c || c.before args0 about1) = true := by decide +kernel
theorem w_tables : (allAtoms (Jvm.Cond.code x code maxLocals ret :: tables_1)).before args0 about1 = true := by
  rw [allAtoms_all]
  show words1.all (fun c => c.before args0 about1) = true
  refine all_split ?_ w_codes
  rw [← List.take_append_drop 24 words1, List.all_append, w_t1, ← List.take_append_drop 24 (words1.drop 24), List.all_append, w_t2, w_t3]
  rfl
set_option maxRecDepth 65536 in
theorem w_case : (Jvm.Cond.and given_1 narrow_1).before args0 about1 = true := by decide +kernel
theorem w_applies : (headSpec (Jvm.Cond.code x code maxLocals ret :: tables_1) room_1).applies x e0.platform about1 = true :=
  (Spec.applies_iff w_frames).mpr ⟨w_running, w_runnable, w_alone, w_named, w_hears, w_ripe, w_room, w_tables⟩
theorem atStart : AtStart classFile x code maxLocals ret World_1 tables_1 room_1 Calls_1 rest_1 Pre_1 launch0 p0 e0 about1 theMethod args0 below0 :=
  ⟨lists_1, trivial, launch0.admits_env _ _ _, launch0.least_env, fairChoices_fair.cas, fairChoices_fair.clock, w_frames, w_args, w_heap, w_applies, trivial, trivial, w_case⟩
end start1
theorem witness_1 : WitnessClaimed_1 := ⟨start1.p0, start1.e0, start1.about1, start1.theMethod, start1.args0, start1.below0, start1.atStart⟩
end Jvm.Pilot.@@N@@

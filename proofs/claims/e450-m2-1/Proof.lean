import JvmDerived
import JvmDerived.Pilot.@@N@@Statement
import JvmDerived.Pilot.@@N@@Code
set_option linter.unusedVariables false
set_option linter.unusedSimpArgs false
@@BLOCK:NumsL.lean.txt@@
@@BLOCK:Masks.lean.txt@@
namespace Jvm.RoadKit
open Sem ClassFile Op Lib Jvm.Stand Jvm.Free Jvm.LawKit
section New
variable {p : Program} {l : Launch} {e : Env} {R : Room} {s : State} {m : MethodId} {args : Array Value} {below : List Frame} {meth : Method} {c : Code} {T : State} {locs : List Loc} {cells slots : Nat}
theorem retI (X : Stand p l e R s m args below meth c T locs cells slots) (hx : p.tables.exec = Jvm.exec) {pc : Nat} {Ls : Array Slot} {z : Int32} {rest : List Value} (hret : meth.sig.returnType = some .int) (hd : decode c.code pc = .ok (.ireturn, 1)) {fs : List Frame}
    (hl : ∀ (f : JFrame) (acts : List Action), f.method = m → f.locked = none → f.entered = [] → (doReturn e (T.setTop f) acts (some (.int z))).1 = T.setFrames fs) : Steps p.tables e below (T.setTop (mkF m pc Ls (.int z :: rest))) (T.setFrames fs) := by
  have hm' : T.vm.method? m = some meth := X.method'
  have hn : narrow .int (.int z) = .int z := rfl
  show Steps p.tables e below (T.setTop { method := m, pc := pc, locals := Ls, stack := _ :: rest, locked := none }) _
  jvm_step X.here [X.here.top, hx, hd, hm', hret, hn]
  first | (intro acts; rw [hl _ acts rfl rfl rfl]) | rw [hl _ _ rfl rfl rfl]
  exact Steps.refl _
end New
end Jvm.RoadKit
namespace Jvm.Pilot.@@N@@
open Jvm Jvm.ClassFile Sem Op Lib Jvm.Free Jvm.Stand Jvm.LawKit Jvm.RoadKit Bundle Jvm.Pilot.@@N@@.Jvm.D
-- a layer of my own over the library's laws: a point of a walk (own_W), its end (own_G), a body's contract (own_M)
abbrev OwnK : Type := Program × Launch × Env × State × MethodId × Array Value × List Frame × Method × Code × State
abbrev OwnB : Type := MethodName × ByteArray × Nat × Option FieldType × Room
abbrev OwnB.y (B : OwnB) : MethodName := B.1
abbrev OwnB.bytes (B : OwnB) : ByteArray := B.2.1
abbrev OwnB.ml (B : OwnB) : Nat := B.2.2.1
abbrev OwnB.ret (B : OwnB) : Option FieldType := B.2.2.2.1
abbrev OwnB.rm (B : OwnB) : Room := B.2.2.2.2
def own_W (K : OwnK) (B : OwnB) (Z : State) (n0 : Nat) (h : Heap) (ck cs pc : Nat) (L : Array Slot) (S : List Value) : Prop :=
  match K with
  | (p, l, e, s, m, args, below, meth, c, start) =>
    p.tables.exec = Jvm.exec ∧ Z.Warmed39 s.vm ∧ s.vm.findClass B.y.cls = some m.cls ∧ meth.name = B.y.name ∧ c.code = B.bytes ∧ c.maxLocals = B.ml ∧ meth.sig.returnType = B.ret ∧ meth.locks = false ∧ n0 ≤ h.size ∧
      ∃ (T : State) (locs : List Loc), Stand p l e B.rm s m args below meth c T locs ck cs ∧ T.heap = h ∧ Fr n0 locs ∧
        ∀ tg, Steps p.tables e below (T.setTop (mkF m pc L S)) tg → Steps p.tables e below start tg
def own_G (K : OwnK) (n0 ck cs : Nat) (Q : Option Value → Heap → Prop) : Prop :=
  match K with
  | (p, _, e, s, _, _, below, _, _, start) =>
    ∃ s₂ o, Steps p.tables e below start s₂ ∧ s₂.status = .running ∧ Ended s₂ below o ∧
      ∃ v L, o = .returned v ∧ (Q v s₂.heap ∧ Fr n0 L ∧ n0 ≤ s₂.heap.size) ∧ FrameEnd s o s₂ L ck cs
def own_M (l : Launch) (Z : State) (n0 : Nat) (B : OwnB) (as : Array Value) (h : Heap) (Q : Option Value → Heap → Prop) : Prop :=
  ∀ ws : List Jvm.Cond, MetFree l B.y (head1 (Jvm.Cond.code B.y B.bytes B.ml B.ret :: ws) B.rm) (fun a U => a = as ∧ Z.Warmed39 U.vm ∧ U.heap = h) (fun _ _ _ _ _ => True)
    (fun _ U o U' => ∃ v L, o = .returned v ∧ (Q v U'.heap ∧ Fr n0 L ∧ n0 ≤ U'.heap.size) ∧ FrameEnd U o U' L B.rm.cells B.rm.slots)
theorem own_enter {l : Launch} {Z : State} {n0 : Nat} {B : OwnB} {as : Array Value} {h : Heap} {Q : Option Value → Heap → Prop} (hn0 : n0 ≤ h.size) (pn : plainName B.y.cls = true) {L0 : Array Slot} (ef : ∀ m, entryFrame m as B.ml = mkF m 0 L0 [])
    (body : ∀ K, own_W K B Z n0 h 0 0 0 L0 [] → own_G K n0 B.rm.cells B.rm.slots Q) : own_M l Z n0 B as h Q := by
  intro ws
  refine MetFree.of_bodySF (plainFor_of_name pn) hisR ?_
  intro p e s m args below meth c s₁ Bd hml0 hP hK
  obtain ⟨rfl, hZ, hh⟩ := hP
  exact body (p, l, e, s, m, args, below, meth, c, s₁.setTop (entryFrame m args B.ml)) ⟨Bd.exec, hZ, findClass_of_methodNamed Bd.named, (name_of_methodNamed Bd.named Bd.method).1, Bd.bytes, hml0, Bd.returns, Bd.notSynchronized, hn0, s₁, [], Stand.of_body Bd, by rw [← hh, Bd.state]; rfl, Fr.nil n0, fun t k => castTop (ef m) k⟩
section Own
variable {K : OwnK} {B : OwnB} {Z : State} {n0 : Nat} {h : Heap} {ck cs pc : Nat} {L : Array Slot} {S : List Value} {a0 : Array Value}
theorem own_step {pc' : Nat} {L' : Array Slot} {S' : List Value} (w : own_W K B Z n0 h ck cs pc L S)
    (st : ∀ {p : Program} {l : Launch} {e : Env} {s : State} {m : MethodId} {args : Array Value} {below : List Frame} {meth : Method} {c : Code} {T : State} {locs : List Loc}, Stand p l e B.rm s m args below meth c T locs ck cs → p.tables.exec = Jvm.exec → Z.Warmed39 s.vm → s.vm.findClass B.y.cls = some m.cls → c.code = B.bytes → T.heap = h →
      ∀ tg, Steps p.tables e below (T.setTop (mkF m pc' L' S')) tg → Steps p.tables e below (T.setTop (mkF m pc L S)) tg) : own_W K B Z n0 h ck cs pc' L' S' := by
  obtain ⟨p, l, e, s, m, args, below, meth, c, start⟩ := K
  obtain ⟨hx, hZ, hown, hnm, hby, hml, hret, hlk, hn, T, locs, X, eT, N, pre⟩ := w
  exact ⟨hx, hZ, hown, hnm, hby, hml, hret, hlk, hn, T, locs, X, eT, N, fun tg k => pre tg (st X hx hZ hown hby eT tg k)⟩
theorem own_cast {pc' : Nat} {L' : Array Slot} {S' : List Value} {h' : Heap} {ck' cs' : Nat} (w : own_W K B Z n0 h ck cs pc L S) (e1 : h = h') (e2 : ck = ck') (e3 : cs = cs') (e4 : pc = pc') (e5 : L = L') (e6 : S = S') : own_W K B Z n0 h' ck' cs' pc' L' S' := by
  subst e1 e2 e3 e4 e5 e6; exact w
theorem own_size (w : own_W K B Z n0 h ck cs pc L S) : n0 ≤ h.size := by
  obtain ⟨p, l, e, s, m, args, below, meth, c, start⟩ := K
  exact w.2.2.2.2.2.2.2.2.1
theorem own_iloadN (w : own_W K B Z n0 h ck cs pc L S) {k : Fin 4} {v : Int32} (hd : decode B.bytes pc = .ok (.iload_n k, 1)) (hl : L[k.val]? = some (.val (.int v))) : own_W K B Z n0 h ck cs (pc + 1) L (.int v :: S) :=
  own_step w fun X hx _ _ hby _ tg kt => XS.iloadN X.here hx rfl (hb hby hd) hl kt
theorem own_iload (w : own_W K B Z n0 h ck cs pc L S) {k : Nat} {v : Int32} (hd : decode B.bytes pc = .ok (.iload k, 2)) (hl : L[k]? = some (.val (.int v))) : own_W K B Z n0 h ck cs (pc + 2) L (.int v :: S) :=
  own_step w fun X hx _ _ hby _ tg kt => XS.iload X.here hx rfl (hb hby hd) hl kt
theorem own_lloadN (w : own_W K B Z n0 h ck cs pc L S) {k : Fin 4} {v : Int64} (hd : decode B.bytes pc = .ok (.lload_n k, 1)) (hl : L[k.val]? = some (.val (.long v))) : own_W K B Z n0 h ck cs (pc + 1) L (.long v :: S) :=
  own_step w fun X hx _ _ hby _ tg kt => XS.lloadN X.here hx rfl (hb hby hd) hl kt
theorem own_lload (w : own_W K B Z n0 h ck cs pc L S) {k : Nat} {v : Int64} (hd : decode B.bytes pc = .ok (.lload k, 2)) (hl : L[k]? = some (.val (.long v))) : own_W K B Z n0 h ck cs (pc + 2) L (.long v :: S) :=
  own_step w fun X hx _ _ hby _ tg kt => XS.lload X.here hx rfl (hb hby hd) hl kt
theorem own_aloadN (w : own_W K B Z n0 h ck cs pc L S) {k : Fin 4} {a : Addr} (hd : decode B.bytes pc = .ok (.aload_n k, 1)) (hl : L[k.val]? = some (.val (.ref a))) : own_W K B Z n0 h ck cs (pc + 1) L (.ref a :: S) :=
  own_step w fun X hx _ _ hby _ tg kt => XS.aloadN X.here hx rfl (hb hby hd) hl rfl kt
theorem own_aload (w : own_W K B Z n0 h ck cs pc L S) {k : Nat} {a : Addr} (hd : decode B.bytes pc = .ok (.aload k, 2)) (hl : L[k]? = some (.val (.ref a))) : own_W K B Z n0 h ck cs (pc + 2) L (.ref a :: S) :=
  own_step w fun X hx _ _ hby _ tg kt => XS.aload X.here hx rfl (hb hby hd) hl rfl kt
theorem own_iconst (w : own_W K B Z n0 h ck cs pc L S) {i : Int} {v : Int32} (hd : decode B.bytes pc = .ok (.iconst i, 1)) (hv : Int32.ofInt i = v) : own_W K B Z n0 h ck cs (pc + 1) L (.int v :: S) := by
  subst hv; exact own_step w fun X hx _ _ hby _ tg kt => XS.iconst X.here hx rfl (hb hby hd) kt
theorem own_bipush (w : own_W K B Z n0 h ck cs pc L S) {i : Int} {v : Int32} (hd : decode B.bytes pc = .ok (.bipush i, 2)) (hv : (Int8.ofInt i).toInt32 = v) : own_W K B Z n0 h ck cs (pc + 2) L (.int v :: S) := by
  subst hv; exact own_step w fun X hx _ _ hby _ tg kt => XS.bipush X.here hx rfl (hb hby hd) kt
theorem own_sipush (w : own_W K B Z n0 h ck cs pc L S) {i : Int} {v : Int32} (hd : decode B.bytes pc = .ok (.sipush i, 3)) (hv : (Int16.ofInt i).toInt32 = v) : own_W K B Z n0 h ck cs (pc + 3) L (.int v :: S) := by
  subst hv; exact own_step w fun X hx _ _ hby _ tg kt => XS.sipush X.here hx rfl (hb hby hd) kt
theorem own_lconst (w : own_W K B Z n0 h ck cs pc L S) {k : Fin 2} {v : Int64} (hd : decode B.bytes pc = .ok (.lconst k, 1)) (hv : Int64.ofNat k = v) : own_W K B Z n0 h ck cs (pc + 1) L (.long v :: S) := by
  subst hv; exact own_step w fun X hx _ _ hby _ tg kt => XS.lconst X.here hx rfl (hb hby hd) kt
theorem own_ldc (w : own_W K B Z n0 h ck cs pc L S) {i : Nat} {v : Int32} (hd : decode B.bytes pc = .ok (.ldc i, 2)) (wc : (Jvm.Cond.constant B.y.cls i v).before a0 Z = true) : own_W K B Z n0 h ck cs (pc + 2) L (.int v :: S) :=
  own_step w fun X hx hZ hown hby _ tg kt => X.ldcInt (g := mkF _ pc L S) hx hown (mv hZ wc) rfl (hb hby hd) tg kt
theorem own_ldc2 (w : own_W K B Z n0 h ck cs pc L S) {i : Nat} {v : Int64} (hd : decode B.bytes pc = .ok (.ldc2_w i, 3)) (wc : (Jvm.Cond.constantLong B.y.cls i v).before a0 Z = true) : own_W K B Z n0 h ck cs (pc + 3) L (.long v :: S) :=
  own_step w fun X hx hZ hown hby _ tg kt => X.ldc2Long (g := mkF _ pc L S) hx hown (mv hZ wc) rfl (hb hby hd) tg kt
theorem own_dup {x : Value} (w : own_W K B Z n0 h ck cs pc L (x :: S)) (hd : decode B.bytes pc = .ok (.dup, 1)) (hc : x.category = 1) : own_W K B Z n0 h ck cs (pc + 1) L (x :: x :: S) :=
  own_step w fun X hx _ _ hby _ tg kt => XS.dup X.here hx rfl (hb hby hd) rfl hc kt
theorem own_istoreN {x : Int32} {L' : Array Slot} (w : own_W K B Z n0 h ck cs pc L (.int x :: S)) {k : Fin 4} (hd : decode B.bytes pc = .ok (.istore_n k, 1)) (hl : storeLocals L k.val (.int x) = some L') : own_W K B Z n0 h ck cs (pc + 1) L' S :=
  own_step w fun X hx _ _ hby _ tg kt => XS.istoreN X.here hx rfl (hb hby hd) rfl hl kt
theorem own_istore {x : Int32} {L' : Array Slot} (w : own_W K B Z n0 h ck cs pc L (.int x :: S)) {k : Nat} (hd : decode B.bytes pc = .ok (.istore k, 2)) (hl : storeLocals L k (.int x) = some L') : own_W K B Z n0 h ck cs (pc + 2) L' S :=
  own_step w fun X hx _ _ hby _ tg kt => XS.istore X.here hx rfl (hb hby hd) rfl hl kt
theorem own_lstoreN {x : Int64} {L' : Array Slot} (w : own_W K B Z n0 h ck cs pc L (.long x :: S)) {k : Fin 4} (hd : decode B.bytes pc = .ok (.lstore_n k, 1)) (hl : storeLocals L k.val (.long x) = some L') : own_W K B Z n0 h ck cs (pc + 1) L' S :=
  own_step w fun X hx _ _ hby _ tg kt => XS.lstoreN X.here hx rfl (hb hby hd) rfl hl kt
theorem own_lstore {x : Int64} {L' : Array Slot} (w : own_W K B Z n0 h ck cs pc L (.long x :: S)) {k : Nat} (hd : decode B.bytes pc = .ok (.lstore k, 2)) (hl : storeLocals L k (.long x) = some L') : own_W K B Z n0 h ck cs (pc + 2) L' S :=
  own_step w fun X hx _ _ hby _ tg kt => XS.lstore X.here hx rfl (hb hby hd) rfl hl kt
theorem own_astoreN {a : Addr} {L' : Array Slot} (w : own_W K B Z n0 h ck cs pc L (.ref a :: S)) {k : Fin 4} (hd : decode B.bytes pc = .ok (.astore_n k, 1)) (hl : storeLocals L k.val (.ref a) = some L') : own_W K B Z n0 h ck cs (pc + 1) L' S :=
  own_step w fun X hx _ _ hby _ tg kt => XS.astoreN X.here hx rfl (hb hby hd) rfl rfl hl kt
theorem own_astore {a : Addr} {L' : Array Slot} (w : own_W K B Z n0 h ck cs pc L (.ref a :: S)) {k : Nat} (hd : decode B.bytes pc = .ok (.astore k, 2)) (hl : storeLocals L k (.ref a) = some L') : own_W K B Z n0 h ck cs (pc + 2) L' S :=
  own_step w fun X hx _ _ hby _ tg kt => XS.astore X.here hx rfl (hb hby hd) rfl rfl hl kt
theorem own_iinc {x v : Int32} {L' : Array Slot} (w : own_W K B Z n0 h ck cs pc L S) {k : Nat} {c : Int} (hd : decode B.bytes pc = .ok (.iinc k c, 3)) (hl : L[k]? = some (.val (.int x))) (hv : Int32.ofInt c = v) (hl' : storeLocals L k (.int (x + v)) = some L') : own_W K B Z n0 h ck cs (pc + 3) L' S := by
  subst hv; exact own_step w fun X hx _ _ hby _ tg kt => XS.iinc X.here hx rfl (hb hby hd) hl hl' kt
theorem own_goto (w : own_W K B Z n0 h ck cs pc L S) {o : Int} {pc' : Nat} (hd : decode B.bytes pc = .ok (.goto o, 3)) (ho : 0 ≤ (pc : Int) + o) (hp : ((pc : Int) + o).toNat = pc') : own_W K B Z n0 h ck cs pc' L S :=
  own_step w fun X hx _ _ hby _ tg kt => XS.goto X.here hx rfl (pc0 := pc) rfl (hb hby hd) ho hp kt
theorem own_iadd {x : Int32} {y : Int32} (w : own_W K B Z n0 h ck cs pc L (.int y :: .int x :: S)) (hd : decode B.bytes pc = .ok (.iadd, 1)) : own_W K B Z n0 h ck cs (pc + 1) L (.int (x + y) :: S) :=
  own_step w fun X hx _ _ hby _ tg kt => XS.iadd X.here hx rfl (hb hby hd) rfl kt
theorem own_isub {x : Int32} {y : Int32} (w : own_W K B Z n0 h ck cs pc L (.int y :: .int x :: S)) (hd : decode B.bytes pc = .ok (.isub, 1)) : own_W K B Z n0 h ck cs (pc + 1) L (.int (x - y) :: S) :=
  own_step w fun X hx _ _ hby _ tg kt => XS.isub X.here hx rfl (hb hby hd) rfl kt
theorem own_imul {x : Int32} {y : Int32} (w : own_W K B Z n0 h ck cs pc L (.int y :: .int x :: S)) (hd : decode B.bytes pc = .ok (.imul, 1)) : own_W K B Z n0 h ck cs (pc + 1) L (.int (x * y) :: S) :=
  own_step w fun X hx _ _ hby _ tg kt => XS.imul X.here hx rfl (hb hby hd) rfl kt
theorem own_iand {x : Int32} {y : Int32} (w : own_W K B Z n0 h ck cs pc L (.int y :: .int x :: S)) (hd : decode B.bytes pc = .ok (.iand, 1)) : own_W K B Z n0 h ck cs (pc + 1) L (.int (x &&& y) :: S) :=
  own_step w fun X hx _ _ hby _ tg kt => XS.iand X.here hx rfl (hb hby hd) rfl kt
theorem own_ior {x : Int32} {y : Int32} (w : own_W K B Z n0 h ck cs pc L (.int y :: .int x :: S)) (hd : decode B.bytes pc = .ok (.ior, 1)) : own_W K B Z n0 h ck cs (pc + 1) L (.int (x ||| y) :: S) :=
  own_step w fun X hx _ _ hby _ tg kt => XS.ior X.here hx rfl (hb hby hd) rfl kt
theorem own_ixor {x : Int32} {y : Int32} (w : own_W K B Z n0 h ck cs pc L (.int y :: .int x :: S)) (hd : decode B.bytes pc = .ok (.ixor, 1)) : own_W K B Z n0 h ck cs (pc + 1) L (.int (x ^^^ y) :: S) :=
  own_step w fun X hx _ _ hby _ tg kt => XS.ixor X.here hx rfl (hb hby hd) rfl kt
theorem own_ishl {x : Int32} {y : Int32} (w : own_W K B Z n0 h ck cs pc L (.int y :: .int x :: S)) (hd : decode B.bytes pc = .ok (.ishl, 1)) : own_W K B Z n0 h ck cs (pc + 1) L (.int (x <<< (y &&& 31)) :: S) :=
  own_step w fun X hx _ _ hby _ tg kt => XS.ishl X.here hx rfl (hb hby hd) rfl kt
theorem own_iushr {x : Int32} {y : Int32} (w : own_W K B Z n0 h ck cs pc L (.int y :: .int x :: S)) (hd : decode B.bytes pc = .ok (.iushr, 1)) : own_W K B Z n0 h ck cs (pc + 1) L (.int (XT.ushr x y) :: S) :=
  own_step w fun X hx _ _ hby _ tg kt => XS.iushr X.here hx rfl (hb hby hd) rfl kt
theorem own_irem {x : Int32} {y : Int32} (w : own_W K B Z n0 h ck cs pc L (.int y :: .int x :: S)) (hd : decode B.bytes pc = .ok (.irem, 1)) (hy : y ≠ 0) : own_W K B Z n0 h ck cs (pc + 1) L (.int (x % y) :: S) :=
  own_step w fun X hx _ _ hby _ tg kt => iremM X hx rfl (hb hby hd) rfl hy kt
theorem own_ladd {x : Int64} {y : Int64} (w : own_W K B Z n0 h ck cs pc L (.long y :: .long x :: S)) (hd : decode B.bytes pc = .ok (.ladd, 1)) : own_W K B Z n0 h ck cs (pc + 1) L (.long (x + y) :: S) :=
  own_step w fun X hx _ _ hby _ tg kt => XS.ladd X.here hx rfl (hb hby hd) rfl kt
theorem own_lsub {x : Int64} {y : Int64} (w : own_W K B Z n0 h ck cs pc L (.long y :: .long x :: S)) (hd : decode B.bytes pc = .ok (.lsub, 1)) : own_W K B Z n0 h ck cs (pc + 1) L (.long (x - y) :: S) :=
  own_step w fun X hx _ _ hby _ tg kt => XS.lsub X.here hx rfl (hb hby hd) rfl kt
theorem own_land {x : Int64} {y : Int64} (w : own_W K B Z n0 h ck cs pc L (.long y :: .long x :: S)) (hd : decode B.bytes pc = .ok (.land, 1)) : own_W K B Z n0 h ck cs (pc + 1) L (.long (x &&& y) :: S) :=
  own_step w fun X hx _ _ hby _ tg kt => XS.land X.here hx rfl (hb hby hd) rfl kt
theorem own_lrem {x : Int64} {y : Int64} (w : own_W K B Z n0 h ck cs pc L (.long y :: .long x :: S)) (hd : decode B.bytes pc = .ok (.lrem, 1)) (hy : y ≠ 0) : own_W K B Z n0 h ck cs (pc + 1) L (.long (x - (x / y) * y) :: S) :=
  own_step w fun X hx _ _ hby _ tg kt => XS.lrem X.here hx rfl (hb hby hd) rfl hy kt
theorem own_lushr {x : Int64} {y : Int32} (w : own_W K B Z n0 h ck cs pc L (.int y :: .long x :: S)) (hd : decode B.bytes pc = .ok (.lushr, 1)) : own_W K B Z n0 h ck cs (pc + 1) L (.long (XT.ushrL x y) :: S) :=
  own_step w fun X hx _ _ hby _ tg kt => XT.lushr X.here hx rfl (hb hby hd) rfl kt
theorem own_i2l {x : Int32} (w : own_W K B Z n0 h ck cs pc L (.int x :: S)) (hd : decode B.bytes pc = .ok (.i2l, 1)) : own_W K B Z n0 h ck cs (pc + 1) L (.long (x.toInt64) :: S) :=
  own_step w fun X hx _ _ hby _ tg kt => XS.i2l X.here hx rfl (hb hby hd) rfl kt
theorem own_l2i {x : Int64} (w : own_W K B Z n0 h ck cs pc L (.long x :: S)) (hd : decode B.bytes pc = .ok (.l2i, 1)) : own_W K B Z n0 h ck cs (pc + 1) L (.int (x.toInt32) :: S) :=
  own_step w fun X hx _ _ hby _ tg kt => XS.l2i X.here hx rfl (hb hby hd) rfl kt
theorem own_i2b {x : Int32} (w : own_W K B Z n0 h ck cs pc L (.int x :: S)) (hd : decode B.bytes pc = .ok (.i2b, 1)) : own_W K B Z n0 h ck cs (pc + 1) L (.int (x.toInt8.toInt32) :: S) :=
  own_step w fun X hx _ _ hby _ tg kt => XS.i2b X.here hx rfl (hb hby hd) rfl kt
theorem own_i2c {x : Int32} (w : own_W K B Z n0 h ck cs pc L (.int x :: S)) (hd : decode B.bytes pc = .ok (.i2c, 1)) : own_W K B Z n0 h ck cs (pc + 1) L (.int (x.toUInt32.toUInt16.toUInt32.toInt32) :: S) :=
  own_step w fun X hx _ _ hby _ tg kt => XS.i2c X.here hx rfl (hb hby hd) rfl kt
/-- what a comparison asks of two Ints, and its contrary -/
def own_cd : ClassFile.Cond → Int → Int → Prop
  | .eq, a, b => a = b
  | .ne, a, b => ¬ a = b
  | .lt, a, b => a < b
  | .ge, a, b => ¬ a < b
  | .gt, a, b => b < a
  | .le, a, b => ¬ b < a
def own_cn : ClassFile.Cond → Int → Int → Prop
  | .eq, a, b => ¬ a = b
  | .ne, a, b => a = b
  | .lt, a, b => ¬ a < b
  | .ge, a, b => a < b
  | .gt, a, b => ¬ b < a
  | .le, a, b => b < a
theorem own_yes {x y : Int32} {a b : Int} {cd : ClassFile.Cond} (hx : x.toInt = a) (hy : y.toInt = b) (hc : own_cd cd a b) : if_icmp.holds cd x y = true := by
  subst hx hy
  cases cd with
  | eq => exact (teq (Int32.toInt_inj.mp hc)).1
  | ne => exact (feq (fun q => hc (congrArg _ q))).2
  | lt => exact (tlt (Int32.lt_iff_toInt_lt.mpr hc)).1
  | ge => exact (flt (fun q => hc (Int32.lt_iff_toInt_lt.mp q))).2.1
  | gt => exact (tlt (Int32.lt_iff_toInt_lt.mpr hc)).2.2.1
  | le => exact (flt (fun q => hc (Int32.lt_iff_toInt_lt.mp q))).2.2.2
theorem own_no {x y : Int32} {a b : Int} {cd : ClassFile.Cond} (hx : x.toInt = a) (hy : y.toInt = b) (hc : own_cn cd a b) : if_icmp.holds cd x y = false := by
  subst hx hy
  cases cd with
  | eq => exact (feq (fun q => hc (congrArg _ q))).1
  | ne => exact (teq (Int32.toInt_inj.mp hc)).2
  | lt => exact (flt (fun q => hc (Int32.lt_iff_toInt_lt.mp q))).1
  | ge => exact (tlt (Int32.lt_iff_toInt_lt.mpr hc)).2.1
  | gt => exact (flt (fun q => hc (Int32.lt_iff_toInt_lt.mp q))).2.2.1
  | le => exact (tlt (Int32.lt_iff_toInt_lt.mpr hc)).2.2.2
theorem own_icmpY {x y : Int32} (w : own_W K B Z n0 h ck cs pc L (.int y :: .int x :: S)) {cd : ClassFile.Cond} {o : Int} {pc' : Nat} (hd : decode B.bytes pc = .ok (.if_icmp cd o, 3)) {a b : Int} (hx : x.toInt = a) (hy : y.toInt = b) (hc : own_cd cd a b) (ho : 0 ≤ (pc : Int) + o) (hp : ((pc : Int) + o).toNat = pc') : own_W K B Z n0 h ck cs pc' L S :=
  own_step w fun X hx' _ _ hby _ tg kt => XS.icmpYes X.here hx' rfl (pc0 := pc) rfl (hb hby hd) rfl (own_yes hx hy hc) ho hp kt
theorem own_icmpN {x y : Int32} (w : own_W K B Z n0 h ck cs pc L (.int y :: .int x :: S)) {cd : ClassFile.Cond} {o : Int} (hd : decode B.bytes pc = .ok (.if_icmp cd o, 3)) {a b : Int} (hx : x.toInt = a) (hy : y.toInt = b) (hc : own_cn cd a b) : own_W K B Z n0 h ck cs (pc + 3) L S :=
  own_step w fun X hx' _ _ hby _ tg kt => XS.icmpNo X.here hx' rfl (hb hby hd) rfl (own_no hx hy hc) kt
theorem own_ifY {x : Int32} (w : own_W K B Z n0 h ck cs pc L (.int x :: S)) {cd : ClassFile.Cond} {o : Int} {pc' : Nat} (hd : decode B.bytes pc = .ok (.ifCond cd o, 3)) {a : Int} (hx : x.toInt = a) (hc : own_cd cd a 0) (ho : 0 ≤ (pc : Int) + o) (hp : ((pc : Int) + o).toNat = pc') : own_W K B Z n0 h ck cs pc' L S :=
  own_step w fun X hx' _ _ hby _ tg kt => XS.ifYes X.here hx' rfl (pc0 := pc) rfl (hb hby hd) rfl ((if0 _ _).trans (own_yes (y := 0) hx rfl hc)) ho hp kt
theorem own_ifN {x : Int32} (w : own_W K B Z n0 h ck cs pc L (.int x :: S)) {cd : ClassFile.Cond} {o : Int} (hd : decode B.bytes pc = .ok (.ifCond cd o, 3)) {a : Int} (hx : x.toInt = a) (hc : own_cn cd a 0) : own_W K B Z n0 h ck cs (pc + 3) L S :=
  own_step w fun X hx' _ _ hby _ tg kt => XS.ifNo X.here hx' rfl (hb hby hd) rfl ((if0 _ _).trans (own_no (y := 0) hx rfl hc)) kt
theorem own_end {v : Option Value} {Q : Option Value → Heap → Prop} {gk gs : Nat} (w : own_W K B Z n0 h ck cs pc L S) (hv : B.ret = none → v = none) (hQ : Q v h) (hk : ck ≤ gk) (hs : cs ≤ gs)
    (st : ∀ {p : Program} {l : Launch} {e : Env} {s : State} {m : MethodId} {args : Array Value} {below : List Frame} {meth : Method} {c : Code} {T : State} {locs : List Loc} {fs : List Frame}, Stand p l e B.rm s m args below meth c T locs ck cs → p.tables.exec = Jvm.exec → meth.sig.returnType = B.ret → c.code = B.bytes →
      (∀ (f : JFrame) (acts : List Action), f.method = m → f.locked = none → f.entered = [] → (doReturn e (T.setTop f) acts v).1 = T.setFrames fs) → Steps p.tables e below (T.setTop (mkF m pc L S)) (T.setFrames fs)) : own_G K n0 gk gs Q := by
  obtain ⟨p, l, e, s, m, args, below, meth, c, start⟩ := K
  obtain ⟨hx, hZ, hown, hnm, hby, hml, hret, hlk, hn, T, locs, X, eT, N, pre⟩ := w
  obtain ⟨fs, hr, hrun, hended, hW, hsame⟩ := X.leave (v := v) (fun q => hv (hret.symm.trans q)) hlk
  refine ⟨_, _, pre _ (st X hx hret hby hr), hrun, hended, v, locs, rfl, ⟨?_, N, ?_⟩, ⟨_, rfl⟩, hW, hsame.mono hk hs⟩
  · show Q v T.heap
    rw [eT]; exact hQ
  · show n0 ≤ T.heap.size
    rw [eT]; exact hn
theorem own_retZ {z : Int32} {t : FieldType} {Q : Option Value → Heap → Prop} {gk gs : Nat} (w : own_W K B Z n0 h ck cs pc L (.int z :: S)) (hd : decode B.bytes pc = .ok (.ireturn, 1)) (hret : B.ret = some t) (ht : t = .boolean ∨ t = .byte ∨ t = .char ∨ t = .short) (hQ : Q (some (.int (nar t z))) h) (hk : ck ≤ gk) (hs : cs ≤ gs) : own_G K n0 gk gs Q :=
  own_end w (fun q => by rw [hret] at q; cases q) hQ hk hs fun X hx hr hby hl => retN X hx (hr.trans hret) ht (hb hby hd) hl
theorem own_retI {z : Int32} {Q : Option Value → Heap → Prop} {gk gs : Nat} (w : own_W K B Z n0 h ck cs pc L (.int z :: S)) (hd : decode B.bytes pc = .ok (.ireturn, 1)) (hret : B.ret = some .int) (hQ : Q (some (.int z)) h) (hk : ck ≤ gk) (hs : cs ≤ gs) : own_G K n0 gk gs Q :=
  own_end w (fun q => by rw [hret] at q; cases q) hQ hk hs fun X hx hr hby hl => retI X hx (hr.trans hret) (hb hby hd) hl
theorem own_retV {Q : Option Value → Heap → Prop} {gk gs : Nat} (w : own_W K B Z n0 h ck cs pc L []) (hd : decode B.bytes pc = .ok (.return_, 1)) (hret : B.ret = none) (hQ : Q none h) (hk : ck ≤ gk) (hs : cs ≤ gs) : own_G K n0 gk gs Q :=
  own_end w (fun _ => rfl) hQ hk hs fun X hx hr hby hl => X.returnOut hx (hr.trans hret) (hb hby hd) hl
theorem own_wk {Q Q' : Option Value → Heap → Prop} {gk gs : Nat} (g : own_G K n0 gk gs Q) (q : ∀ v h', Q v h' → Q' v h') : own_G K n0 gk gs Q' := by
  obtain ⟨p, l, e, s, m, args, below, meth, c, start⟩ := K
  obtain ⟨s₂, o, h1, h2, h3, v, L, h4, ⟨h5, h6⟩, h7⟩ := g
  exact ⟨s₂, o, h1, h2, h3, v, L, h4, ⟨q _ _ h5, h6⟩, h7⟩
/-- a static call, by the callee's contract -/
theorem own_callS {By : OwnB} {idx : Nat} {stk rest : List Value} {ps : List FieldType} {r : Option FieldType} {Q : Option Value → Heap → Prop} (as : List Value) (w : own_W K B Z n0 h ck cs pc L stk) (hS : stk = as.reverse ++ rest) (hd : decode B.bytes pc = .ok (.invokestatic idx, 3))
    (w1 : (Jvm.Cond.methodLink B.y.cls idx By.y).before a0 Z = true) (w2 : (Jvm.Cond.static By.y).before a0 Z = true) (w3 : (Jvm.Cond.initialized By.y.cls).before a0 Z = true) (w4 : (Jvm.Cond.code By.y By.bytes By.ml By.ret).before a0 Z = true)
    (hM : ∀ l, own_M l Z n0 By as.toArray h Q) (hy : By.y.cls ≠ "java/lang/invoke/MethodHandle" ∧ By.y.cls ≠ "java/lang/invoke/VarHandle") (hp : parseMethodDescriptor By.y.desc = some ⟨ps, r⟩) (hl : as.length = ps.length) (hsz : L.size = B.ml)
    (hf : By.rm.frames + 1 ≤ B.rm.frames) (hlo : (rest.map fun v => v.category).sum + (By.ml + 11) + By.rm.locals ≤ B.rm.locals) (hc : ck + By.rm.cells ≤ B.rm.cells) (hs : cs + By.rm.slots ≤ B.rm.slots) :
    ∃ v h', Q v h' ∧ own_W K B Z n0 h' (ck + By.rm.cells) (cs + By.rm.slots) (pc + 3) L (v.toList ++ rest) := by
  obtain ⟨p, l, e, s, m, args, below, meth, c, start⟩ := K
  obtain ⟨hx, hZ, hown, hnm, hby, hml, hret, hlk, hn, T, locs, X, eT, N, pre⟩ := w
  obtain ⟨v, _, ⟨T', L', k', n'⟩, -, X', ⟨Lc, hQ, l', y', z'⟩, st⟩ := Jvm.LawKit.callS X hx (y := By.y) hown (mvT hZ w1) (mvT hZ w2) (mvT hZ w3) (mvT hZ w4) hy (backOf (W := (rest.map fun v => v.category).sum) (Q := fun v h' L => Q v h' ∧ Fr n0 L ∧ n0 ≤ h'.size) (hM l []) hZ w4 w3 hf hlo) (g := mkF m pc L stk) rfl (by rw [hml]; exact hsz) (argsL := as) (rest := rest) (lenOf hp hl) hS (by show 2 * 0 + _ ≤ _; exact Nat.le_of_eq (by simp)) (hb hby hd) (fun _ _ => ⟨rfl, eT, hc, hs⟩)
  dsimp only [Pt.U, Pt.locs, Pt.cells, Pt.slots] at X' l' y' z' st hQ
  subst l' y' z'
  exact ⟨v, T'.heap, hQ.1, hx, hZ, hown, hnm, hby, hml, hret, hlk, hQ.2.2, T', _, X', rfl, N.app hQ.2.1, fun tg k => pre tg (st tg k)⟩
/-- a constructor, by its contract -/
theorem own_callI {By : OwnB} {idx : Nat} {stk rest : List Value} {ps : List FieldType} {r : Option FieldType} {Q : Option Value → Heap → Prop} (a : Addr) (as : List Value) (w : own_W K B Z n0 h ck cs pc L stk) (hS : stk = as.reverse ++ .ref a :: rest) (hd : decode B.bytes pc = .ok (.invokespecial idx, 3)) (hni : By.y.name = "<init>") (hnr : By.ret = none)
    (w1 : (Jvm.Cond.methodLink B.y.cls idx By.y).before a0 Z = true) (w2 : (Jvm.Cond.instanceMethod By.y).before a0 Z = true) (w3 : (Jvm.Cond.initialized By.y.cls).before a0 Z = true) (w4 : (Jvm.Cond.code By.y By.bytes By.ml By.ret).before a0 Z = true)
    (hM : ∀ l, own_M l Z n0 By (.ref a :: as).toArray h Q) (hy : By.y.cls ≠ "java/lang/invoke/MethodHandle" ∧ By.y.cls ≠ "java/lang/invoke/VarHandle") (hp : parseMethodDescriptor By.y.desc = some ⟨ps, r⟩) (hl : as.length = ps.length) (hsz : L.size = B.ml)
    (hf : By.rm.frames + 1 ≤ B.rm.frames) (hlo : (rest.map fun v => v.category).sum + (By.ml + 11) + By.rm.locals ≤ B.rm.locals) (hc : ck + By.rm.cells ≤ B.rm.cells) (hs : cs + By.rm.slots ≤ B.rm.slots) :
    ∃ v h', Q v h' ∧ own_W K B Z n0 h' (ck + By.rm.cells) (cs + By.rm.slots) (pc + 3) L (v.toList ++ rest) := by
  obtain ⟨p, l, e, s, m, args, below, meth, c, start⟩ := K
  obtain ⟨hx, hZ, hown, hnm, hby, hml, hret, hlk, hn, T, locs, X, eT, N, pre⟩ := w
  obtain ⟨v, _, ⟨T', L', k', n'⟩, -, X', ⟨Lc, hQ, l', y', z'⟩, st⟩ := X.specialBack hx (y := By.y) hni hown (mvT hZ w1) (mvT hZ w2) (mvT hZ (hnr ▸ w4)) hy (backOf (W := (rest.map fun v => v.category).sum) (Q := fun v h' L => Q v h' ∧ Fr n0 L ∧ n0 ≤ h'.size) (hM l []) hZ w4 w3 hf hlo) (g := mkF m pc L stk) rfl (by rw [hml]; exact hsz) (Steps.refl _) (a := a) (argsL := as) (rest := rest) (lenOf hp hl) hS (by show 2 * 0 + _ ≤ _; exact Nat.le_of_eq (by simp)) (hb hby hd) (fun _ _ => ⟨rfl, eT, hc, hs⟩)
  dsimp only [Pt.U, Pt.locs, Pt.cells, Pt.slots] at X' l' y' z' st hQ
  subst l' y' z'
  exact ⟨v, T'.heap, hQ.1, hx, hZ, hown, hnm, hby, hml, hret, hlk, hQ.2.2, T', _, X', rfl, N.app hQ.2.1, fun tg k => pre tg (st.trans k)⟩
/-- a nest mate's constructor, by its contract -/
theorem own_callN {By : OwnB} {host : String} {idx : Nat} {stk rest : List Value} {ps : List FieldType} {r : Option FieldType} {Q : Option Value → Heap → Prop} (a : Addr) (as : List Value) (w : own_W K B Z n0 h ck cs pc L stk) (hS : stk = as.reverse ++ .ref a :: rest) (hd : decode B.bytes pc = .ok (.invokespecial idx, 3)) (hni : By.y.name = "<init>") (hnr : By.ret = none)
    (w1 : (Jvm.Cond.methodLinkNest B.y.cls idx By.y host).before a0 Z = true) (w2 : (Jvm.Cond.instanceMethod By.y).before a0 Z = true) (w3 : (Jvm.Cond.initialized By.y.cls).before a0 Z = true) (w4 : (Jvm.Cond.code By.y By.bytes By.ml By.ret).before a0 Z = true)
    (hM : ∀ l, own_M l Z n0 By (.ref a :: as).toArray h Q) (hy : By.y.cls ≠ "java/lang/invoke/MethodHandle" ∧ By.y.cls ≠ "java/lang/invoke/VarHandle") (hp : parseMethodDescriptor By.y.desc = some ⟨ps, r⟩) (hl : as.length = ps.length) (hsz : L.size = B.ml)
    (hf : By.rm.frames + 1 ≤ B.rm.frames) (hlo : (rest.map fun v => v.category).sum + (By.ml + 11) + By.rm.locals ≤ B.rm.locals) (hc : ck + By.rm.cells ≤ B.rm.cells) (hs : cs + By.rm.slots ≤ B.rm.slots) :
    ∃ v h', Q v h' ∧ own_W K B Z n0 h' (ck + By.rm.cells) (cs + By.rm.slots) (pc + 3) L (v.toList ++ rest) := by
  obtain ⟨p, l, e, s, m, args, below, meth, c, start⟩ := K
  obtain ⟨hx, hZ, hown, hnm, hby, hml, hret, hlk, hn, T, locs, X, eT, N, pre⟩ := w
  obtain ⟨v, _, ⟨T', L', k', n'⟩, -, X', ⟨Lc, hQ, l', y', z'⟩, st⟩ := X.specialBackNest hx (y := By.y) (host := host) hni hown (Cond.methodLinkNest_wide hZ w1 :) (mvT hZ w2) (mvT hZ (hnr ▸ w4)) hy (backOf (W := (rest.map fun v => v.category).sum) (Q := fun v h' L => Q v h' ∧ Fr n0 L ∧ n0 ≤ h'.size) (hM l []) hZ w4 w3 hf hlo) (g := mkF m pc L stk) rfl (by rw [hml]; exact hsz) (Steps.refl _) (a := a) (argsL := as) (rest := rest) (lenOf hp hl) hS (by show 2 * 0 + _ ≤ _; exact Nat.le_of_eq (by simp)) (hb hby hd) (fun _ _ => ⟨rfl, eT, hc, hs⟩)
  dsimp only [Pt.U, Pt.locs, Pt.cells, Pt.slots] at X' l' y' z' st hQ
  subst l' y' z'
  exact ⟨v, T'.heap, hQ.1, hx, hZ, hown, hnm, hby, hml, hret, hlk, hQ.2.2, T', _, X', rfl, N.app hQ.2.1, fun tg k => pre tg (st.trans k)⟩
/-- an instance method of the object's own class, by its contract -/
theorem own_callV {By : OwnB} {idx : Nat} {stk rest : List Value} {ps : List FieldType} {r : Option FieldType} {Q : Option Value → Heap → Prop} (a : Addr) (as : List Value) (w : own_W K B Z n0 h ck cs pc L stk) (hS : stk = as.reverse ++ .ref a :: rest) (hd : decode B.bytes pc = .ok (.invokevirtual idx, 3)) (E : Exa Z h a By.y.cls)
    (w1 : (Jvm.Cond.methodLink B.y.cls idx By.y).before a0 Z = true) (wd : (Jvm.Cond.declares By.y).before a0 Z = true) (w2 : (Jvm.Cond.instanceMethod By.y).before a0 Z = true) (wsel : (Jvm.Cond.selects By.y.cls By.y By.y).before a0 Z = true) (w3 : (Jvm.Cond.initialized By.y.cls).before a0 Z = true) (w4 : (Jvm.Cond.code By.y By.bytes By.ml By.ret).before a0 Z = true)
    (hM : ∀ l, own_M l Z n0 By (.ref a :: as).toArray h Q) (hy : By.y.cls ≠ "java/lang/invoke/MethodHandle" ∧ By.y.cls ≠ "java/lang/invoke/VarHandle") (hp : parseMethodDescriptor By.y.desc = some ⟨ps, r⟩) (hl : as.length = ps.length) (hsz : L.size = B.ml)
    (hf : By.rm.frames + 1 ≤ B.rm.frames) (hlo : (rest.map fun v => v.category).sum + (By.ml + 11) + By.rm.locals ≤ B.rm.locals) (hc : ck + By.rm.cells ≤ B.rm.cells) (hs : cs + By.rm.slots ≤ B.rm.slots) :
    ∃ v h', Q v h' ∧ own_W K B Z n0 h' (ck + By.rm.cells) (cs + By.rm.slots) (pc + 3) L (v.toList ++ rest) := by
  obtain ⟨p, l, e, s, m, args, below, meth, c, start⟩ := K
  obtain ⟨hx, hZ, hown, hnm, hby, hml, hret, hlk, hn, T, locs, X, eT, N, pre⟩ := w
  obtain ⟨cq, kq, q1, q2, q3⟩ := isOf hZ eT E
  obtain ⟨v, _, ⟨T', L', k', n'⟩, -, X', ⟨Lc, hQ, l', y', z'⟩, st⟩ := X.virtualBack hx (y := By.y) (z := By.y) hown (mvT hZ w1) (mvT hZ wd) (notFace_of_selects (args := #[]) (mvT hZ wsel)) (mvT hZ wsel) (mvT hZ w2) hy (backOf (W := (rest.map fun v => v.category).sum) (Q := fun v h' L => Q v h' ∧ Fr n0 L ∧ n0 ≤ h'.size) (hM l []) hZ w4 w3 hf hlo) q1 q3 (g := mkF m pc L stk) rfl (by rw [hml]; exact hsz) (Steps.refl _) (argsL := as) (rest := rest) (lenOf hp hl) hS (by show 2 * 0 + _ ≤ _; exact Nat.le_of_eq (by simp)) (hb hby hd) (fun _ _ => ⟨rfl, eT, hc, hs⟩)
  dsimp only [Pt.U, Pt.locs, Pt.cells, Pt.slots] at X' l' y' z' st hQ
  subst l' y' z'
  exact ⟨v, T'.heap, hQ.1, hx, hZ, hown, hnm, hby, hml, hret, hlk, hQ.2.2, T', _, X', rfl, N.app hQ.2.1, fun tg k => pre tg (st.trans k)⟩
/-- Object.<init> -/
theorem own_initO {a : Addr} {idx : Nat} (w : own_W K B Z n0 h ck cs pc L (.ref a :: S)) (hd : decode B.bytes pc = .ok (.invokespecial idx, 3)) (w1 : (Jvm.Cond.methodLink B.y.cls idx Lib.objectInit).before a0 Z = true) (w2 : (Jvm.Cond.instanceMethod Lib.objectInit).before a0 Z = true)
    (w3 : (Jvm.Cond.code Lib.objectInit ⟨#[0xb1]⟩ 1 none).before a0 Z = true) (hsz : L.size = B.ml) (hf : 1 ≤ B.rm.frames) (hlo : (S.map fun v => v.category).sum + 12 ≤ B.rm.locals) : own_W K B Z n0 h ck cs (pc + 3) L S := by
  obtain ⟨p, l, e, s, m, args, below, meth, c, start⟩ := K
  obtain ⟨hx, hZ, hown, hnm, hby, hml, hret, hlk, hn, T, locs, X, eT, N, pre⟩ := w
  obtain ⟨T', X', e', st⟩ := initO X hx hZ hown w1 w2 w3 eT (g := mkF m pc L (.ref a :: S)) rfl (by rw [hml]; exact hsz) rfl (hb hby hd) hf (W := (S.map fun v => v.category).sum) (by show 2 * 0 + _ ≤ _; exact Nat.le_of_eq (by simp)) hlo
  exact ⟨hx, hZ, hown, hnm, hby, hml, hret, hlk, hn, T', locs, X', e', N, fun tg k => pre tg (st tg k)⟩
theorem own_getF {a : Addr} {idx : Nat} {O n d : String} {v : Value} (w : own_W K B Z n0 h ck cs pc L (.ref a :: S)) (hd : decode B.bytes pc = .ok (.getfield idx, 3)) (wl : (Jvm.Cond.fieldLink B.y.cls idx O n d).before a0 Z = true) (F : Fld Z h a O n d v) : own_W K B Z n0 h ck cs (pc + 3) L (v :: S) := by
  obtain ⟨p, l, e, s, m, args, below, meth, c, start⟩ := K
  obtain ⟨hx, hZ, hown, hnm, hby, hml, hret, hlk, hn, T, locs, X, eT, N, pre⟩ := w
  obtain ⟨T', X', e', st⟩ := getF X hx hZ hown (host := "") (Or.inl wl) Via.refl eT F (g := mkF m pc L (.ref a :: S)) rfl rfl (hb hby hd)
  exact ⟨hx, hZ, hown, hnm, hby, hml, hret, hlk, hn, T', locs, X', e', N, fun tg k => pre tg (st tg k)⟩
/-- putfield of a final field in a constructor of its class -/
theorem own_putF {a : Addr} {idx kk : Nat} {n d : String} {v old : Value} {ty : FieldType} (w : own_W K B Z n0 h ck cs pc L (v :: .ref a :: S)) (hd : decode B.bytes pc = .ok (.putfield idx, 3)) (wl : (Jvm.Cond.fieldLink B.y.cls idx B.y.cls n d).before a0 Z = true) (F : Fld Z h a B.y.cls n d old) (E : Exa Z h a B.y.cls)
    (wf : (Jvm.Cond.laysFinal B.y.cls B.y.cls n d).before a0 Z = true) (wi : (Jvm.Cond.instantiable B.y.cls kk).before a0 Z = true) (hni : B.y.name = "<init>") (hty : parseFieldDescriptor d = some ty) (hnr : narrow ty v = v) (hft : fits ty v = true) (ga : n0 ≤ a) :
    ∃ h', own_W K B Z n0 h' ck cs (pc + 3) L S ∧ Fld Z h' a B.y.cls n d v ∧ Keep h h' [a] := by
  obtain ⟨p, l, e, s, m, args, below, meth, c, start⟩ := K
  obtain ⟨hx, hZ, hown, hnm, hby, hml, hret, hlk, hn, T, locs, X, eT, N, pre⟩ := w
  obtain ⟨T', h', X', e', W', st⟩ := putF X hx hZ hown (host := "") (Or.inl wl) Via.refl eT F E (Or.inr ⟨wf, rfl, hnm.trans hni⟩) wi hty hnr hft (g := mkF m pc L (v :: .ref a :: S)) rfl rfl (hb hby hd)
  exact ⟨h', ⟨hx, hZ, hown, hnm, hby, hml, hret, hlk, by rw [W'.size]; exact hn, T', _, X', e', Fr.snoc X' N ga, fun tg k => pre tg (st tg k)⟩, F.same W', Keep.of_wr W'⟩
theorem own_newO {idx k : Nat} {C : String} (w : own_W K B Z n0 h ck cs pc L S) (hd : decode B.bytes pc = .ok (.new idx, 3)) (wl : (Jvm.Cond.classLink B.y.cls idx C).before a0 Z = true) (wi : (Jvm.Cond.instantiable C k).before a0 Z = true) (wz : (Jvm.Cond.initialized C).before a0 Z = true) (hc : ck + 1 ≤ B.rm.cells) (hs : cs + k ≤ B.rm.slots) :
    ∃ h' a, own_W K B Z n0 h' (ck + 1) (cs + k) (pc + 3) L (.ref a :: S) ∧ a = h.size ∧ n0 ≤ a ∧ Ext h h' ∧ Exa Z h' a C ∧ (∀ {O nm d : String} {ty : FieldType}, Laid Z a0 C O nm d → parseFieldDescriptor d = some ty → Fld Z h' a O nm d (defaultValue ty)) := by
  obtain ⟨p, l, e, s, m, args, below, meth, c, start⟩ := K
  obtain ⟨hx, hZ, hown, hnm, hby, hml, hret, hlk, hn, T, locs, X, eT, N, pre⟩ := w
  obtain ⟨T', h', X', e', E, A, D, -, st⟩ := newO X hx hZ hown wl wi wz eT (g := mkF m pc L S) rfl (hb hby hd) hc hs
  exact ⟨h', h.size, ⟨hx, hZ, hown, hnm, hby, hml, hret, hlk, Nat.le_trans hn E.1, T', _, X', e', N, fun tg k => pre tg (st tg k)⟩, rfl, hn, E, A, D⟩
/-- an array of ints, bytes or chars, and what it holds -/
def own_A (ty : FieldType) (Z : State) (h : Heap) (a : Addr) (l : List Int32) : Prop := ∃ c : Cell, Arr Z h a c ty ∧ c.slots.size = l.length ∧ l.length < 2 ^ 31 ∧ ∀ i, i < l.length → c.slots[i]? = some (.int (l.getD i 0))
def own_J (Z : State) (h : Heap) (a : Addr) (l : List Int64) : Prop := ∃ c : Cell, Arr Z h a c .long ∧ c.slots.size = l.length ∧ l.length < 2 ^ 31 ∧ ∀ i, i < l.length → c.slots[i]? = some (.long (l.getD i 0))
variable {ty : FieldType} {a b : Addr} {l : List Int32} {lj : List Int64} {h' : Heap}
theorem own_Alt (A : own_A ty Z h a l) : a < h.size := by obtain ⟨c, A, -⟩ := A; exact A.lt
theorem own_Jlt (A : own_J Z h a lj) : a < h.size := by obtain ⟨c, A, -⟩ := A; exact A.lt
theorem own_Aext (A : own_A ty Z h a l) (E : Ext h h') : own_A ty Z h' a l := by obtain ⟨c, A, r⟩ := A; exact ⟨c, A.ext E, r⟩
theorem own_Jext (A : own_J Z h a lj) (E : Ext h h') : own_J Z h' a lj := by obtain ⟨c, A, r⟩ := A; exact ⟨c, A.ext E, r⟩
theorem own_Akeep {ws : List Addr} (A : own_A ty Z h a l) (K : Keep h h' ws) (q : a ∉ ws) : own_A ty Z h' a l := by obtain ⟨c, A, r⟩ := A; exact ⟨c, ⟨K.2.1 a c A.1 q, A.2⟩, r⟩
theorem own_Jkeep {ws : List Addr} (A : own_J Z h a lj) (K : Keep h h' ws) (q : a ∉ ws) : own_J Z h' a lj := by obtain ⟨c, A, r⟩ := A; exact ⟨c, ⟨K.2.1 a c A.1 q, A.2⟩, r⟩
theorem own_nin {x y : Addr} (q : x ≠ y) : x ∉ [y] := ninS q nin0
theorem own_clamp {j : Int32} {i : Nat} (e : j.toInt = i) : j.toNatClampNeg = i := by rw [Int32.toNatClampNeg, e]; rfl
theorem own_inb {j : Int32} {i n : Nat} (e : j.toInt = i) (q : i < n) : ¬ (j < 0 ∨ n ≤ j.toNatClampNeg) := by
  rw [own_clamp e, Int32.lt_iff_toInt_lt, e]
  have : (0 : Int32).toInt = 0 := rfl
  omega
theorem own_setD {l : List Int32} {i : Nat} {x : Int32} (k : Nat) (hk : k < l.length) : (l.set i x).getD k 0 = if i = k then x else l.getD k 0 := by
  simp only [List.getD_eq_getElem?_getD, List.getElem?_set]
  split
  · subst_vars; simp [hk]
  · rfl
theorem own_setJ {l : List Int64} {i : Nat} {x : Int64} (k : Nat) (hk : k < l.length) : (l.set i x).getD k 0 = if i = k then x else l.getD k 0 := by
  simp only [List.getD_eq_getElem?_getD, List.getElem?_set]
  split
  · subst_vars; simp [hk]
  · rfl
theorem own_Aset {c : Cell} {i : Nat} {j x : Int32} (A : Arr Z h a c ty) (hs : c.slots.size = l.length) (hb : l.length < 2 ^ 31) (H : ∀ i, i < l.length → c.slots[i]? = some (.int (l.getD i 0))) (W : Wr h h' a j.toNatClampNeg (.int x)) (e : j.toInt = i) (hi : i < l.length) : own_A ty Z h' a (l.set i x) := by
  refine ⟨_, A.same W, by rw [sz_set, List.length_set]; exact hs, by rw [List.length_set]; exact hb, fun k hk => ?_⟩
  rw [List.length_set] at hk
  rw [own_setD k hk, own_clamp e]
  by_cases u : i = k
  · subst u; simp [Cell.setSlot, hs, hk]
  · rw [if_neg u, ← H k hk]
    exact Array.getElem?_setIfInBounds_ne u
theorem own_Jset {c : Cell} {i : Nat} {j : Int32} {x : Int64} (A : Arr Z h a c .long) (hs : c.slots.size = lj.length) (hb : lj.length < 2 ^ 31) (H : ∀ i, i < lj.length → c.slots[i]? = some (.long (lj.getD i 0))) (W : Wr h h' a j.toNatClampNeg (.long x)) (e : j.toInt = i) (hi : i < lj.length) : own_J Z h' a (lj.set i x) := by
  refine ⟨_, A.same W, by rw [sz_set, List.length_set]; exact hs, by rw [List.length_set]; exact hb, fun k hk => ?_⟩
  rw [List.length_set] at hk
  rw [own_setJ k hk, own_clamp e]
  by_cases u : i = k
  · subst u; simp [Cell.setSlot, hs, hk]
  · rw [if_neg u, ← H k hk]
    exact Array.getElem?_setIfInBounds_ne u
theorem own_iastore {j x : Int32} (w : own_W K B Z n0 h ck cs pc L (.int x :: .int j :: .ref a :: S)) (hd : decode B.bytes pc = .ok (.iastore, 1)) (A : own_A .int Z h a l) (i : Nat) (e : j.toInt = i) (hi : i < l.length) (ga : n0 ≤ a) {l' : List Int32} (el : l.set i x = l') :
    ∃ h', own_W K B Z n0 h' ck cs (pc + 1) L S ∧ own_A .int Z h' a l' ∧ Keep h h' [a] := by
  subst el
  obtain ⟨p, l, e', s, m, args, below, meth, c, start⟩ := K
  obtain ⟨hx, hZ, hown, hnm, hby, hml, hret, hlk, hn, T, locs, X, eT, N, pre⟩ := w
  obtain ⟨cl, Ar, hs, hb1, H⟩ := A
  obtain ⟨T', h', X', e1, W', st⟩ := stI X hx hZ eT Ar (j := j) (own_inb e (by rw [hs]; exact hi)) (g := mkF m pc L (.int x :: .int j :: .ref a :: S)) rfl rfl (hb hby hd)
  exact ⟨h', ⟨hx, hZ, hown, hnm, hby, hml, hret, hlk, by rw [W'.size]; exact hn, T', _, X', e1, Fr.snoc X' N ga, fun tg k => pre tg (st tg k)⟩, own_Aset Ar hs hb1 H W' e hi, Keep.of_wr W'⟩
theorem own_bastore {j x : Int32} (w : own_W K B Z n0 h ck cs pc L (.int x :: .int j :: .ref a :: S)) (hd : decode B.bytes pc = .ok (.bastore, 1)) (A : own_A .byte Z h a l) (i : Nat) (e : j.toInt = i) (hi : i < l.length) (ga : n0 ≤ a) {l' : List Int32} (el : l.set i (nar .byte x) = l') :
    ∃ h', own_W K B Z n0 h' ck cs (pc + 1) L S ∧ own_A .byte Z h' a l' ∧ Keep h h' [a] := by
  subst el
  obtain ⟨p, l, e', s, m, args, below, meth, c, start⟩ := K
  obtain ⟨hx, hZ, hown, hnm, hby, hml, hret, hlk, hn, T, locs, X, eT, N, pre⟩ := w
  obtain ⟨cl, Ar, hs, hb1, H⟩ := A
  obtain ⟨T', h', X', e1, W', st⟩ := stB X hx hZ eT Ar (j := j) (own_inb e (by rw [hs]; exact hi)) (g := mkF m pc L (.int x :: .int j :: .ref a :: S)) rfl rfl (hb hby hd)
  exact ⟨h', ⟨hx, hZ, hown, hnm, hby, hml, hret, hlk, by rw [W'.size]; exact hn, T', _, X', e1, Fr.snoc X' N ga, fun tg k => pre tg (st tg k)⟩, own_Aset Ar hs hb1 H W' e hi, Keep.of_wr W'⟩
theorem own_castore {j x : Int32} (w : own_W K B Z n0 h ck cs pc L (.int x :: .int j :: .ref a :: S)) (hd : decode B.bytes pc = .ok (.castore, 1)) (A : own_A .char Z h a l) (i : Nat) (e : j.toInt = i) (hi : i < l.length) (ga : n0 ≤ a) {l' : List Int32} (el : l.set i (nar .char x) = l') :
    ∃ h', own_W K B Z n0 h' ck cs (pc + 1) L S ∧ own_A .char Z h' a l' ∧ Keep h h' [a] := by
  subst el
  obtain ⟨p, l, e', s, m, args, below, meth, c, start⟩ := K
  obtain ⟨hx, hZ, hown, hnm, hby, hml, hret, hlk, hn, T, locs, X, eT, N, pre⟩ := w
  obtain ⟨cl, Ar, hs, hb1, H⟩ := A
  obtain ⟨T', h', X', e1, W', st⟩ := stC X hx hZ eT Ar (j := j) (own_inb e (by rw [hs]; exact hi)) (g := mkF m pc L (.int x :: .int j :: .ref a :: S)) rfl rfl (hb hby hd)
  exact ⟨h', ⟨hx, hZ, hown, hnm, hby, hml, hret, hlk, by rw [W'.size]; exact hn, T', _, X', e1, Fr.snoc X' N ga, fun tg k => pre tg (st tg k)⟩, own_Aset Ar hs hb1 H W' e hi, Keep.of_wr W'⟩
theorem own_lastore {j : Int32} {x : Int64} (w : own_W K B Z n0 h ck cs pc L (.long x :: .int j :: .ref a :: S)) (hd : decode B.bytes pc = .ok (.lastore, 1)) (A : own_J Z h a lj) (i : Nat) (e : j.toInt = i) (hi : i < lj.length) (ga : n0 ≤ a) {l' : List Int64} (el : lj.set i x = l') :
    ∃ h', own_W K B Z n0 h' ck cs (pc + 1) L S ∧ own_J Z h' a l' ∧ Keep h h' [a] := by
  subst el
  obtain ⟨p, l, e', s, m, args, below, meth, c, start⟩ := K
  obtain ⟨hx, hZ, hown, hnm, hby, hml, hret, hlk, hn, T, locs, X, eT, N, pre⟩ := w
  obtain ⟨cl, Ar, hs, hb1, H⟩ := A
  obtain ⟨T', h', X', e1, W', st⟩ := stJ X hx hZ eT Ar (j := j) (own_inb e (by rw [hs]; exact hi)) (g := mkF m pc L (.long x :: .int j :: .ref a :: S)) rfl rfl (hb hby hd)
  exact ⟨h', ⟨hx, hZ, hown, hnm, hby, hml, hret, hlk, by rw [W'.size]; exact hn, T', _, X', e1, Fr.snoc X' N ga, fun tg k => pre tg (st tg k)⟩, own_Jset Ar hs hb1 H W' e hi, Keep.of_wr W'⟩
theorem own_iaload {j : Int32} (w : own_W K B Z n0 h ck cs pc L (.int j :: .ref a :: S)) (hd : decode B.bytes pc = .ok (.iaload, 1)) (A : own_A .int Z h a l) (i : Nat) (e : j.toInt = i) (hi : i < l.length) {v : Int32} (ev : l.getD i 0 = v) : own_W K B Z n0 h ck cs (pc + 1) L (.int v :: S) := by
  obtain ⟨cl, Ar, hs, hb1, H⟩ := A
  exact own_step w fun X hx hZ _ hby eT tg kt => X.iaload hx (cell := cl) (j := j) (v := .int v) (by rw [eT]; exact Ar.1) (State.isArrayOf_alike hZ.alike Ar.2.1) Ar.2.2 (own_inb e (by rw [hs]; exact hi)) (by rw [own_clamp e, H i hi, ev]) (g := mkF _ pc L (.int j :: .ref a :: S)) rfl rfl (hb hby hd) tg kt
theorem own_baload {j : Int32} (w : own_W K B Z n0 h ck cs pc L (.int j :: .ref a :: S)) (hd : decode B.bytes pc = .ok (.baload, 1)) (A : own_A .byte Z h a l) (i : Nat) (e : j.toInt = i) (hi : i < l.length) {v : Int32} (ev : l.getD i 0 = v) : own_W K B Z n0 h ck cs (pc + 1) L (.int v :: S) := by
  obtain ⟨cl, Ar, hs, hb1, H⟩ := A
  exact own_step w fun X hx hZ _ hby eT tg kt => X.baloadBytes hx (cell := cl) (j := j) (v := .int v) (by rw [eT]; exact Ar.1) (State.isArrayOf_alike hZ.alike Ar.2.1) Ar.2.2 (own_inb e (by rw [hs]; exact hi)) (by rw [own_clamp e, H i hi, ev]) (g := mkF _ pc L (.int j :: .ref a :: S)) rfl rfl (hb hby hd) tg kt
theorem own_caload {j : Int32} (w : own_W K B Z n0 h ck cs pc L (.int j :: .ref a :: S)) (hd : decode B.bytes pc = .ok (.caload, 1)) (A : own_A .char Z h a l) (i : Nat) (e : j.toInt = i) (hi : i < l.length) {v : Int32} (ev : l.getD i 0 = v) : own_W K B Z n0 h ck cs (pc + 1) L (.int v :: S) := by
  obtain ⟨cl, Ar, hs, hb1, H⟩ := A
  exact own_step w fun X hx hZ _ hby eT tg kt => X.caload hx (cell := cl) (j := j) (v := .int v) (by rw [eT]; exact Ar.1) (State.isArrayOf_alike hZ.alike Ar.2.1) Ar.2.2 (own_inb e (by rw [hs]; exact hi)) (by rw [own_clamp e, H i hi, ev]) (g := mkF _ pc L (.int j :: .ref a :: S)) rfl rfl (hb hby hd) tg kt
theorem own_laload {j : Int32} (w : own_W K B Z n0 h ck cs pc L (.int j :: .ref a :: S)) (hd : decode B.bytes pc = .ok (.laload, 1)) (A : own_J Z h a lj) (i : Nat) (e : j.toInt = i) (hi : i < lj.length) {v : Int64} (ev : lj.getD i 0 = v) : own_W K B Z n0 h ck cs (pc + 1) L (.long v :: S) := by
  obtain ⟨cl, Ar, hs, hb1, H⟩ := A
  exact own_step w fun X hx hZ _ hby eT tg kt => X.laload hx (cell := cl) (j := j) (v := .long v) (by rw [eT]; exact Ar.1) (State.isArrayOf_alike hZ.alike Ar.2.1) Ar.2.2 (own_inb e (by rw [hs]; exact hi)) (by rw [own_clamp e, H i hi, ev]) (g := mkF _ pc L (.int j :: .ref a :: S)) rfl rfl (hb hby hd) tg kt
theorem own_alen (w : own_W K B Z n0 h ck cs pc L (.ref a :: S)) (hd : decode B.bytes pc = .ok (.arraylength, 1)) (A : own_A ty Z h a l) : own_W K B Z n0 h ck cs (pc + 1) L (.int l.length.toInt32 :: S) := by
  obtain ⟨cl, Ar, hs, hb1, H⟩ := A
  exact own_step w fun X hx hZ _ hby eT tg kt => X.arraylength hx (cell := cl) (by rw [eT]; exact Ar.1) (State.isArrayOf_alike hZ.alike Ar.2.1) (g := mkF _ pc L (.ref a :: S)) rfl rfl (hb hby hd) tg (by rw [hs]; exact kt)
theorem own_alenJ (w : own_W K B Z n0 h ck cs pc L (.ref a :: S)) (hd : decode B.bytes pc = .ok (.arraylength, 1)) (A : own_J Z h a lj) : own_W K B Z n0 h ck cs (pc + 1) L (.int lj.length.toInt32 :: S) := by
  obtain ⟨cl, Ar, hs, hb1, H⟩ := A
  exact own_step w fun X hx hZ _ hby eT tg kt => X.arraylength hx (cell := cl) (by rw [eT]; exact Ar.1) (State.isArrayOf_alike hZ.alike Ar.2.1) (g := mkF _ pc L (.ref a :: S)) rfl rfl (hb hby hd) tg (by rw [hs]; exact kt)
theorem own_newP {aty : ArrayType} {n : Int32} (w : own_W K B Z n0 h ck cs pc L (.int n :: S)) (hd : decode B.bytes pc = .ok (.newarray aty, 2)) (wa : (Jvm.Cond.arrayClass (newarray.typeOf aty)).before a0 Z = true) (k cap : Nat) (e : n.toInt = k) (hk : k ≤ cap) (hcap : cap < 1000) (hc : ck + 1 ≤ B.rm.cells) (hs : cs + cap ≤ B.rm.slots) :
    ∃ h' a cA, own_W K B Z n0 h' (ck + 1) (cs + cap) (pc + 2) L (.ref a :: S) ∧ a = h.size ∧ n0 ≤ a ∧ Ext h h' ∧ Arr Z h' a (newA cA (newarray.typeOf aty) n) (newarray.typeOf aty) := by
  obtain ⟨p, l, e', s, m, args, below, meth, c, start⟩ := K
  obtain ⟨hx, hZ, hown, hnm, hby, hml, hret, hlk, hn, T, locs, X, eT, N, pre⟩ := w
  have q1 : n.toNatClampNeg = k := own_clamp e
  have q2 : ¬ n < 0 := by
    rw [Int32.lt_iff_toInt_lt, e]
    have : (0 : Int32).toInt = 0 := rfl
    omega
  obtain ⟨T', h', cA, X', e1, E, A, st⟩ := newP X hx hZ wa eT (g := mkF m pc L (.int n :: S)) rfl (hb hby hd) rfl q2 (cap := cap) (by rw [q1]; exact hk) (by omega) hc hs
  exact ⟨h', h.size, cA, ⟨hx, hZ, hown, hnm, hby, hml, hret, hlk, Nat.le_trans hn E.1, T', _, X', e1, N, fun tg k => pre tg (st tg k)⟩, rfl, hn, E, A⟩
theorem own_newI {aty : ArrayType} {n : Int32} (w : own_W K B Z n0 h ck cs pc L (.int n :: S)) (hd : decode B.bytes pc = .ok (.newarray aty, 2)) (wa : (Jvm.Cond.arrayClass (newarray.typeOf aty)).before a0 Z = true) (hdf : defaultValue (newarray.typeOf aty) = .int 0) (k cap : Nat) (e : n.toInt = k) (hk : k ≤ cap) (hcap : cap < 1000) (hc : ck + 1 ≤ B.rm.cells) (hs : cs + cap ≤ B.rm.slots) {l' : List Int32} (el : List.replicate k 0 = l') :
    ∃ h' a, own_W K B Z n0 h' (ck + 1) (cs + cap) (pc + 2) L (.ref a :: S) ∧ a = h.size ∧ n0 ≤ a ∧ Ext h h' ∧ own_A (newarray.typeOf aty) Z h' a l' := by
  subst el
  obtain ⟨h', a, cA, w', e1, g, E, A⟩ := own_newP w hd wa k cap e hk hcap hc hs
  have q1 : n.toNatClampNeg = k := own_clamp e
  refine ⟨h', a, w', e1, g, E, _, A, by rw [sz_new, q1, List.length_replicate], by rw [List.length_replicate]; omega, fun i hi => ?_⟩
  rw [List.length_replicate] at hi
  simp [newA, q1, hi, hdf, List.getD_eq_getElem?_getD]
theorem own_newJ {n : Int32} (w : own_W K B Z n0 h ck cs pc L (.int n :: S)) (hd : decode B.bytes pc = .ok (.newarray .long, 2)) (wa : (Jvm.Cond.arrayClass .long).before a0 Z = true) (k cap : Nat) (e : n.toInt = k) (hk : k ≤ cap) (hcap : cap < 1000) (hc : ck + 1 ≤ B.rm.cells) (hs : cs + cap ≤ B.rm.slots) {l' : List Int64} (el : List.replicate k 0 = l') :
    ∃ h' a, own_W K B Z n0 h' (ck + 1) (cs + cap) (pc + 2) L (.ref a :: S) ∧ a = h.size ∧ n0 ≤ a ∧ Ext h h' ∧ own_J Z h' a l' := by
  subst el
  obtain ⟨h', a, cA, w', e1, g, E, A⟩ := own_newP w hd wa k cap e hk hcap hc hs
  have q1 : n.toNatClampNeg = k := own_clamp e
  refine ⟨h', a, w', e1, g, E, _, A, by rw [sz_new, q1, List.length_replicate], by rw [List.length_replicate]; omega, fun i hi => ?_⟩
  rw [List.length_replicate] at hi
  have hdf : defaultValue (newarray.typeOf .long) = .long 0 := rfl
  simp [newA, q1, hi, hdf, List.getD_eq_getElem?_getD]
end Own
theorem own_n1 : nar .boolean 1 = 1 := by decide
theorem own_n0 : nar .boolean 0 = 0 := by decide
theorem d1_0 : decode prog_60_method_3_code 0 = .ok (.iconst 1, 1) := by decide +kernel
theorem d1_1 : decode prog_60_method_3_code 1 = .ok (.istore_n 1, 1) := by decide +kernel
theorem d1_2 : decode prog_60_method_3_code 2 = .ok (.iconst 0, 1) := by decide +kernel
theorem d1_3 : decode prog_60_method_3_code 3 = .ok (.istore_n 2, 1) := by decide +kernel
theorem d1_4 : decode prog_60_method_3_code 4 = .ok (.iload_n 2, 1) := by decide +kernel
theorem d1_5 : decode prog_60_method_3_code 5 = .ok (.aload_n 0, 1) := by decide +kernel
theorem d1_6 : decode prog_60_method_3_code 6 = .ok (.arraylength, 1) := by decide +kernel
theorem d1_7 : decode prog_60_method_3_code 7 = .ok (.if_icmp .ge 26, 3) := by decide +kernel
theorem d1_10 : decode prog_60_method_3_code 10 = .ok (.iload_n 1, 1) := by decide +kernel
theorem d1_11 : decode prog_60_method_3_code 11 = .ok (.ifCond .eq 22, 3) := by decide +kernel
theorem d1_14 : decode prog_60_method_3_code 14 = .ok (.aload_n 0, 1) := by decide +kernel
theorem d1_15 : decode prog_60_method_3_code 15 = .ok (.iload_n 2, 1) := by decide +kernel
theorem d1_16 : decode prog_60_method_3_code 16 = .ok (.iaload, 1) := by decide +kernel
theorem d1_17 : decode prog_60_method_3_code 17 = .ok (.iload_n 2, 1) := by decide +kernel
theorem d1_18 : decode prog_60_method_3_code 18 = .ok (.if_icmp .ne 7, 3) := by decide +kernel
theorem d1_21 : decode prog_60_method_3_code 21 = .ok (.iconst 1, 1) := by decide +kernel
theorem d1_22 : decode prog_60_method_3_code 22 = .ok (.goto 4, 3) := by decide +kernel
theorem d1_25 : decode prog_60_method_3_code 25 = .ok (.iconst 0, 1) := by decide +kernel
theorem d1_26 : decode prog_60_method_3_code 26 = .ok (.istore_n 1, 1) := by decide +kernel
theorem d1_27 : decode prog_60_method_3_code 27 = .ok (.iinc 2 1, 3) := by decide +kernel
theorem d1_30 : decode prog_60_method_3_code 30 = .ok (.goto (-26), 3) := by decide +kernel
theorem d1_33 : decode prog_60_method_3_code 33 = .ok (.iload_n 1, 1) := by decide +kernel
theorem d1_34 : decode prog_60_method_3_code 34 = .ok (.ireturn, 1) := by decide +kernel
abbrev b1 : OwnB := (⟨"com/example/ascanius/ascanius/engine/exec/JoinOrder", "isWritten", "([I)Z"⟩, prog_60_method_3_code, 3, (some .boolean), ({ frames := 0, cells := 0, slots := 0, locals := 0 } : Room))
theorem pn_1 : plainName "com/example/ascanius/ascanius/engine/exec/JoinOrder" = true := by first | (simp [plainName, overriddenIn]; done) | decide +kernel
theorem pd_1 : parseMethodDescriptor "([I)Z" = some ⟨[(.array .int)], (some .boolean)⟩ := by decide +kernel
theorem ef_1 (o0 : Addr) (m : MethodId) : entryFrame m #[(.ref o0)] 3 = mkF m 0 #[.val (.ref o0), .unset, .unset] [] := by first | (simp [entryFrame, mkF, argsToLocals, Value.category, maxLocals]; done) | rfl
/-- what the loop answers when r places are left, from place i on, none having failed -/
def own_t (l : List Int32) : Nat → Nat → Int32
  | 0, _ => 1
  | r + 1, i => if (l.getD i 0).toInt = (i : Int) then own_t l r (i + 1) else 0
theorem own_inc {v : Int32} {i : Nat} (e : v.toInt = i) (q : i < 2 ^ 31 - 1) : (v + (1 : Int32)).toInt = ((i + 1 : Nat) : Int) := by
  have e1 : (1 : Int32).toInt = 1 := by decide
  rw [Jvm.Kit.i32_add (by omega) (by omega), e, e1]; omega
theorem own_h0 {K : OwnK} {Z : State} {n0 : Nat} {h : Heap} {a0 : Array Value} (hw : ∀ d ∈ tables_1, d.before a0 Z = true) (o0 : Addr) (v : Int32) (l : List Int32) (A : own_A .int Z h o0 l) (w : own_W K b1 Z n0 h 0 0 4 #[.val (.ref o0), .val (.int (0 : Int32)), .val (.int v)] []) : own_G K n0 0 0 (fun r h' => r = some (.int 0) ∧ h = h') := by
  replace w : own_W K b1 Z n0 h 0 0 5 #[.val (.ref o0), .val (.int (0 : Int32)), .val (.int v)] [(.int v)] := own_iloadN w d1_4 rfl
  replace w : own_W K b1 Z n0 h 0 0 6 #[.val (.ref o0), .val (.int (0 : Int32)), .val (.int v)] [(.ref o0), (.int v)] := own_aloadN w d1_5 rfl
  replace w : own_W K b1 Z n0 h 0 0 7 #[.val (.ref o0), .val (.int (0 : Int32)), .val (.int v)] [(.int l.length.toInt32), (.int v)] := own_alen w d1_6 A
  by_cases hc : v.toInt < l.length.toInt32.toInt
  · replace w : own_W K b1 Z n0 h 0 0 10 #[.val (.ref o0), .val (.int (0 : Int32)), .val (.int v)] [] := own_icmpN w d1_7 rfl rfl hc
    replace w : own_W K b1 Z n0 h 0 0 11 #[.val (.ref o0), .val (.int (0 : Int32)), .val (.int v)] [(.int (0 : Int32))] := own_iloadN w d1_10 rfl
    replace w : own_W K b1 Z n0 h 0 0 33 #[.val (.ref o0), .val (.int (0 : Int32)), .val (.int v)] [] := own_ifY (a := 0) w d1_11 (by decide) rfl (by decide) (by decide)
    replace w : own_W K b1 Z n0 h 0 0 34 #[.val (.ref o0), .val (.int (0 : Int32)), .val (.int v)] [(.int (0 : Int32))] := own_iloadN w d1_33 rfl
    exact own_retZ w d1_34 rfl (Or.inl rfl) ⟨congrArg (fun z => some (Value.int z)) own_n0, rfl⟩ (Nat.le_refl _) (Nat.le_refl _)
  · replace w : own_W K b1 Z n0 h 0 0 33 #[.val (.ref o0), .val (.int (0 : Int32)), .val (.int v)] [] := own_icmpY w d1_7 rfl rfl hc (by decide) (by decide)
    replace w : own_W K b1 Z n0 h 0 0 34 #[.val (.ref o0), .val (.int (0 : Int32)), .val (.int v)] [(.int (0 : Int32))] := own_iloadN w d1_33 rfl
    exact own_retZ w d1_34 rfl (Or.inl rfl) ⟨congrArg (fun z => some (Value.int z)) own_n0, rfl⟩ (Nat.le_refl _) (Nat.le_refl _)
theorem own_h1 {K : OwnK} {Z : State} {n0 : Nat} {h : Heap} {a0 : Array Value} (hw : ∀ d ∈ tables_1, d.before a0 Z = true) (o0 : Addr) (l : List Int32) (A : own_A .int Z h o0 l) (hl : l.length < 2 ^ 31 - 1) : ∀ (r i : Nat) (v : Int32), v.toInt = i → i + r = l.length → own_W K b1 Z n0 h 0 0 4 #[.val (.ref o0), .val (.int (1 : Int32)), .val (.int v)] [] → own_G K n0 0 0 (fun u h' => u = some (.int (own_t l r i)) ∧ h = h') := by
  have el : l.length.toInt32.toInt = (l.length : Int) := len_toInt (by omega)
  intro r
  induction r with
  | zero =>
    intro i v e hr w
    replace w : own_W K b1 Z n0 h 0 0 5 #[.val (.ref o0), .val (.int (1 : Int32)), .val (.int v)] [(.int v)] := own_iloadN w d1_4 rfl
    replace w : own_W K b1 Z n0 h 0 0 6 #[.val (.ref o0), .val (.int (1 : Int32)), .val (.int v)] [(.ref o0), (.int v)] := own_aloadN w d1_5 rfl
    replace w : own_W K b1 Z n0 h 0 0 7 #[.val (.ref o0), .val (.int (1 : Int32)), .val (.int v)] [(.int l.length.toInt32), (.int v)] := own_alen w d1_6 A
    replace w : own_W K b1 Z n0 h 0 0 33 #[.val (.ref o0), .val (.int (1 : Int32)), .val (.int v)] [] := own_icmpY w d1_7 rfl rfl (by unfold own_cd; rw [e, el]; omega) (by decide) (by decide)
    replace w : own_W K b1 Z n0 h 0 0 34 #[.val (.ref o0), .val (.int (1 : Int32)), .val (.int v)] [(.int (1 : Int32))] := own_iloadN w d1_33 rfl
    exact own_retZ w d1_34 rfl (Or.inl rfl) ⟨congrArg (fun z => some (Value.int z)) own_n1, rfl⟩ (Nat.le_refl _) (Nat.le_refl _)
  | succ r ih =>
    intro i v e hr w
    replace w : own_W K b1 Z n0 h 0 0 5 #[.val (.ref o0), .val (.int (1 : Int32)), .val (.int v)] [(.int v)] := own_iloadN w d1_4 rfl
    replace w : own_W K b1 Z n0 h 0 0 6 #[.val (.ref o0), .val (.int (1 : Int32)), .val (.int v)] [(.ref o0), (.int v)] := own_aloadN w d1_5 rfl
    replace w : own_W K b1 Z n0 h 0 0 7 #[.val (.ref o0), .val (.int (1 : Int32)), .val (.int v)] [(.int l.length.toInt32), (.int v)] := own_alen w d1_6 A
    replace w : own_W K b1 Z n0 h 0 0 10 #[.val (.ref o0), .val (.int (1 : Int32)), .val (.int v)] [] := own_icmpN w d1_7 rfl rfl (by unfold own_cn; rw [e, el]; omega)
    replace w : own_W K b1 Z n0 h 0 0 11 #[.val (.ref o0), .val (.int (1 : Int32)), .val (.int v)] [(.int (1 : Int32))] := own_iloadN w d1_10 rfl
    replace w : own_W K b1 Z n0 h 0 0 14 #[.val (.ref o0), .val (.int (1 : Int32)), .val (.int v)] [] := own_ifN (a := 1) w d1_11 (by decide) (by unfold own_cn; decide)
    replace w : own_W K b1 Z n0 h 0 0 15 #[.val (.ref o0), .val (.int (1 : Int32)), .val (.int v)] [(.ref o0)] := own_aloadN w d1_14 rfl
    replace w : own_W K b1 Z n0 h 0 0 16 #[.val (.ref o0), .val (.int (1 : Int32)), .val (.int v)] [(.int v), (.ref o0)] := own_iloadN w d1_15 rfl
    replace w : own_W K b1 Z n0 h 0 0 17 #[.val (.ref o0), .val (.int (1 : Int32)), .val (.int v)] [(.int (l.getD i 0))] := own_iaload w d1_16 A i e (by omega) rfl
    replace w : own_W K b1 Z n0 h 0 0 18 #[.val (.ref o0), .val (.int (1 : Int32)), .val (.int v)] [(.int v), (.int (l.getD i 0))] := own_iloadN w d1_17 rfl
    by_cases hc : (l.getD i 0).toInt = v.toInt
    · replace w : own_W K b1 Z n0 h 0 0 21 #[.val (.ref o0), .val (.int (1 : Int32)), .val (.int v)] [] := own_icmpN (a := (l.getD i 0).toInt) (b := v.toInt) w d1_18 rfl rfl hc
      rw [show own_t l (r + 1) i = own_t l r (i + 1) from if_pos (by rw [← e]; exact hc)]
      replace w : own_W K b1 Z n0 h 0 0 22 #[.val (.ref o0), .val (.int (1 : Int32)), .val (.int v)] [(.int (1 : Int32))] := own_iconst w d1_21 rfl
      replace w : own_W K b1 Z n0 h 0 0 26 #[.val (.ref o0), .val (.int (1 : Int32)), .val (.int v)] [(.int (1 : Int32))] := own_goto w d1_22 (by decide) (by decide)
      replace w : own_W K b1 Z n0 h 0 0 27 #[.val (.ref o0), .val (.int (1 : Int32)), .val (.int v)] [] := own_istoreN w d1_26 rfl
      replace w : own_W K b1 Z n0 h 0 0 30 #[.val (.ref o0), .val (.int (1 : Int32)), .val (.int (v + (1 : Int32)))] [] := own_iinc w d1_27 rfl rfl rfl
      replace w : own_W K b1 Z n0 h 0 0 4 #[.val (.ref o0), .val (.int (1 : Int32)), .val (.int (v + (1 : Int32)))] [] := own_goto w d1_30 (by decide) (by decide)
      exact ih (i + 1) _ (own_inc e (by omega)) (by omega) w
    · replace w : own_W K b1 Z n0 h 0 0 25 #[.val (.ref o0), .val (.int (1 : Int32)), .val (.int v)] [] := own_icmpY (a := (l.getD i 0).toInt) (b := v.toInt) w d1_18 rfl rfl hc (by decide) (by decide)
      rw [show own_t l (r + 1) i = 0 from if_neg (by rw [← e]; exact hc)]
      replace w : own_W K b1 Z n0 h 0 0 26 #[.val (.ref o0), .val (.int (1 : Int32)), .val (.int v)] [(.int (0 : Int32))] := own_iconst w d1_25 rfl
      replace w : own_W K b1 Z n0 h 0 0 27 #[.val (.ref o0), .val (.int (0 : Int32)), .val (.int v)] [] := own_istoreN w d1_26 rfl
      replace w : own_W K b1 Z n0 h 0 0 30 #[.val (.ref o0), .val (.int (0 : Int32)), .val (.int (v + (1 : Int32)))] [] := own_iinc w d1_27 rfl rfl rfl
      replace w : own_W K b1 Z n0 h 0 0 4 #[.val (.ref o0), .val (.int (0 : Int32)), .val (.int (v + (1 : Int32)))] [] := own_goto w d1_30 (by decide) (by decide)
      exact own_h0 hw o0 _ l A w
theorem rm1 {Z : State} {n0 : Nat} {h : Heap} {a0 : Array Value} (hw : ∀ d ∈ tables_1, d.before a0 Z = true) (o0 : Addr) (l : List Int32) (A : own_A .int Z h o0 l) (hl : l.length < 2 ^ 31 - 1) (hn : n0 ≤ h.size) : ∀ l', own_M l' Z n0 b1 #[(.ref o0)] h (fun v h' => v = some (.int (own_t l l.length 0)) ∧ h = h') := by
  intro l'
  refine own_enter hn pn_1 (ef_1 o0) (fun K w => ?_)
  replace w : own_W K b1 Z n0 h 0 0 1 #[.val (.ref o0), .unset, .unset] [(.int (1 : Int32))] := own_iconst w d1_0 rfl
  replace w : own_W K b1 Z n0 h 0 0 2 #[.val (.ref o0), .val (.int (1 : Int32)), .unset] [] := own_istoreN w d1_1 rfl
  replace w : own_W K b1 Z n0 h 0 0 3 #[.val (.ref o0), .val (.int (1 : Int32)), .unset] [(.int (0 : Int32))] := own_iconst w d1_2 rfl
  replace w : own_W K b1 Z n0 h 0 0 4 #[.val (.ref o0), .val (.int (1 : Int32)), .val (.int (0 : Int32))] [] := own_istoreN w d1_3 rfl
  exact own_h1 hw o0 l A hl l.length 0 _ (by decide) (by omega) w
theorem own_idx (x : Int32) : ∃ k : Nat, k < 5 ∧ ((x &&& (2147483647 : Int32)) % (5 : Int32)).toInt = k := by
  obtain ⟨h1, h2⟩ := Jvm.Kit.i32_and_bounds x (m := 2147483647) (by decide)
  have h0 := Jvm.Kit.i32_nonneg.mp h1
  have h1 : ((x &&& (2147483647 : Int32)) % (5 : Int32)).toInt = (x &&& (2147483647 : Int32)).toInt % 5 := by
    rw [Int32.toInt_mod, Int.tmod_eq_emod_of_nonneg h0]; rfl
  exact ⟨((x &&& (2147483647 : Int32)).toInt % 5).toNat, by omega, by omega⟩
abbrev b0 : OwnB := (x, code, maxLocals, ret, room_1)
theorem pn_0 : plainName "com/example/ascanius/ascanius/engine/exec/JoinOrderIsWrittenPinLaw" = true := by first | (simp [plainName, overriddenIn]; done) | decide +kernel
theorem pd_0 : parseMethodDescriptor "(IIIIII)Z" = some ⟨[.int, .int, .int, .int, .int, .int], (some .boolean)⟩ := by decide +kernel
theorem ef_0 (p0 : Int32) (p1 : Int32) (p2 : Int32) (p3 : Int32) (p4 : Int32) (p5 : Int32) (m : MethodId) : entryFrame m #[(.int p0), (.int p1), (.int p2), (.int p3), (.int p4), (.int p5)] maxLocals = mkF m 0 #[.val (.int p0), .val (.int p1), .val (.int p2), .val (.int p3), .val (.int p4), .val (.int p5), .unset, .unset, .unset, .unset, .unset, .unset, .unset] [] := by first | (simp [entryFrame, mkF, argsToLocals, Value.category, maxLocals]; done) | rfl
set_option maxRecDepth 65536 in
set_option maxHeartbeats 40000000 in
theorem own_law0 {K : OwnK} {Z : State} {n0 : Nat} {h : Heap} {a0 : Array Value} (hw : ∀ d ∈ tables_1, d.before a0 Z = true) (p0 : Int32) (p1 : Int32) (p2 : Int32) (p3 : Int32) (p4 : Int32) (p5 : Int32) (w : own_W K b0 Z n0 h 0 0 0 #[.val (.int p0), .val (.int p1), .val (.int p2), .val (.int p3), .val (.int p4), .val (.int p5), .unset, .unset, .unset, .unset, .unset, .unset, .unset] []) : own_G K n0 b0.rm.cells b0.rm.slots (fun v _ => v = some (.int 1)) := by
  replace w : own_W K b0 Z n0 h 0 0 1 #[.val (.int p0), .val (.int p1), .val (.int p2), .val (.int p3), .val (.int p4), .val (.int p5), .unset, .unset, .unset, .unset, .unset, .unset, .unset] [(.int p0)] := own_iloadN w at_0 rfl
  replace w : own_W K b0 Z n0 h 0 0 3 #[.val (.int p0), .val (.int p1), .val (.int p2), .val (.int p3), .val (.int p4), .val (.int p5), .unset, .unset, .unset, .unset, .unset, .unset, .unset] [(.int (2147483647 : Int32)), (.int p0)] := own_ldc w at_1 (hw _ (List.mem_of_getElem? (i := 0) rfl))
  replace w : own_W K b0 Z n0 h 0 0 4 #[.val (.int p0), .val (.int p1), .val (.int p2), .val (.int p3), .val (.int p4), .val (.int p5), .unset, .unset, .unset, .unset, .unset, .unset, .unset] [(.int (p0 &&& (2147483647 : Int32)))] := own_iand w at_3
  replace w : own_W K b0 Z n0 h 0 0 5 #[.val (.int p0), .val (.int p1), .val (.int p2), .val (.int p3), .val (.int p4), .val (.int p5), .unset, .unset, .unset, .unset, .unset, .unset, .unset] [(.int (5 : Int32)), (.int (p0 &&& (2147483647 : Int32)))] := own_iconst w at_4 rfl
  replace w : own_W K b0 Z n0 h 0 0 6 #[.val (.int p0), .val (.int p1), .val (.int p2), .val (.int p3), .val (.int p4), .val (.int p5), .unset, .unset, .unset, .unset, .unset, .unset, .unset] [(.int ((p0 &&& (2147483647 : Int32)) % (5 : Int32)))] := own_irem w at_5 (by decide)
  have hn := own_size w
  obtain ⟨k, hk, ek⟩ := own_idx p0
  obtain ⟨j, ej⟩ : ∃ z : Int32, z = ((p0 &&& (2147483647 : Int32)) % (5 : Int32)) := ⟨_, rfl⟩
  rw [← ej] at w ek
  replace w : own_W K b0 Z n0 h 0 0 8 #[.val (.int p0), .val (.int p1), .val (.int p2), .val (.int p3), .val (.int p4), .val (.int p5), .val (.int j), .unset, .unset, .unset, .unset, .unset, .unset] [] := own_istore w at_6 rfl
  replace w : own_W K b0 Z n0 h 0 0 9 #[.val (.int p0), .val (.int p1), .val (.int p2), .val (.int p3), .val (.int p4), .val (.int p5), .val (.int j), .unset, .unset, .unset, .unset, .unset, .unset] [(.int p1)] := own_iloadN w at_8 rfl
  replace w : own_W K b0 Z n0 h 0 0 10 #[.val (.int p0), .val (.int p1), .val (.int p2), .val (.int p3), .val (.int p4), .val (.int p5), .val (.int j), .unset, .unset, .unset, .unset, .unset, .unset] [(.int (1 : Int32)), (.int p1)] := own_iconst w at_9 rfl
  replace w : own_W K b0 Z n0 h 0 0 11 #[.val (.int p0), .val (.int p1), .val (.int p2), .val (.int p3), .val (.int p4), .val (.int p5), .val (.int j), .unset, .unset, .unset, .unset, .unset, .unset] [(.int (p1 &&& (1 : Int32)))] := own_iand w at_10
  obtain ⟨x0, w⟩ : ∃ x0 : Int32, own_W K b0 Z n0 h 0 0 19 #[.val (.int p0), .val (.int p1), .val (.int p2), .val (.int p3), .val (.int p4), .val (.int p5), .val (.int j), .unset, .unset, .unset, .unset, .unset, .unset] [(.int x0)] := by
    by_cases hc : (p1 &&& (1 : Int32)).toInt = 0
    · replace w : own_W K b0 Z n0 h 0 0 18 #[.val (.int p0), .val (.int p1), .val (.int p2), .val (.int p3), .val (.int p4), .val (.int p5), .val (.int j), .unset, .unset, .unset, .unset, .unset, .unset] [] := own_ifY (a := (p1 &&& (1 : Int32)).toInt) w at_11 rfl hc (by decide) (by decide)
      replace w : own_W K b0 Z n0 h 0 0 19 #[.val (.int p0), .val (.int p1), .val (.int p2), .val (.int p3), .val (.int p4), .val (.int p5), .val (.int j), .unset, .unset, .unset, .unset, .unset, .unset] [(.int p2)] := own_iloadN w at_18 rfl
      exact ⟨_, w⟩
    · replace w : own_W K b0 Z n0 h 0 0 14 #[.val (.int p0), .val (.int p1), .val (.int p2), .val (.int p3), .val (.int p4), .val (.int p5), .val (.int j), .unset, .unset, .unset, .unset, .unset, .unset] [] := own_ifN (a := (p1 &&& (1 : Int32)).toInt) w at_11 rfl hc
      replace w : own_W K b0 Z n0 h 0 0 15 #[.val (.int p0), .val (.int p1), .val (.int p2), .val (.int p3), .val (.int p4), .val (.int p5), .val (.int j), .unset, .unset, .unset, .unset, .unset, .unset] [(.int (0 : Int32))] := own_iconst w at_14 rfl
      replace w : own_W K b0 Z n0 h 0 0 19 #[.val (.int p0), .val (.int p1), .val (.int p2), .val (.int p3), .val (.int p4), .val (.int p5), .val (.int j), .unset, .unset, .unset, .unset, .unset, .unset] [(.int (0 : Int32))] := own_goto w at_15 (by decide) (by decide)
      exact ⟨_, w⟩
  replace w : own_W K b0 Z n0 h 0 0 21 #[.val (.int p0), .val (.int p1), .val (.int p2), .val (.int p3), .val (.int p4), .val (.int p5), .val (.int j), .val (.int x0), .unset, .unset, .unset, .unset, .unset] [] := own_istore w at_19 rfl
  replace w : own_W K b0 Z n0 h 0 0 22 #[.val (.int p0), .val (.int p1), .val (.int p2), .val (.int p3), .val (.int p4), .val (.int p5), .val (.int j), .val (.int x0), .unset, .unset, .unset, .unset, .unset] [(.int p1)] := own_iloadN w at_21 rfl
  replace w : own_W K b0 Z n0 h 0 0 23 #[.val (.int p0), .val (.int p1), .val (.int p2), .val (.int p3), .val (.int p4), .val (.int p5), .val (.int j), .val (.int x0), .unset, .unset, .unset, .unset, .unset] [(.int (2 : Int32)), (.int p1)] := own_iconst w at_22 rfl
  replace w : own_W K b0 Z n0 h 0 0 24 #[.val (.int p0), .val (.int p1), .val (.int p2), .val (.int p3), .val (.int p4), .val (.int p5), .val (.int j), .val (.int x0), .unset, .unset, .unset, .unset, .unset] [(.int (p1 &&& (2 : Int32)))] := own_iand w at_23
  obtain ⟨x1, w⟩ : ∃ x1 : Int32, own_W K b0 Z n0 h 0 0 32 #[.val (.int p0), .val (.int p1), .val (.int p2), .val (.int p3), .val (.int p4), .val (.int p5), .val (.int j), .val (.int x0), .unset, .unset, .unset, .unset, .unset] [(.int x1)] := by
    by_cases hc : (p1 &&& (2 : Int32)).toInt = 0
    · replace w : own_W K b0 Z n0 h 0 0 31 #[.val (.int p0), .val (.int p1), .val (.int p2), .val (.int p3), .val (.int p4), .val (.int p5), .val (.int j), .val (.int x0), .unset, .unset, .unset, .unset, .unset] [] := own_ifY (a := (p1 &&& (2 : Int32)).toInt) w at_24 rfl hc (by decide) (by decide)
      replace w : own_W K b0 Z n0 h 0 0 32 #[.val (.int p0), .val (.int p1), .val (.int p2), .val (.int p3), .val (.int p4), .val (.int p5), .val (.int j), .val (.int x0), .unset, .unset, .unset, .unset, .unset] [(.int p3)] := own_iloadN w at_31 rfl
      exact ⟨_, w⟩
    · replace w : own_W K b0 Z n0 h 0 0 27 #[.val (.int p0), .val (.int p1), .val (.int p2), .val (.int p3), .val (.int p4), .val (.int p5), .val (.int j), .val (.int x0), .unset, .unset, .unset, .unset, .unset] [] := own_ifN (a := (p1 &&& (2 : Int32)).toInt) w at_24 rfl hc
      replace w : own_W K b0 Z n0 h 0 0 28 #[.val (.int p0), .val (.int p1), .val (.int p2), .val (.int p3), .val (.int p4), .val (.int p5), .val (.int j), .val (.int x0), .unset, .unset, .unset, .unset, .unset] [(.int (1 : Int32))] := own_iconst w at_27 rfl
      replace w : own_W K b0 Z n0 h 0 0 32 #[.val (.int p0), .val (.int p1), .val (.int p2), .val (.int p3), .val (.int p4), .val (.int p5), .val (.int j), .val (.int x0), .unset, .unset, .unset, .unset, .unset] [(.int (1 : Int32))] := own_goto w at_28 (by decide) (by decide)
      exact ⟨_, w⟩
  replace w : own_W K b0 Z n0 h 0 0 34 #[.val (.int p0), .val (.int p1), .val (.int p2), .val (.int p3), .val (.int p4), .val (.int p5), .val (.int j), .val (.int x0), .val (.int x1), .unset, .unset, .unset, .unset] [] := own_istore w at_32 rfl
  replace w : own_W K b0 Z n0 h 0 0 35 #[.val (.int p0), .val (.int p1), .val (.int p2), .val (.int p3), .val (.int p4), .val (.int p5), .val (.int j), .val (.int x0), .val (.int x1), .unset, .unset, .unset, .unset] [(.int p1)] := own_iloadN w at_34 rfl
  replace w : own_W K b0 Z n0 h 0 0 36 #[.val (.int p0), .val (.int p1), .val (.int p2), .val (.int p3), .val (.int p4), .val (.int p5), .val (.int j), .val (.int x0), .val (.int x1), .unset, .unset, .unset, .unset] [(.int (4 : Int32)), (.int p1)] := own_iconst w at_35 rfl
  replace w : own_W K b0 Z n0 h 0 0 37 #[.val (.int p0), .val (.int p1), .val (.int p2), .val (.int p3), .val (.int p4), .val (.int p5), .val (.int j), .val (.int x0), .val (.int x1), .unset, .unset, .unset, .unset] [(.int (p1 &&& (4 : Int32)))] := own_iand w at_36
  obtain ⟨x2, w⟩ : ∃ x2 : Int32, own_W K b0 Z n0 h 0 0 46 #[.val (.int p0), .val (.int p1), .val (.int p2), .val (.int p3), .val (.int p4), .val (.int p5), .val (.int j), .val (.int x0), .val (.int x1), .unset, .unset, .unset, .unset] [(.int x2)] := by
    by_cases hc : (p1 &&& (4 : Int32)).toInt = 0
    · replace w : own_W K b0 Z n0 h 0 0 44 #[.val (.int p0), .val (.int p1), .val (.int p2), .val (.int p3), .val (.int p4), .val (.int p5), .val (.int j), .val (.int x0), .val (.int x1), .unset, .unset, .unset, .unset] [] := own_ifY (a := (p1 &&& (4 : Int32)).toInt) w at_37 rfl hc (by decide) (by decide)
      replace w : own_W K b0 Z n0 h 0 0 46 #[.val (.int p0), .val (.int p1), .val (.int p2), .val (.int p3), .val (.int p4), .val (.int p5), .val (.int j), .val (.int x0), .val (.int x1), .unset, .unset, .unset, .unset] [(.int p4)] := own_iload w at_44 rfl
      exact ⟨_, w⟩
    · replace w : own_W K b0 Z n0 h 0 0 40 #[.val (.int p0), .val (.int p1), .val (.int p2), .val (.int p3), .val (.int p4), .val (.int p5), .val (.int j), .val (.int x0), .val (.int x1), .unset, .unset, .unset, .unset] [] := own_ifN (a := (p1 &&& (4 : Int32)).toInt) w at_37 rfl hc
      replace w : own_W K b0 Z n0 h 0 0 41 #[.val (.int p0), .val (.int p1), .val (.int p2), .val (.int p3), .val (.int p4), .val (.int p5), .val (.int j), .val (.int x0), .val (.int x1), .unset, .unset, .unset, .unset] [(.int (2 : Int32))] := own_iconst w at_40 rfl
      replace w : own_W K b0 Z n0 h 0 0 46 #[.val (.int p0), .val (.int p1), .val (.int p2), .val (.int p3), .val (.int p4), .val (.int p5), .val (.int j), .val (.int x0), .val (.int x1), .unset, .unset, .unset, .unset] [(.int (2 : Int32))] := own_goto w at_41 (by decide) (by decide)
      exact ⟨_, w⟩
  replace w : own_W K b0 Z n0 h 0 0 48 #[.val (.int p0), .val (.int p1), .val (.int p2), .val (.int p3), .val (.int p4), .val (.int p5), .val (.int j), .val (.int x0), .val (.int x1), .val (.int x2), .unset, .unset, .unset] [] := own_istore w at_46 rfl
  replace w : own_W K b0 Z n0 h 0 0 49 #[.val (.int p0), .val (.int p1), .val (.int p2), .val (.int p3), .val (.int p4), .val (.int p5), .val (.int j), .val (.int x0), .val (.int x1), .val (.int x2), .unset, .unset, .unset] [(.int p1)] := own_iloadN w at_48 rfl
  replace w : own_W K b0 Z n0 h 0 0 51 #[.val (.int p0), .val (.int p1), .val (.int p2), .val (.int p3), .val (.int p4), .val (.int p5), .val (.int j), .val (.int x0), .val (.int x1), .val (.int x2), .unset, .unset, .unset] [(.int (8 : Int32)), (.int p1)] := own_bipush w at_49 rfl
  replace w : own_W K b0 Z n0 h 0 0 52 #[.val (.int p0), .val (.int p1), .val (.int p2), .val (.int p3), .val (.int p4), .val (.int p5), .val (.int j), .val (.int x0), .val (.int x1), .val (.int x2), .unset, .unset, .unset] [(.int (p1 &&& (8 : Int32)))] := own_iand w at_51
  obtain ⟨x3, w⟩ : ∃ x3 : Int32, own_W K b0 Z n0 h 0 0 61 #[.val (.int p0), .val (.int p1), .val (.int p2), .val (.int p3), .val (.int p4), .val (.int p5), .val (.int j), .val (.int x0), .val (.int x1), .val (.int x2), .unset, .unset, .unset] [(.int x3)] := by
    by_cases hc : (p1 &&& (8 : Int32)).toInt = 0
    · replace w : own_W K b0 Z n0 h 0 0 59 #[.val (.int p0), .val (.int p1), .val (.int p2), .val (.int p3), .val (.int p4), .val (.int p5), .val (.int j), .val (.int x0), .val (.int x1), .val (.int x2), .unset, .unset, .unset] [] := own_ifY (a := (p1 &&& (8 : Int32)).toInt) w at_52 rfl hc (by decide) (by decide)
      replace w : own_W K b0 Z n0 h 0 0 61 #[.val (.int p0), .val (.int p1), .val (.int p2), .val (.int p3), .val (.int p4), .val (.int p5), .val (.int j), .val (.int x0), .val (.int x1), .val (.int x2), .unset, .unset, .unset] [(.int p5)] := own_iload w at_59 rfl
      exact ⟨_, w⟩
    · replace w : own_W K b0 Z n0 h 0 0 55 #[.val (.int p0), .val (.int p1), .val (.int p2), .val (.int p3), .val (.int p4), .val (.int p5), .val (.int j), .val (.int x0), .val (.int x1), .val (.int x2), .unset, .unset, .unset] [] := own_ifN (a := (p1 &&& (8 : Int32)).toInt) w at_52 rfl hc
      replace w : own_W K b0 Z n0 h 0 0 56 #[.val (.int p0), .val (.int p1), .val (.int p2), .val (.int p3), .val (.int p4), .val (.int p5), .val (.int j), .val (.int x0), .val (.int x1), .val (.int x2), .unset, .unset, .unset] [(.int (3 : Int32))] := own_iconst w at_55 rfl
      replace w : own_W K b0 Z n0 h 0 0 61 #[.val (.int p0), .val (.int p1), .val (.int p2), .val (.int p3), .val (.int p4), .val (.int p5), .val (.int j), .val (.int x0), .val (.int x1), .val (.int x2), .unset, .unset, .unset] [(.int (3 : Int32))] := own_goto w at_56 (by decide) (by decide)
      exact ⟨_, w⟩
  replace w : own_W K b0 Z n0 h 0 0 63 #[.val (.int p0), .val (.int p1), .val (.int p2), .val (.int p3), .val (.int p4), .val (.int p5), .val (.int j), .val (.int x0), .val (.int x1), .val (.int x2), .val (.int x3), .unset, .unset] [] := own_istore w at_61 rfl
  replace w : own_W K b0 Z n0 h 0 0 65 #[.val (.int p0), .val (.int p1), .val (.int p2), .val (.int p3), .val (.int p4), .val (.int p5), .val (.int j), .val (.int x0), .val (.int x1), .val (.int x2), .val (.int x3), .unset, .unset] [(.int j)] := own_iload w at_63 rfl
  have hh : k = 0 ∨ k = 1 ∨ k = 2 ∨ k = 3 ∨ k = 4 := by omega
  rcases hh with rfl | rfl | rfl | rfl | rfl
  · obtain ⟨h1, a1, w, s_a1, g_a1, E_a1, A_a1⟩ := own_newI w at_65 (hw _ (List.mem_of_getElem? (i := 1) rfl)) rfl 0 4 ek (by decide) (by decide) (by decide) (by decide) (l' := []) rfl
    replace w : own_W K b0 Z n0 h1 1 4 67 #[.val (.int p0), .val (.int p1), .val (.int p2), .val (.int p3), .val (.int p4), .val (.int p5), .val (.int j), .val (.int x0), .val (.int x1), .val (.int x2), .val (.int x3), .unset, .unset] [(.ref a1)] := w
    replace A_a1 : own_A .int Z h1 a1 [] := A_a1
    have ek : j.toInt = 0 := ek
    replace w : own_W K b0 Z n0 h1 1 4 69 #[.val (.int p0), .val (.int p1), .val (.int p2), .val (.int p3), .val (.int p4), .val (.int p5), .val (.int j), .val (.int x0), .val (.int x1), .val (.int x2), .val (.int x3), .val (.ref a1), .unset] [] := own_astore w at_67 rfl
    replace w : own_W K b0 Z n0 h1 1 4 71 #[.val (.int p0), .val (.int p1), .val (.int p2), .val (.int p3), .val (.int p4), .val (.int p5), .val (.int j), .val (.int x0), .val (.int x1), .val (.int x2), .val (.int x3), .val (.ref a1), .unset] [(.int j)] := own_iload w at_69 rfl
    replace w : own_W K b0 Z n0 h1 1 4 80 #[.val (.int p0), .val (.int p1), .val (.int p2), .val (.int p3), .val (.int p4), .val (.int p5), .val (.int j), .val (.int x0), .val (.int x1), .val (.int x2), .val (.int x3), .val (.ref a1), .unset] [] := own_ifY w at_71 ek (by unfold own_cd; decide) (by decide) (by decide)
    replace w : own_W K b0 Z n0 h1 1 4 82 #[.val (.int p0), .val (.int p1), .val (.int p2), .val (.int p3), .val (.int p4), .val (.int p5), .val (.int j), .val (.int x0), .val (.int x1), .val (.int x2), .val (.int x3), .val (.ref a1), .unset] [(.int j)] := own_iload w at_80 rfl
    replace w : own_W K b0 Z n0 h1 1 4 83 #[.val (.int p0), .val (.int p1), .val (.int p2), .val (.int p3), .val (.int p4), .val (.int p5), .val (.int j), .val (.int x0), .val (.int x1), .val (.int x2), .val (.int x3), .val (.ref a1), .unset] [(.int (1 : Int32)), (.int j)] := own_iconst w at_82 rfl
    replace w : own_W K b0 Z n0 h1 1 4 92 #[.val (.int p0), .val (.int p1), .val (.int p2), .val (.int p3), .val (.int p4), .val (.int p5), .val (.int j), .val (.int x0), .val (.int x1), .val (.int x2), .val (.int x3), .val (.ref a1), .unset] [] := own_icmpY (b := 1) w at_83 ek (by decide) (by unfold own_cd; decide) (by decide) (by decide)
    replace w : own_W K b0 Z n0 h1 1 4 94 #[.val (.int p0), .val (.int p1), .val (.int p2), .val (.int p3), .val (.int p4), .val (.int p5), .val (.int j), .val (.int x0), .val (.int x1), .val (.int x2), .val (.int x3), .val (.ref a1), .unset] [(.int j)] := own_iload w at_92 rfl
    replace w : own_W K b0 Z n0 h1 1 4 95 #[.val (.int p0), .val (.int p1), .val (.int p2), .val (.int p3), .val (.int p4), .val (.int p5), .val (.int j), .val (.int x0), .val (.int x1), .val (.int x2), .val (.int x3), .val (.ref a1), .unset] [(.int (2 : Int32)), (.int j)] := own_iconst w at_94 rfl
    replace w : own_W K b0 Z n0 h1 1 4 104 #[.val (.int p0), .val (.int p1), .val (.int p2), .val (.int p3), .val (.int p4), .val (.int p5), .val (.int j), .val (.int x0), .val (.int x1), .val (.int x2), .val (.int x3), .val (.ref a1), .unset] [] := own_icmpY (b := 2) w at_95 ek (by decide) (by unfold own_cd; decide) (by decide) (by decide)
    replace w : own_W K b0 Z n0 h1 1 4 106 #[.val (.int p0), .val (.int p1), .val (.int p2), .val (.int p3), .val (.int p4), .val (.int p5), .val (.int j), .val (.int x0), .val (.int x1), .val (.int x2), .val (.int x3), .val (.ref a1), .unset] [(.int j)] := own_iload w at_104 rfl
    replace w : own_W K b0 Z n0 h1 1 4 107 #[.val (.int p0), .val (.int p1), .val (.int p2), .val (.int p3), .val (.int p4), .val (.int p5), .val (.int j), .val (.int x0), .val (.int x1), .val (.int x2), .val (.int x3), .val (.ref a1), .unset] [(.int (3 : Int32)), (.int j)] := own_iconst w at_106 rfl
    replace w : own_W K b0 Z n0 h1 1 4 116 #[.val (.int p0), .val (.int p1), .val (.int p2), .val (.int p3), .val (.int p4), .val (.int p5), .val (.int j), .val (.int x0), .val (.int x1), .val (.int x2), .val (.int x3), .val (.ref a1), .unset] [] := own_icmpY (b := 3) w at_107 ek (by decide) (by unfold own_cd; decide) (by decide) (by decide)
    replace w : own_W K b0 Z n0 h1 1 4 118 #[.val (.int p0), .val (.int p1), .val (.int p2), .val (.int p3), .val (.int p4), .val (.int p5), .val (.int j), .val (.int x0), .val (.int x1), .val (.int x2), .val (.int x3), .val (.ref a1), .unset] [(.int j)] := own_iload w at_116 rfl
    replace w : own_W K b0 Z n0 h1 1 4 119 #[.val (.int p0), .val (.int p1), .val (.int p2), .val (.int p3), .val (.int p4), .val (.int p5), .val (.int j), .val (.int x0), .val (.int x1), .val (.int x2), .val (.int x3), .val (.ref a1), .unset] [(.int (1 : Int32)), (.int j)] := own_iconst w at_118 rfl
    replace w : own_W K b0 Z n0 h1 1 4 127 #[.val (.int p0), .val (.int p1), .val (.int p2), .val (.int p3), .val (.int p4), .val (.int p5), .val (.int j), .val (.int x0), .val (.int x1), .val (.int x2), .val (.int x3), .val (.ref a1), .unset] [] := own_icmpY (b := 1) w at_119 ek (by decide) (by unfold own_cd; decide) (by decide) (by decide)
    replace w : own_W K b0 Z n0 h1 1 4 129 #[.val (.int p0), .val (.int p1), .val (.int p2), .val (.int p3), .val (.int p4), .val (.int p5), .val (.int j), .val (.int x0), .val (.int x1), .val (.int x2), .val (.int x3), .val (.ref a1), .unset] [(.int j)] := own_iload w at_127 rfl
    replace w : own_W K b0 Z n0 h1 1 4 130 #[.val (.int p0), .val (.int p1), .val (.int p2), .val (.int p3), .val (.int p4), .val (.int p5), .val (.int j), .val (.int x0), .val (.int x1), .val (.int x2), .val (.int x3), .val (.ref a1), .unset] [(.int (2 : Int32)), (.int j)] := own_iconst w at_129 rfl
    replace w : own_W K b0 Z n0 h1 1 4 139 #[.val (.int p0), .val (.int p1), .val (.int p2), .val (.int p3), .val (.int p4), .val (.int p5), .val (.int j), .val (.int x0), .val (.int x1), .val (.int x2), .val (.int x3), .val (.ref a1), .unset] [] := own_icmpY (b := 2) w at_130 ek (by decide) (by unfold own_cd; decide) (by decide) (by decide)
    replace w : own_W K b0 Z n0 h1 1 4 141 #[.val (.int p0), .val (.int p1), .val (.int p2), .val (.int p3), .val (.int p4), .val (.int p5), .val (.int j), .val (.int x0), .val (.int x1), .val (.int x2), .val (.int x3), .val (.ref a1), .unset] [(.int j)] := own_iload w at_139 rfl
    replace w : own_W K b0 Z n0 h1 1 4 142 #[.val (.int p0), .val (.int p1), .val (.int p2), .val (.int p3), .val (.int p4), .val (.int p5), .val (.int j), .val (.int x0), .val (.int x1), .val (.int x2), .val (.int x3), .val (.ref a1), .unset] [(.int (3 : Int32)), (.int j)] := own_iconst w at_141 rfl
    replace w : own_W K b0 Z n0 h1 1 4 151 #[.val (.int p0), .val (.int p1), .val (.int p2), .val (.int p3), .val (.int p4), .val (.int p5), .val (.int j), .val (.int x0), .val (.int x1), .val (.int x2), .val (.int x3), .val (.ref a1), .unset] [] := own_icmpY (b := 3) w at_142 ek (by decide) (by unfold own_cd; decide) (by decide) (by decide)
    replace w : own_W K b0 Z n0 h1 1 4 153 #[.val (.int p0), .val (.int p1), .val (.int p2), .val (.int p3), .val (.int p4), .val (.int p5), .val (.int j), .val (.int x0), .val (.int x1), .val (.int x2), .val (.int x3), .val (.ref a1), .unset] [(.int j)] := own_iload w at_151 rfl
    replace w : own_W K b0 Z n0 h1 1 4 154 #[.val (.int p0), .val (.int p1), .val (.int p2), .val (.int p3), .val (.int p4), .val (.int p5), .val (.int j), .val (.int x0), .val (.int x1), .val (.int x2), .val (.int x3), .val (.ref a1), .unset] [(.int (4 : Int32)), (.int j)] := own_iconst w at_153 rfl
    replace w : own_W K b0 Z n0 h1 1 4 163 #[.val (.int p0), .val (.int p1), .val (.int p2), .val (.int p3), .val (.int p4), .val (.int p5), .val (.int j), .val (.int x0), .val (.int x1), .val (.int x2), .val (.int x3), .val (.ref a1), .unset] [] := own_icmpY (b := 4) w at_154 ek (by decide) (by unfold own_cd; decide) (by decide) (by decide)
    replace w : own_W K b0 Z n0 h1 1 4 164 #[.val (.int p0), .val (.int p1), .val (.int p2), .val (.int p3), .val (.int p4), .val (.int p5), .val (.int j), .val (.int x0), .val (.int x1), .val (.int x2), .val (.int x3), .val (.ref a1), .unset] [(.int (1 : Int32))] := own_iconst w at_163 rfl
    replace w : own_W K b0 Z n0 h1 1 4 168 #[.val (.int p0), .val (.int p1), .val (.int p2), .val (.int p3), .val (.int p4), .val (.int p5), .val (.int j), .val (.int x0), .val (.int x1), .val (.int x2), .val (.int x3), .val (.ref a1), .unset] [(.int (1 : Int32))] := own_goto w at_164 (by decide) (by decide)
    replace w : own_W K b0 Z n0 h1 1 4 170 #[.val (.int p0), .val (.int p1), .val (.int p2), .val (.int p3), .val (.int p4), .val (.int p5), .val (.int j), .val (.int x0), .val (.int x1), .val (.int x2), .val (.int x3), .val (.ref a1), .val (.int (1 : Int32))] [] := own_istore w at_168 rfl
    replace w : own_W K b0 Z n0 h1 1 4 172 #[.val (.int p0), .val (.int p1), .val (.int p2), .val (.int p3), .val (.int p4), .val (.int p5), .val (.int j), .val (.int x0), .val (.int x1), .val (.int x2), .val (.int x3), .val (.ref a1), .val (.int (1 : Int32))] [(.ref a1)] := own_aload w at_170 rfl
    have ht : own_t ([] : List Int32) ([] : List Int32).length 0 = 1 := by
      show own_t ([] : List Int32) 0 0 = 1
      rw [show own_t ([] : List Int32) 0 0 = 1 from rfl]
    obtain ⟨_, _, ⟨rfl, rfl⟩, w⟩ := own_callS (By := b1) [(.ref a1)] w rfl at_172 (hw _ (List.mem_of_getElem? (i := 2) rfl)) (hw _ (List.mem_of_getElem? (i := 3) rfl)) (hw _ (List.mem_of_getElem? (i := 4) rfl)) (hw _ (List.mem_of_getElem? (i := 5) rfl)) (rm1 hw a1 ([] : List Int32) A_a1 (Nat.le_of_ble_eq_true rfl) (own_size w)) (by decide) pd_1 rfl rfl (by decide) (Nat.le_of_ble_eq_true rfl) (by decide) (by decide)
    replace w : own_W K b0 Z n0 h1 1 4 175 #[.val (.int p0), .val (.int p1), .val (.int p2), .val (.int p3), .val (.int p4), .val (.int p5), .val (.int j), .val (.int x0), .val (.int x1), .val (.int x2), .val (.int x3), .val (.ref a1), .val (.int (1 : Int32))] [(.int (own_t ([] : List Int32) ([] : List Int32).length 0))] := w
    rw [ht] at w
    replace w : own_W K b0 Z n0 h1 1 4 177 #[.val (.int p0), .val (.int p1), .val (.int p2), .val (.int p3), .val (.int p4), .val (.int p5), .val (.int j), .val (.int x0), .val (.int x1), .val (.int x2), .val (.int x3), .val (.ref a1), .val (.int (1 : Int32))] [(.int (1 : Int32)), (.int (1 : Int32))] := own_iload w at_175 rfl
    replace w : own_W K b0 Z n0 h1 1 4 180 #[.val (.int p0), .val (.int p1), .val (.int p2), .val (.int p3), .val (.int p4), .val (.int p5), .val (.int j), .val (.int x0), .val (.int x1), .val (.int x2), .val (.int x3), .val (.ref a1), .val (.int (1 : Int32))] [] := own_icmpN (a := 1) (b := 1) w at_177 (by decide) (by decide) rfl
    replace w : own_W K b0 Z n0 h1 1 4 181 #[.val (.int p0), .val (.int p1), .val (.int p2), .val (.int p3), .val (.int p4), .val (.int p5), .val (.int j), .val (.int x0), .val (.int x1), .val (.int x2), .val (.int x3), .val (.ref a1), .val (.int (1 : Int32))] [(.int (1 : Int32))] := own_iconst w at_180 rfl
    replace w : own_W K b0 Z n0 h1 1 4 185 #[.val (.int p0), .val (.int p1), .val (.int p2), .val (.int p3), .val (.int p4), .val (.int p5), .val (.int j), .val (.int x0), .val (.int x1), .val (.int x2), .val (.int x3), .val (.ref a1), .val (.int (1 : Int32))] [(.int (1 : Int32))] := own_goto w at_181 (by decide) (by decide)
    exact own_retZ w at_185 rfl (Or.inl rfl) rfl (by decide) (by decide)
  · obtain ⟨h1, a1, w, s_a1, g_a1, E_a1, A_a1⟩ := own_newI w at_65 (hw _ (List.mem_of_getElem? (i := 1) rfl)) rfl 1 4 ek (by decide) (by decide) (by decide) (by decide) (l' := [0]) rfl
    replace w : own_W K b0 Z n0 h1 1 4 67 #[.val (.int p0), .val (.int p1), .val (.int p2), .val (.int p3), .val (.int p4), .val (.int p5), .val (.int j), .val (.int x0), .val (.int x1), .val (.int x2), .val (.int x3), .unset, .unset] [(.ref a1)] := w
    replace A_a1 : own_A .int Z h1 a1 [0] := A_a1
    have ek : j.toInt = 1 := ek
    replace w : own_W K b0 Z n0 h1 1 4 69 #[.val (.int p0), .val (.int p1), .val (.int p2), .val (.int p3), .val (.int p4), .val (.int p5), .val (.int j), .val (.int x0), .val (.int x1), .val (.int x2), .val (.int x3), .val (.ref a1), .unset] [] := own_astore w at_67 rfl
    replace w : own_W K b0 Z n0 h1 1 4 71 #[.val (.int p0), .val (.int p1), .val (.int p2), .val (.int p3), .val (.int p4), .val (.int p5), .val (.int j), .val (.int x0), .val (.int x1), .val (.int x2), .val (.int x3), .val (.ref a1), .unset] [(.int j)] := own_iload w at_69 rfl
    replace w : own_W K b0 Z n0 h1 1 4 74 #[.val (.int p0), .val (.int p1), .val (.int p2), .val (.int p3), .val (.int p4), .val (.int p5), .val (.int j), .val (.int x0), .val (.int x1), .val (.int x2), .val (.int x3), .val (.ref a1), .unset] [] := own_ifN w at_71 ek (by unfold own_cn; decide)
    replace w : own_W K b0 Z n0 h1 1 4 76 #[.val (.int p0), .val (.int p1), .val (.int p2), .val (.int p3), .val (.int p4), .val (.int p5), .val (.int j), .val (.int x0), .val (.int x1), .val (.int x2), .val (.int x3), .val (.ref a1), .unset] [(.ref a1)] := own_aload w at_74 rfl
    replace w : own_W K b0 Z n0 h1 1 4 77 #[.val (.int p0), .val (.int p1), .val (.int p2), .val (.int p3), .val (.int p4), .val (.int p5), .val (.int j), .val (.int x0), .val (.int x1), .val (.int x2), .val (.int x3), .val (.ref a1), .unset] [(.int (0 : Int32)), (.ref a1)] := own_iconst w at_76 rfl
    replace w : own_W K b0 Z n0 h1 1 4 79 #[.val (.int p0), .val (.int p1), .val (.int p2), .val (.int p3), .val (.int p4), .val (.int p5), .val (.int j), .val (.int x0), .val (.int x1), .val (.int x2), .val (.int x3), .val (.ref a1), .unset] [(.int x0), (.int (0 : Int32)), (.ref a1)] := own_iload w at_77 rfl
    obtain ⟨h1, w, A_a1, K_h1⟩ := own_iastore w at_79 A_a1 0 (by decide) (Nat.le_of_ble_eq_true rfl) g_a1 (l' := [x0]) rfl
    replace w : own_W K b0 Z n0 h1 1 4 80 #[.val (.int p0), .val (.int p1), .val (.int p2), .val (.int p3), .val (.int p4), .val (.int p5), .val (.int j), .val (.int x0), .val (.int x1), .val (.int x2), .val (.int x3), .val (.ref a1), .unset] [] := w
    replace w : own_W K b0 Z n0 h1 1 4 82 #[.val (.int p0), .val (.int p1), .val (.int p2), .val (.int p3), .val (.int p4), .val (.int p5), .val (.int j), .val (.int x0), .val (.int x1), .val (.int x2), .val (.int x3), .val (.ref a1), .unset] [(.int j)] := own_iload w at_80 rfl
    replace w : own_W K b0 Z n0 h1 1 4 83 #[.val (.int p0), .val (.int p1), .val (.int p2), .val (.int p3), .val (.int p4), .val (.int p5), .val (.int j), .val (.int x0), .val (.int x1), .val (.int x2), .val (.int x3), .val (.ref a1), .unset] [(.int (1 : Int32)), (.int j)] := own_iconst w at_82 rfl
    replace w : own_W K b0 Z n0 h1 1 4 92 #[.val (.int p0), .val (.int p1), .val (.int p2), .val (.int p3), .val (.int p4), .val (.int p5), .val (.int j), .val (.int x0), .val (.int x1), .val (.int x2), .val (.int x3), .val (.ref a1), .unset] [] := own_icmpY (b := 1) w at_83 ek (by decide) (by unfold own_cd; decide) (by decide) (by decide)
    replace w : own_W K b0 Z n0 h1 1 4 94 #[.val (.int p0), .val (.int p1), .val (.int p2), .val (.int p3), .val (.int p4), .val (.int p5), .val (.int j), .val (.int x0), .val (.int x1), .val (.int x2), .val (.int x3), .val (.ref a1), .unset] [(.int j)] := own_iload w at_92 rfl
    replace w : own_W K b0 Z n0 h1 1 4 95 #[.val (.int p0), .val (.int p1), .val (.int p2), .val (.int p3), .val (.int p4), .val (.int p5), .val (.int j), .val (.int x0), .val (.int x1), .val (.int x2), .val (.int x3), .val (.ref a1), .unset] [(.int (2 : Int32)), (.int j)] := own_iconst w at_94 rfl
    replace w : own_W K b0 Z n0 h1 1 4 104 #[.val (.int p0), .val (.int p1), .val (.int p2), .val (.int p3), .val (.int p4), .val (.int p5), .val (.int j), .val (.int x0), .val (.int x1), .val (.int x2), .val (.int x3), .val (.ref a1), .unset] [] := own_icmpY (b := 2) w at_95 ek (by decide) (by unfold own_cd; decide) (by decide) (by decide)
    replace w : own_W K b0 Z n0 h1 1 4 106 #[.val (.int p0), .val (.int p1), .val (.int p2), .val (.int p3), .val (.int p4), .val (.int p5), .val (.int j), .val (.int x0), .val (.int x1), .val (.int x2), .val (.int x3), .val (.ref a1), .unset] [(.int j)] := own_iload w at_104 rfl
    replace w : own_W K b0 Z n0 h1 1 4 107 #[.val (.int p0), .val (.int p1), .val (.int p2), .val (.int p3), .val (.int p4), .val (.int p5), .val (.int j), .val (.int x0), .val (.int x1), .val (.int x2), .val (.int x3), .val (.ref a1), .unset] [(.int (3 : Int32)), (.int j)] := own_iconst w at_106 rfl
    replace w : own_W K b0 Z n0 h1 1 4 116 #[.val (.int p0), .val (.int p1), .val (.int p2), .val (.int p3), .val (.int p4), .val (.int p5), .val (.int j), .val (.int x0), .val (.int x1), .val (.int x2), .val (.int x3), .val (.ref a1), .unset] [] := own_icmpY (b := 3) w at_107 ek (by decide) (by unfold own_cd; decide) (by decide) (by decide)
    replace w : own_W K b0 Z n0 h1 1 4 118 #[.val (.int p0), .val (.int p1), .val (.int p2), .val (.int p3), .val (.int p4), .val (.int p5), .val (.int j), .val (.int x0), .val (.int x1), .val (.int x2), .val (.int x3), .val (.ref a1), .unset] [(.int j)] := own_iload w at_116 rfl
    replace w : own_W K b0 Z n0 h1 1 4 119 #[.val (.int p0), .val (.int p1), .val (.int p2), .val (.int p3), .val (.int p4), .val (.int p5), .val (.int j), .val (.int x0), .val (.int x1), .val (.int x2), .val (.int x3), .val (.ref a1), .unset] [(.int (1 : Int32)), (.int j)] := own_iconst w at_118 rfl
    replace w : own_W K b0 Z n0 h1 1 4 122 #[.val (.int p0), .val (.int p1), .val (.int p2), .val (.int p3), .val (.int p4), .val (.int p5), .val (.int j), .val (.int x0), .val (.int x1), .val (.int x2), .val (.int x3), .val (.ref a1), .unset] [] := own_icmpN (b := 1) w at_119 ek (by decide) (by unfold own_cn; decide)
    replace w : own_W K b0 Z n0 h1 1 4 124 #[.val (.int p0), .val (.int p1), .val (.int p2), .val (.int p3), .val (.int p4), .val (.int p5), .val (.int j), .val (.int x0), .val (.int x1), .val (.int x2), .val (.int x3), .val (.ref a1), .unset] [(.int x0)] := own_iload w at_122 rfl
    by_cases h0 : x0.toInt = 0
    · replace w : own_W K b0 Z n0 h1 1 4 127 #[.val (.int p0), .val (.int p1), .val (.int p2), .val (.int p3), .val (.int p4), .val (.int p5), .val (.int j), .val (.int x0), .val (.int x1), .val (.int x2), .val (.int x3), .val (.ref a1), .unset] [] := own_ifN (a := x0.toInt) w at_124 rfl h0
      replace w : own_W K b0 Z n0 h1 1 4 129 #[.val (.int p0), .val (.int p1), .val (.int p2), .val (.int p3), .val (.int p4), .val (.int p5), .val (.int j), .val (.int x0), .val (.int x1), .val (.int x2), .val (.int x3), .val (.ref a1), .unset] [(.int j)] := own_iload w at_127 rfl
      replace w : own_W K b0 Z n0 h1 1 4 130 #[.val (.int p0), .val (.int p1), .val (.int p2), .val (.int p3), .val (.int p4), .val (.int p5), .val (.int j), .val (.int x0), .val (.int x1), .val (.int x2), .val (.int x3), .val (.ref a1), .unset] [(.int (2 : Int32)), (.int j)] := own_iconst w at_129 rfl
      replace w : own_W K b0 Z n0 h1 1 4 139 #[.val (.int p0), .val (.int p1), .val (.int p2), .val (.int p3), .val (.int p4), .val (.int p5), .val (.int j), .val (.int x0), .val (.int x1), .val (.int x2), .val (.int x3), .val (.ref a1), .unset] [] := own_icmpY (b := 2) w at_130 ek (by decide) (by unfold own_cd; decide) (by decide) (by decide)
      replace w : own_W K b0 Z n0 h1 1 4 141 #[.val (.int p0), .val (.int p1), .val (.int p2), .val (.int p3), .val (.int p4), .val (.int p5), .val (.int j), .val (.int x0), .val (.int x1), .val (.int x2), .val (.int x3), .val (.ref a1), .unset] [(.int j)] := own_iload w at_139 rfl
      replace w : own_W K b0 Z n0 h1 1 4 142 #[.val (.int p0), .val (.int p1), .val (.int p2), .val (.int p3), .val (.int p4), .val (.int p5), .val (.int j), .val (.int x0), .val (.int x1), .val (.int x2), .val (.int x3), .val (.ref a1), .unset] [(.int (3 : Int32)), (.int j)] := own_iconst w at_141 rfl
      replace w : own_W K b0 Z n0 h1 1 4 151 #[.val (.int p0), .val (.int p1), .val (.int p2), .val (.int p3), .val (.int p4), .val (.int p5), .val (.int j), .val (.int x0), .val (.int x1), .val (.int x2), .val (.int x3), .val (.ref a1), .unset] [] := own_icmpY (b := 3) w at_142 ek (by decide) (by unfold own_cd; decide) (by decide) (by decide)
      replace w : own_W K b0 Z n0 h1 1 4 153 #[.val (.int p0), .val (.int p1), .val (.int p2), .val (.int p3), .val (.int p4), .val (.int p5), .val (.int j), .val (.int x0), .val (.int x1), .val (.int x2), .val (.int x3), .val (.ref a1), .unset] [(.int j)] := own_iload w at_151 rfl
      replace w : own_W K b0 Z n0 h1 1 4 154 #[.val (.int p0), .val (.int p1), .val (.int p2), .val (.int p3), .val (.int p4), .val (.int p5), .val (.int j), .val (.int x0), .val (.int x1), .val (.int x2), .val (.int x3), .val (.ref a1), .unset] [(.int (4 : Int32)), (.int j)] := own_iconst w at_153 rfl
      replace w : own_W K b0 Z n0 h1 1 4 163 #[.val (.int p0), .val (.int p1), .val (.int p2), .val (.int p3), .val (.int p4), .val (.int p5), .val (.int j), .val (.int x0), .val (.int x1), .val (.int x2), .val (.int x3), .val (.ref a1), .unset] [] := own_icmpY (b := 4) w at_154 ek (by decide) (by unfold own_cd; decide) (by decide) (by decide)
      replace w : own_W K b0 Z n0 h1 1 4 164 #[.val (.int p0), .val (.int p1), .val (.int p2), .val (.int p3), .val (.int p4), .val (.int p5), .val (.int j), .val (.int x0), .val (.int x1), .val (.int x2), .val (.int x3), .val (.ref a1), .unset] [(.int (1 : Int32))] := own_iconst w at_163 rfl
      replace w : own_W K b0 Z n0 h1 1 4 168 #[.val (.int p0), .val (.int p1), .val (.int p2), .val (.int p3), .val (.int p4), .val (.int p5), .val (.int j), .val (.int x0), .val (.int x1), .val (.int x2), .val (.int x3), .val (.ref a1), .unset] [(.int (1 : Int32))] := own_goto w at_164 (by decide) (by decide)
      replace w : own_W K b0 Z n0 h1 1 4 170 #[.val (.int p0), .val (.int p1), .val (.int p2), .val (.int p3), .val (.int p4), .val (.int p5), .val (.int j), .val (.int x0), .val (.int x1), .val (.int x2), .val (.int x3), .val (.ref a1), .val (.int (1 : Int32))] [] := own_istore w at_168 rfl
      replace w : own_W K b0 Z n0 h1 1 4 172 #[.val (.int p0), .val (.int p1), .val (.int p2), .val (.int p3), .val (.int p4), .val (.int p5), .val (.int j), .val (.int x0), .val (.int x1), .val (.int x2), .val (.int x3), .val (.ref a1), .val (.int (1 : Int32))] [(.ref a1)] := own_aload w at_170 rfl
      have ht : own_t [x0] [x0].length 0 = 1 := by
        show own_t [x0] 1 0 = 1
        rw [show own_t [x0] 1 0 = own_t [x0] 0 1 from if_pos h0, show own_t [x0] 0 1 = 1 from rfl]
      obtain ⟨_, _, ⟨rfl, rfl⟩, w⟩ := own_callS (By := b1) [(.ref a1)] w rfl at_172 (hw _ (List.mem_of_getElem? (i := 2) rfl)) (hw _ (List.mem_of_getElem? (i := 3) rfl)) (hw _ (List.mem_of_getElem? (i := 4) rfl)) (hw _ (List.mem_of_getElem? (i := 5) rfl)) (rm1 hw a1 [x0] A_a1 (Nat.le_of_ble_eq_true rfl) (own_size w)) (by decide) pd_1 rfl rfl (by decide) (Nat.le_of_ble_eq_true rfl) (by decide) (by decide)
      replace w : own_W K b0 Z n0 h1 1 4 175 #[.val (.int p0), .val (.int p1), .val (.int p2), .val (.int p3), .val (.int p4), .val (.int p5), .val (.int j), .val (.int x0), .val (.int x1), .val (.int x2), .val (.int x3), .val (.ref a1), .val (.int (1 : Int32))] [(.int (own_t [x0] [x0].length 0))] := w
      rw [ht] at w
      replace w : own_W K b0 Z n0 h1 1 4 177 #[.val (.int p0), .val (.int p1), .val (.int p2), .val (.int p3), .val (.int p4), .val (.int p5), .val (.int j), .val (.int x0), .val (.int x1), .val (.int x2), .val (.int x3), .val (.ref a1), .val (.int (1 : Int32))] [(.int (1 : Int32)), (.int (1 : Int32))] := own_iload w at_175 rfl
      replace w : own_W K b0 Z n0 h1 1 4 180 #[.val (.int p0), .val (.int p1), .val (.int p2), .val (.int p3), .val (.int p4), .val (.int p5), .val (.int j), .val (.int x0), .val (.int x1), .val (.int x2), .val (.int x3), .val (.ref a1), .val (.int (1 : Int32))] [] := own_icmpN (a := 1) (b := 1) w at_177 (by decide) (by decide) rfl
      replace w : own_W K b0 Z n0 h1 1 4 181 #[.val (.int p0), .val (.int p1), .val (.int p2), .val (.int p3), .val (.int p4), .val (.int p5), .val (.int j), .val (.int x0), .val (.int x1), .val (.int x2), .val (.int x3), .val (.ref a1), .val (.int (1 : Int32))] [(.int (1 : Int32))] := own_iconst w at_180 rfl
      replace w : own_W K b0 Z n0 h1 1 4 185 #[.val (.int p0), .val (.int p1), .val (.int p2), .val (.int p3), .val (.int p4), .val (.int p5), .val (.int j), .val (.int x0), .val (.int x1), .val (.int x2), .val (.int x3), .val (.ref a1), .val (.int (1 : Int32))] [(.int (1 : Int32))] := own_goto w at_181 (by decide) (by decide)
      exact own_retZ w at_185 rfl (Or.inl rfl) rfl (by decide) (by decide)
    · replace w : own_W K b0 Z n0 h1 1 4 167 #[.val (.int p0), .val (.int p1), .val (.int p2), .val (.int p3), .val (.int p4), .val (.int p5), .val (.int j), .val (.int x0), .val (.int x1), .val (.int x2), .val (.int x3), .val (.ref a1), .unset] [] := own_ifY (a := x0.toInt) w at_124 rfl h0 (by decide) (by decide)
      replace w : own_W K b0 Z n0 h1 1 4 168 #[.val (.int p0), .val (.int p1), .val (.int p2), .val (.int p3), .val (.int p4), .val (.int p5), .val (.int j), .val (.int x0), .val (.int x1), .val (.int x2), .val (.int x3), .val (.ref a1), .unset] [(.int (0 : Int32))] := own_iconst w at_167 rfl
      replace w : own_W K b0 Z n0 h1 1 4 170 #[.val (.int p0), .val (.int p1), .val (.int p2), .val (.int p3), .val (.int p4), .val (.int p5), .val (.int j), .val (.int x0), .val (.int x1), .val (.int x2), .val (.int x3), .val (.ref a1), .val (.int (0 : Int32))] [] := own_istore w at_168 rfl
      replace w : own_W K b0 Z n0 h1 1 4 172 #[.val (.int p0), .val (.int p1), .val (.int p2), .val (.int p3), .val (.int p4), .val (.int p5), .val (.int j), .val (.int x0), .val (.int x1), .val (.int x2), .val (.int x3), .val (.ref a1), .val (.int (0 : Int32))] [(.ref a1)] := own_aload w at_170 rfl
      have ht : own_t [x0] [x0].length 0 = 0 := by
        show own_t [x0] 1 0 = 0
        rw [show own_t [x0] 1 0 = 0 from if_neg h0]
      obtain ⟨_, _, ⟨rfl, rfl⟩, w⟩ := own_callS (By := b1) [(.ref a1)] w rfl at_172 (hw _ (List.mem_of_getElem? (i := 2) rfl)) (hw _ (List.mem_of_getElem? (i := 3) rfl)) (hw _ (List.mem_of_getElem? (i := 4) rfl)) (hw _ (List.mem_of_getElem? (i := 5) rfl)) (rm1 hw a1 [x0] A_a1 (Nat.le_of_ble_eq_true rfl) (own_size w)) (by decide) pd_1 rfl rfl (by decide) (Nat.le_of_ble_eq_true rfl) (by decide) (by decide)
      replace w : own_W K b0 Z n0 h1 1 4 175 #[.val (.int p0), .val (.int p1), .val (.int p2), .val (.int p3), .val (.int p4), .val (.int p5), .val (.int j), .val (.int x0), .val (.int x1), .val (.int x2), .val (.int x3), .val (.ref a1), .val (.int (0 : Int32))] [(.int (own_t [x0] [x0].length 0))] := w
      rw [ht] at w
      replace w : own_W K b0 Z n0 h1 1 4 177 #[.val (.int p0), .val (.int p1), .val (.int p2), .val (.int p3), .val (.int p4), .val (.int p5), .val (.int j), .val (.int x0), .val (.int x1), .val (.int x2), .val (.int x3), .val (.ref a1), .val (.int (0 : Int32))] [(.int (0 : Int32)), (.int (0 : Int32))] := own_iload w at_175 rfl
      replace w : own_W K b0 Z n0 h1 1 4 180 #[.val (.int p0), .val (.int p1), .val (.int p2), .val (.int p3), .val (.int p4), .val (.int p5), .val (.int j), .val (.int x0), .val (.int x1), .val (.int x2), .val (.int x3), .val (.ref a1), .val (.int (0 : Int32))] [] := own_icmpN (a := 0) (b := 0) w at_177 (by decide) (by decide) rfl
      replace w : own_W K b0 Z n0 h1 1 4 181 #[.val (.int p0), .val (.int p1), .val (.int p2), .val (.int p3), .val (.int p4), .val (.int p5), .val (.int j), .val (.int x0), .val (.int x1), .val (.int x2), .val (.int x3), .val (.ref a1), .val (.int (0 : Int32))] [(.int (1 : Int32))] := own_iconst w at_180 rfl
      replace w : own_W K b0 Z n0 h1 1 4 185 #[.val (.int p0), .val (.int p1), .val (.int p2), .val (.int p3), .val (.int p4), .val (.int p5), .val (.int j), .val (.int x0), .val (.int x1), .val (.int x2), .val (.int x3), .val (.ref a1), .val (.int (0 : Int32))] [(.int (1 : Int32))] := own_goto w at_181 (by decide) (by decide)
      exact own_retZ w at_185 rfl (Or.inl rfl) rfl (by decide) (by decide)
  · obtain ⟨h1, a1, w, s_a1, g_a1, E_a1, A_a1⟩ := own_newI w at_65 (hw _ (List.mem_of_getElem? (i := 1) rfl)) rfl 2 4 ek (by decide) (by decide) (by decide) (by decide) (l' := [0, 0]) rfl
    replace w : own_W K b0 Z n0 h1 1 4 67 #[.val (.int p0), .val (.int p1), .val (.int p2), .val (.int p3), .val (.int p4), .val (.int p5), .val (.int j), .val (.int x0), .val (.int x1), .val (.int x2), .val (.int x3), .unset, .unset] [(.ref a1)] := w
    replace A_a1 : own_A .int Z h1 a1 [0, 0] := A_a1
    have ek : j.toInt = 2 := ek
    replace w : own_W K b0 Z n0 h1 1 4 69 #[.val (.int p0), .val (.int p1), .val (.int p2), .val (.int p3), .val (.int p4), .val (.int p5), .val (.int j), .val (.int x0), .val (.int x1), .val (.int x2), .val (.int x3), .val (.ref a1), .unset] [] := own_astore w at_67 rfl
    replace w : own_W K b0 Z n0 h1 1 4 71 #[.val (.int p0), .val (.int p1), .val (.int p2), .val (.int p3), .val (.int p4), .val (.int p5), .val (.int j), .val (.int x0), .val (.int x1), .val (.int x2), .val (.int x3), .val (.ref a1), .unset] [(.int j)] := own_iload w at_69 rfl
    replace w : own_W K b0 Z n0 h1 1 4 74 #[.val (.int p0), .val (.int p1), .val (.int p2), .val (.int p3), .val (.int p4), .val (.int p5), .val (.int j), .val (.int x0), .val (.int x1), .val (.int x2), .val (.int x3), .val (.ref a1), .unset] [] := own_ifN w at_71 ek (by unfold own_cn; decide)
    replace w : own_W K b0 Z n0 h1 1 4 76 #[.val (.int p0), .val (.int p1), .val (.int p2), .val (.int p3), .val (.int p4), .val (.int p5), .val (.int j), .val (.int x0), .val (.int x1), .val (.int x2), .val (.int x3), .val (.ref a1), .unset] [(.ref a1)] := own_aload w at_74 rfl
    replace w : own_W K b0 Z n0 h1 1 4 77 #[.val (.int p0), .val (.int p1), .val (.int p2), .val (.int p3), .val (.int p4), .val (.int p5), .val (.int j), .val (.int x0), .val (.int x1), .val (.int x2), .val (.int x3), .val (.ref a1), .unset] [(.int (0 : Int32)), (.ref a1)] := own_iconst w at_76 rfl
    replace w : own_W K b0 Z n0 h1 1 4 79 #[.val (.int p0), .val (.int p1), .val (.int p2), .val (.int p3), .val (.int p4), .val (.int p5), .val (.int j), .val (.int x0), .val (.int x1), .val (.int x2), .val (.int x3), .val (.ref a1), .unset] [(.int x0), (.int (0 : Int32)), (.ref a1)] := own_iload w at_77 rfl
    obtain ⟨h2, w, A_a1, K_h2⟩ := own_iastore w at_79 A_a1 0 (by decide) (Nat.le_of_ble_eq_true rfl) g_a1 (l' := [x0, 0]) rfl
    replace w : own_W K b0 Z n0 h2 1 4 80 #[.val (.int p0), .val (.int p1), .val (.int p2), .val (.int p3), .val (.int p4), .val (.int p5), .val (.int j), .val (.int x0), .val (.int x1), .val (.int x2), .val (.int x3), .val (.ref a1), .unset] [] := w
    replace w : own_W K b0 Z n0 h2 1 4 82 #[.val (.int p0), .val (.int p1), .val (.int p2), .val (.int p3), .val (.int p4), .val (.int p5), .val (.int j), .val (.int x0), .val (.int x1), .val (.int x2), .val (.int x3), .val (.ref a1), .unset] [(.int j)] := own_iload w at_80 rfl
    replace w : own_W K b0 Z n0 h2 1 4 83 #[.val (.int p0), .val (.int p1), .val (.int p2), .val (.int p3), .val (.int p4), .val (.int p5), .val (.int j), .val (.int x0), .val (.int x1), .val (.int x2), .val (.int x3), .val (.ref a1), .unset] [(.int (1 : Int32)), (.int j)] := own_iconst w at_82 rfl
    replace w : own_W K b0 Z n0 h2 1 4 86 #[.val (.int p0), .val (.int p1), .val (.int p2), .val (.int p3), .val (.int p4), .val (.int p5), .val (.int j), .val (.int x0), .val (.int x1), .val (.int x2), .val (.int x3), .val (.ref a1), .unset] [] := own_icmpN (b := 1) w at_83 ek (by decide) (by unfold own_cn; decide)
    replace w : own_W K b0 Z n0 h2 1 4 88 #[.val (.int p0), .val (.int p1), .val (.int p2), .val (.int p3), .val (.int p4), .val (.int p5), .val (.int j), .val (.int x0), .val (.int x1), .val (.int x2), .val (.int x3), .val (.ref a1), .unset] [(.ref a1)] := own_aload w at_86 rfl
    replace w : own_W K b0 Z n0 h2 1 4 89 #[.val (.int p0), .val (.int p1), .val (.int p2), .val (.int p3), .val (.int p4), .val (.int p5), .val (.int j), .val (.int x0), .val (.int x1), .val (.int x2), .val (.int x3), .val (.ref a1), .unset] [(.int (1 : Int32)), (.ref a1)] := own_iconst w at_88 rfl
    replace w : own_W K b0 Z n0 h2 1 4 91 #[.val (.int p0), .val (.int p1), .val (.int p2), .val (.int p3), .val (.int p4), .val (.int p5), .val (.int j), .val (.int x0), .val (.int x1), .val (.int x2), .val (.int x3), .val (.ref a1), .unset] [(.int x1), (.int (1 : Int32)), (.ref a1)] := own_iload w at_89 rfl
    obtain ⟨h3, w, A_a1, K_h3⟩ := own_iastore w at_91 A_a1 1 (by decide) (Nat.le_of_ble_eq_true rfl) g_a1 (l' := [x0, x1]) rfl
    replace w : own_W K b0 Z n0 h3 1 4 92 #[.val (.int p0), .val (.int p1), .val (.int p2), .val (.int p3), .val (.int p4), .val (.int p5), .val (.int j), .val (.int x0), .val (.int x1), .val (.int x2), .val (.int x3), .val (.ref a1), .unset] [] := w
    replace w : own_W K b0 Z n0 h3 1 4 94 #[.val (.int p0), .val (.int p1), .val (.int p2), .val (.int p3), .val (.int p4), .val (.int p5), .val (.int j), .val (.int x0), .val (.int x1), .val (.int x2), .val (.int x3), .val (.ref a1), .unset] [(.int j)] := own_iload w at_92 rfl
    replace w : own_W K b0 Z n0 h3 1 4 95 #[.val (.int p0), .val (.int p1), .val (.int p2), .val (.int p3), .val (.int p4), .val (.int p5), .val (.int j), .val (.int x0), .val (.int x1), .val (.int x2), .val (.int x3), .val (.ref a1), .unset] [(.int (2 : Int32)), (.int j)] := own_iconst w at_94 rfl
    replace w : own_W K b0 Z n0 h3 1 4 104 #[.val (.int p0), .val (.int p1), .val (.int p2), .val (.int p3), .val (.int p4), .val (.int p5), .val (.int j), .val (.int x0), .val (.int x1), .val (.int x2), .val (.int x3), .val (.ref a1), .unset] [] := own_icmpY (b := 2) w at_95 ek (by decide) (by unfold own_cd; decide) (by decide) (by decide)
    replace w : own_W K b0 Z n0 h3 1 4 106 #[.val (.int p0), .val (.int p1), .val (.int p2), .val (.int p3), .val (.int p4), .val (.int p5), .val (.int j), .val (.int x0), .val (.int x1), .val (.int x2), .val (.int x3), .val (.ref a1), .unset] [(.int j)] := own_iload w at_104 rfl
    replace w : own_W K b0 Z n0 h3 1 4 107 #[.val (.int p0), .val (.int p1), .val (.int p2), .val (.int p3), .val (.int p4), .val (.int p5), .val (.int j), .val (.int x0), .val (.int x1), .val (.int x2), .val (.int x3), .val (.ref a1), .unset] [(.int (3 : Int32)), (.int j)] := own_iconst w at_106 rfl
    replace w : own_W K b0 Z n0 h3 1 4 116 #[.val (.int p0), .val (.int p1), .val (.int p2), .val (.int p3), .val (.int p4), .val (.int p5), .val (.int j), .val (.int x0), .val (.int x1), .val (.int x2), .val (.int x3), .val (.ref a1), .unset] [] := own_icmpY (b := 3) w at_107 ek (by decide) (by unfold own_cd; decide) (by decide) (by decide)
    replace w : own_W K b0 Z n0 h3 1 4 118 #[.val (.int p0), .val (.int p1), .val (.int p2), .val (.int p3), .val (.int p4), .val (.int p5), .val (.int j), .val (.int x0), .val (.int x1), .val (.int x2), .val (.int x3), .val (.ref a1), .unset] [(.int j)] := own_iload w at_116 rfl
    replace w : own_W K b0 Z n0 h3 1 4 119 #[.val (.int p0), .val (.int p1), .val (.int p2), .val (.int p3), .val (.int p4), .val (.int p5), .val (.int j), .val (.int x0), .val (.int x1), .val (.int x2), .val (.int x3), .val (.ref a1), .unset] [(.int (1 : Int32)), (.int j)] := own_iconst w at_118 rfl
    replace w : own_W K b0 Z n0 h3 1 4 122 #[.val (.int p0), .val (.int p1), .val (.int p2), .val (.int p3), .val (.int p4), .val (.int p5), .val (.int j), .val (.int x0), .val (.int x1), .val (.int x2), .val (.int x3), .val (.ref a1), .unset] [] := own_icmpN (b := 1) w at_119 ek (by decide) (by unfold own_cn; decide)
    replace w : own_W K b0 Z n0 h3 1 4 124 #[.val (.int p0), .val (.int p1), .val (.int p2), .val (.int p3), .val (.int p4), .val (.int p5), .val (.int j), .val (.int x0), .val (.int x1), .val (.int x2), .val (.int x3), .val (.ref a1), .unset] [(.int x0)] := own_iload w at_122 rfl
    by_cases h0 : x0.toInt = 0
    · replace w : own_W K b0 Z n0 h3 1 4 127 #[.val (.int p0), .val (.int p1), .val (.int p2), .val (.int p3), .val (.int p4), .val (.int p5), .val (.int j), .val (.int x0), .val (.int x1), .val (.int x2), .val (.int x3), .val (.ref a1), .unset] [] := own_ifN (a := x0.toInt) w at_124 rfl h0
      replace w : own_W K b0 Z n0 h3 1 4 129 #[.val (.int p0), .val (.int p1), .val (.int p2), .val (.int p3), .val (.int p4), .val (.int p5), .val (.int j), .val (.int x0), .val (.int x1), .val (.int x2), .val (.int x3), .val (.ref a1), .unset] [(.int j)] := own_iload w at_127 rfl
      replace w : own_W K b0 Z n0 h3 1 4 130 #[.val (.int p0), .val (.int p1), .val (.int p2), .val (.int p3), .val (.int p4), .val (.int p5), .val (.int j), .val (.int x0), .val (.int x1), .val (.int x2), .val (.int x3), .val (.ref a1), .unset] [(.int (2 : Int32)), (.int j)] := own_iconst w at_129 rfl
      replace w : own_W K b0 Z n0 h3 1 4 133 #[.val (.int p0), .val (.int p1), .val (.int p2), .val (.int p3), .val (.int p4), .val (.int p5), .val (.int j), .val (.int x0), .val (.int x1), .val (.int x2), .val (.int x3), .val (.ref a1), .unset] [] := own_icmpN (b := 2) w at_130 ek (by decide) (by unfold own_cn; decide)
      replace w : own_W K b0 Z n0 h3 1 4 135 #[.val (.int p0), .val (.int p1), .val (.int p2), .val (.int p3), .val (.int p4), .val (.int p5), .val (.int j), .val (.int x0), .val (.int x1), .val (.int x2), .val (.int x3), .val (.ref a1), .unset] [(.int x1)] := own_iload w at_133 rfl
      replace w : own_W K b0 Z n0 h3 1 4 136 #[.val (.int p0), .val (.int p1), .val (.int p2), .val (.int p3), .val (.int p4), .val (.int p5), .val (.int j), .val (.int x0), .val (.int x1), .val (.int x2), .val (.int x3), .val (.ref a1), .unset] [(.int (1 : Int32)), (.int x1)] := own_iconst w at_135 rfl
      by_cases h1 : x1.toInt = 1
      · replace w : own_W K b0 Z n0 h3 1 4 139 #[.val (.int p0), .val (.int p1), .val (.int p2), .val (.int p3), .val (.int p4), .val (.int p5), .val (.int j), .val (.int x0), .val (.int x1), .val (.int x2), .val (.int x3), .val (.ref a1), .unset] [] := own_icmpN (a := x1.toInt) (b := 1) w at_136 rfl (by decide) h1
        replace w : own_W K b0 Z n0 h3 1 4 141 #[.val (.int p0), .val (.int p1), .val (.int p2), .val (.int p3), .val (.int p4), .val (.int p5), .val (.int j), .val (.int x0), .val (.int x1), .val (.int x2), .val (.int x3), .val (.ref a1), .unset] [(.int j)] := own_iload w at_139 rfl
        replace w : own_W K b0 Z n0 h3 1 4 142 #[.val (.int p0), .val (.int p1), .val (.int p2), .val (.int p3), .val (.int p4), .val (.int p5), .val (.int j), .val (.int x0), .val (.int x1), .val (.int x2), .val (.int x3), .val (.ref a1), .unset] [(.int (3 : Int32)), (.int j)] := own_iconst w at_141 rfl
        replace w : own_W K b0 Z n0 h3 1 4 151 #[.val (.int p0), .val (.int p1), .val (.int p2), .val (.int p3), .val (.int p4), .val (.int p5), .val (.int j), .val (.int x0), .val (.int x1), .val (.int x2), .val (.int x3), .val (.ref a1), .unset] [] := own_icmpY (b := 3) w at_142 ek (by decide) (by unfold own_cd; decide) (by decide) (by decide)
        replace w : own_W K b0 Z n0 h3 1 4 153 #[.val (.int p0), .val (.int p1), .val (.int p2), .val (.int p3), .val (.int p4), .val (.int p5), .val (.int j), .val (.int x0), .val (.int x1), .val (.int x2), .val (.int x3), .val (.ref a1), .unset] [(.int j)] := own_iload w at_151 rfl
        replace w : own_W K b0 Z n0 h3 1 4 154 #[.val (.int p0), .val (.int p1), .val (.int p2), .val (.int p3), .val (.int p4), .val (.int p5), .val (.int j), .val (.int x0), .val (.int x1), .val (.int x2), .val (.int x3), .val (.ref a1), .unset] [(.int (4 : Int32)), (.int j)] := own_iconst w at_153 rfl
        replace w : own_W K b0 Z n0 h3 1 4 163 #[.val (.int p0), .val (.int p1), .val (.int p2), .val (.int p3), .val (.int p4), .val (.int p5), .val (.int j), .val (.int x0), .val (.int x1), .val (.int x2), .val (.int x3), .val (.ref a1), .unset] [] := own_icmpY (b := 4) w at_154 ek (by decide) (by unfold own_cd; decide) (by decide) (by decide)
        replace w : own_W K b0 Z n0 h3 1 4 164 #[.val (.int p0), .val (.int p1), .val (.int p2), .val (.int p3), .val (.int p4), .val (.int p5), .val (.int j), .val (.int x0), .val (.int x1), .val (.int x2), .val (.int x3), .val (.ref a1), .unset] [(.int (1 : Int32))] := own_iconst w at_163 rfl
        replace w : own_W K b0 Z n0 h3 1 4 168 #[.val (.int p0), .val (.int p1), .val (.int p2), .val (.int p3), .val (.int p4), .val (.int p5), .val (.int j), .val (.int x0), .val (.int x1), .val (.int x2), .val (.int x3), .val (.ref a1), .unset] [(.int (1 : Int32))] := own_goto w at_164 (by decide) (by decide)
        replace w : own_W K b0 Z n0 h3 1 4 170 #[.val (.int p0), .val (.int p1), .val (.int p2), .val (.int p3), .val (.int p4), .val (.int p5), .val (.int j), .val (.int x0), .val (.int x1), .val (.int x2), .val (.int x3), .val (.ref a1), .val (.int (1 : Int32))] [] := own_istore w at_168 rfl
        replace w : own_W K b0 Z n0 h3 1 4 172 #[.val (.int p0), .val (.int p1), .val (.int p2), .val (.int p3), .val (.int p4), .val (.int p5), .val (.int j), .val (.int x0), .val (.int x1), .val (.int x2), .val (.int x3), .val (.ref a1), .val (.int (1 : Int32))] [(.ref a1)] := own_aload w at_170 rfl
        have ht : own_t [x0, x1] [x0, x1].length 0 = 1 := by
          show own_t [x0, x1] 2 0 = 1
          rw [show own_t [x0, x1] 2 0 = own_t [x0, x1] 1 1 from if_pos h0, show own_t [x0, x1] 1 1 = own_t [x0, x1] 0 2 from if_pos h1, show own_t [x0, x1] 0 2 = 1 from rfl]
        obtain ⟨_, _, ⟨rfl, rfl⟩, w⟩ := own_callS (By := b1) [(.ref a1)] w rfl at_172 (hw _ (List.mem_of_getElem? (i := 2) rfl)) (hw _ (List.mem_of_getElem? (i := 3) rfl)) (hw _ (List.mem_of_getElem? (i := 4) rfl)) (hw _ (List.mem_of_getElem? (i := 5) rfl)) (rm1 hw a1 [x0, x1] A_a1 (Nat.le_of_ble_eq_true rfl) (own_size w)) (by decide) pd_1 rfl rfl (by decide) (Nat.le_of_ble_eq_true rfl) (by decide) (by decide)
        replace w : own_W K b0 Z n0 h3 1 4 175 #[.val (.int p0), .val (.int p1), .val (.int p2), .val (.int p3), .val (.int p4), .val (.int p5), .val (.int j), .val (.int x0), .val (.int x1), .val (.int x2), .val (.int x3), .val (.ref a1), .val (.int (1 : Int32))] [(.int (own_t [x0, x1] [x0, x1].length 0))] := w
        rw [ht] at w
        replace w : own_W K b0 Z n0 h3 1 4 177 #[.val (.int p0), .val (.int p1), .val (.int p2), .val (.int p3), .val (.int p4), .val (.int p5), .val (.int j), .val (.int x0), .val (.int x1), .val (.int x2), .val (.int x3), .val (.ref a1), .val (.int (1 : Int32))] [(.int (1 : Int32)), (.int (1 : Int32))] := own_iload w at_175 rfl
        replace w : own_W K b0 Z n0 h3 1 4 180 #[.val (.int p0), .val (.int p1), .val (.int p2), .val (.int p3), .val (.int p4), .val (.int p5), .val (.int j), .val (.int x0), .val (.int x1), .val (.int x2), .val (.int x3), .val (.ref a1), .val (.int (1 : Int32))] [] := own_icmpN (a := 1) (b := 1) w at_177 (by decide) (by decide) rfl
        replace w : own_W K b0 Z n0 h3 1 4 181 #[.val (.int p0), .val (.int p1), .val (.int p2), .val (.int p3), .val (.int p4), .val (.int p5), .val (.int j), .val (.int x0), .val (.int x1), .val (.int x2), .val (.int x3), .val (.ref a1), .val (.int (1 : Int32))] [(.int (1 : Int32))] := own_iconst w at_180 rfl
        replace w : own_W K b0 Z n0 h3 1 4 185 #[.val (.int p0), .val (.int p1), .val (.int p2), .val (.int p3), .val (.int p4), .val (.int p5), .val (.int j), .val (.int x0), .val (.int x1), .val (.int x2), .val (.int x3), .val (.ref a1), .val (.int (1 : Int32))] [(.int (1 : Int32))] := own_goto w at_181 (by decide) (by decide)
        exact own_retZ w at_185 rfl (Or.inl rfl) rfl (by decide) (by decide)
      · replace w : own_W K b0 Z n0 h3 1 4 167 #[.val (.int p0), .val (.int p1), .val (.int p2), .val (.int p3), .val (.int p4), .val (.int p5), .val (.int j), .val (.int x0), .val (.int x1), .val (.int x2), .val (.int x3), .val (.ref a1), .unset] [] := own_icmpY (a := x1.toInt) (b := 1) w at_136 rfl (by decide) h1 (by decide) (by decide)
        replace w : own_W K b0 Z n0 h3 1 4 168 #[.val (.int p0), .val (.int p1), .val (.int p2), .val (.int p3), .val (.int p4), .val (.int p5), .val (.int j), .val (.int x0), .val (.int x1), .val (.int x2), .val (.int x3), .val (.ref a1), .unset] [(.int (0 : Int32))] := own_iconst w at_167 rfl
        replace w : own_W K b0 Z n0 h3 1 4 170 #[.val (.int p0), .val (.int p1), .val (.int p2), .val (.int p3), .val (.int p4), .val (.int p5), .val (.int j), .val (.int x0), .val (.int x1), .val (.int x2), .val (.int x3), .val (.ref a1), .val (.int (0 : Int32))] [] := own_istore w at_168 rfl
        replace w : own_W K b0 Z n0 h3 1 4 172 #[.val (.int p0), .val (.int p1), .val (.int p2), .val (.int p3), .val (.int p4), .val (.int p5), .val (.int j), .val (.int x0), .val (.int x1), .val (.int x2), .val (.int x3), .val (.ref a1), .val (.int (0 : Int32))] [(.ref a1)] := own_aload w at_170 rfl
        have ht : own_t [x0, x1] [x0, x1].length 0 = 0 := by
          show own_t [x0, x1] 2 0 = 0
          rw [show own_t [x0, x1] 2 0 = own_t [x0, x1] 1 1 from if_pos h0, show own_t [x0, x1] 1 1 = 0 from if_neg h1]
        obtain ⟨_, _, ⟨rfl, rfl⟩, w⟩ := own_callS (By := b1) [(.ref a1)] w rfl at_172 (hw _ (List.mem_of_getElem? (i := 2) rfl)) (hw _ (List.mem_of_getElem? (i := 3) rfl)) (hw _ (List.mem_of_getElem? (i := 4) rfl)) (hw _ (List.mem_of_getElem? (i := 5) rfl)) (rm1 hw a1 [x0, x1] A_a1 (Nat.le_of_ble_eq_true rfl) (own_size w)) (by decide) pd_1 rfl rfl (by decide) (Nat.le_of_ble_eq_true rfl) (by decide) (by decide)
        replace w : own_W K b0 Z n0 h3 1 4 175 #[.val (.int p0), .val (.int p1), .val (.int p2), .val (.int p3), .val (.int p4), .val (.int p5), .val (.int j), .val (.int x0), .val (.int x1), .val (.int x2), .val (.int x3), .val (.ref a1), .val (.int (0 : Int32))] [(.int (own_t [x0, x1] [x0, x1].length 0))] := w
        rw [ht] at w
        replace w : own_W K b0 Z n0 h3 1 4 177 #[.val (.int p0), .val (.int p1), .val (.int p2), .val (.int p3), .val (.int p4), .val (.int p5), .val (.int j), .val (.int x0), .val (.int x1), .val (.int x2), .val (.int x3), .val (.ref a1), .val (.int (0 : Int32))] [(.int (0 : Int32)), (.int (0 : Int32))] := own_iload w at_175 rfl
        replace w : own_W K b0 Z n0 h3 1 4 180 #[.val (.int p0), .val (.int p1), .val (.int p2), .val (.int p3), .val (.int p4), .val (.int p5), .val (.int j), .val (.int x0), .val (.int x1), .val (.int x2), .val (.int x3), .val (.ref a1), .val (.int (0 : Int32))] [] := own_icmpN (a := 0) (b := 0) w at_177 (by decide) (by decide) rfl
        replace w : own_W K b0 Z n0 h3 1 4 181 #[.val (.int p0), .val (.int p1), .val (.int p2), .val (.int p3), .val (.int p4), .val (.int p5), .val (.int j), .val (.int x0), .val (.int x1), .val (.int x2), .val (.int x3), .val (.ref a1), .val (.int (0 : Int32))] [(.int (1 : Int32))] := own_iconst w at_180 rfl
        replace w : own_W K b0 Z n0 h3 1 4 185 #[.val (.int p0), .val (.int p1), .val (.int p2), .val (.int p3), .val (.int p4), .val (.int p5), .val (.int j), .val (.int x0), .val (.int x1), .val (.int x2), .val (.int x3), .val (.ref a1), .val (.int (0 : Int32))] [(.int (1 : Int32))] := own_goto w at_181 (by decide) (by decide)
        exact own_retZ w at_185 rfl (Or.inl rfl) rfl (by decide) (by decide)
    · replace w : own_W K b0 Z n0 h3 1 4 167 #[.val (.int p0), .val (.int p1), .val (.int p2), .val (.int p3), .val (.int p4), .val (.int p5), .val (.int j), .val (.int x0), .val (.int x1), .val (.int x2), .val (.int x3), .val (.ref a1), .unset] [] := own_ifY (a := x0.toInt) w at_124 rfl h0 (by decide) (by decide)
      replace w : own_W K b0 Z n0 h3 1 4 168 #[.val (.int p0), .val (.int p1), .val (.int p2), .val (.int p3), .val (.int p4), .val (.int p5), .val (.int j), .val (.int x0), .val (.int x1), .val (.int x2), .val (.int x3), .val (.ref a1), .unset] [(.int (0 : Int32))] := own_iconst w at_167 rfl
      replace w : own_W K b0 Z n0 h3 1 4 170 #[.val (.int p0), .val (.int p1), .val (.int p2), .val (.int p3), .val (.int p4), .val (.int p5), .val (.int j), .val (.int x0), .val (.int x1), .val (.int x2), .val (.int x3), .val (.ref a1), .val (.int (0 : Int32))] [] := own_istore w at_168 rfl
      replace w : own_W K b0 Z n0 h3 1 4 172 #[.val (.int p0), .val (.int p1), .val (.int p2), .val (.int p3), .val (.int p4), .val (.int p5), .val (.int j), .val (.int x0), .val (.int x1), .val (.int x2), .val (.int x3), .val (.ref a1), .val (.int (0 : Int32))] [(.ref a1)] := own_aload w at_170 rfl
      have ht : own_t [x0, x1] [x0, x1].length 0 = 0 := by
        show own_t [x0, x1] 2 0 = 0
        rw [show own_t [x0, x1] 2 0 = 0 from if_neg h0]
      obtain ⟨_, _, ⟨rfl, rfl⟩, w⟩ := own_callS (By := b1) [(.ref a1)] w rfl at_172 (hw _ (List.mem_of_getElem? (i := 2) rfl)) (hw _ (List.mem_of_getElem? (i := 3) rfl)) (hw _ (List.mem_of_getElem? (i := 4) rfl)) (hw _ (List.mem_of_getElem? (i := 5) rfl)) (rm1 hw a1 [x0, x1] A_a1 (Nat.le_of_ble_eq_true rfl) (own_size w)) (by decide) pd_1 rfl rfl (by decide) (Nat.le_of_ble_eq_true rfl) (by decide) (by decide)
      replace w : own_W K b0 Z n0 h3 1 4 175 #[.val (.int p0), .val (.int p1), .val (.int p2), .val (.int p3), .val (.int p4), .val (.int p5), .val (.int j), .val (.int x0), .val (.int x1), .val (.int x2), .val (.int x3), .val (.ref a1), .val (.int (0 : Int32))] [(.int (own_t [x0, x1] [x0, x1].length 0))] := w
      rw [ht] at w
      replace w : own_W K b0 Z n0 h3 1 4 177 #[.val (.int p0), .val (.int p1), .val (.int p2), .val (.int p3), .val (.int p4), .val (.int p5), .val (.int j), .val (.int x0), .val (.int x1), .val (.int x2), .val (.int x3), .val (.ref a1), .val (.int (0 : Int32))] [(.int (0 : Int32)), (.int (0 : Int32))] := own_iload w at_175 rfl
      replace w : own_W K b0 Z n0 h3 1 4 180 #[.val (.int p0), .val (.int p1), .val (.int p2), .val (.int p3), .val (.int p4), .val (.int p5), .val (.int j), .val (.int x0), .val (.int x1), .val (.int x2), .val (.int x3), .val (.ref a1), .val (.int (0 : Int32))] [] := own_icmpN (a := 0) (b := 0) w at_177 (by decide) (by decide) rfl
      replace w : own_W K b0 Z n0 h3 1 4 181 #[.val (.int p0), .val (.int p1), .val (.int p2), .val (.int p3), .val (.int p4), .val (.int p5), .val (.int j), .val (.int x0), .val (.int x1), .val (.int x2), .val (.int x3), .val (.ref a1), .val (.int (0 : Int32))] [(.int (1 : Int32))] := own_iconst w at_180 rfl
      replace w : own_W K b0 Z n0 h3 1 4 185 #[.val (.int p0), .val (.int p1), .val (.int p2), .val (.int p3), .val (.int p4), .val (.int p5), .val (.int j), .val (.int x0), .val (.int x1), .val (.int x2), .val (.int x3), .val (.ref a1), .val (.int (0 : Int32))] [(.int (1 : Int32))] := own_goto w at_181 (by decide) (by decide)
      exact own_retZ w at_185 rfl (Or.inl rfl) rfl (by decide) (by decide)
  · obtain ⟨h1, a1, w, s_a1, g_a1, E_a1, A_a1⟩ := own_newI w at_65 (hw _ (List.mem_of_getElem? (i := 1) rfl)) rfl 3 4 ek (by decide) (by decide) (by decide) (by decide) (l' := [0, 0, 0]) rfl
    replace w : own_W K b0 Z n0 h1 1 4 67 #[.val (.int p0), .val (.int p1), .val (.int p2), .val (.int p3), .val (.int p4), .val (.int p5), .val (.int j), .val (.int x0), .val (.int x1), .val (.int x2), .val (.int x3), .unset, .unset] [(.ref a1)] := w
    replace A_a1 : own_A .int Z h1 a1 [0, 0, 0] := A_a1
    have ek : j.toInt = 3 := ek
    replace w : own_W K b0 Z n0 h1 1 4 69 #[.val (.int p0), .val (.int p1), .val (.int p2), .val (.int p3), .val (.int p4), .val (.int p5), .val (.int j), .val (.int x0), .val (.int x1), .val (.int x2), .val (.int x3), .val (.ref a1), .unset] [] := own_astore w at_67 rfl
    replace w : own_W K b0 Z n0 h1 1 4 71 #[.val (.int p0), .val (.int p1), .val (.int p2), .val (.int p3), .val (.int p4), .val (.int p5), .val (.int j), .val (.int x0), .val (.int x1), .val (.int x2), .val (.int x3), .val (.ref a1), .unset] [(.int j)] := own_iload w at_69 rfl
    replace w : own_W K b0 Z n0 h1 1 4 74 #[.val (.int p0), .val (.int p1), .val (.int p2), .val (.int p3), .val (.int p4), .val (.int p5), .val (.int j), .val (.int x0), .val (.int x1), .val (.int x2), .val (.int x3), .val (.ref a1), .unset] [] := own_ifN w at_71 ek (by unfold own_cn; decide)
    replace w : own_W K b0 Z n0 h1 1 4 76 #[.val (.int p0), .val (.int p1), .val (.int p2), .val (.int p3), .val (.int p4), .val (.int p5), .val (.int j), .val (.int x0), .val (.int x1), .val (.int x2), .val (.int x3), .val (.ref a1), .unset] [(.ref a1)] := own_aload w at_74 rfl
    replace w : own_W K b0 Z n0 h1 1 4 77 #[.val (.int p0), .val (.int p1), .val (.int p2), .val (.int p3), .val (.int p4), .val (.int p5), .val (.int j), .val (.int x0), .val (.int x1), .val (.int x2), .val (.int x3), .val (.ref a1), .unset] [(.int (0 : Int32)), (.ref a1)] := own_iconst w at_76 rfl
    replace w : own_W K b0 Z n0 h1 1 4 79 #[.val (.int p0), .val (.int p1), .val (.int p2), .val (.int p3), .val (.int p4), .val (.int p5), .val (.int j), .val (.int x0), .val (.int x1), .val (.int x2), .val (.int x3), .val (.ref a1), .unset] [(.int x0), (.int (0 : Int32)), (.ref a1)] := own_iload w at_77 rfl
    obtain ⟨h4, w, A_a1, K_h4⟩ := own_iastore w at_79 A_a1 0 (by decide) (Nat.le_of_ble_eq_true rfl) g_a1 (l' := [x0, 0, 0]) rfl
    replace w : own_W K b0 Z n0 h4 1 4 80 #[.val (.int p0), .val (.int p1), .val (.int p2), .val (.int p3), .val (.int p4), .val (.int p5), .val (.int j), .val (.int x0), .val (.int x1), .val (.int x2), .val (.int x3), .val (.ref a1), .unset] [] := w
    replace w : own_W K b0 Z n0 h4 1 4 82 #[.val (.int p0), .val (.int p1), .val (.int p2), .val (.int p3), .val (.int p4), .val (.int p5), .val (.int j), .val (.int x0), .val (.int x1), .val (.int x2), .val (.int x3), .val (.ref a1), .unset] [(.int j)] := own_iload w at_80 rfl
    replace w : own_W K b0 Z n0 h4 1 4 83 #[.val (.int p0), .val (.int p1), .val (.int p2), .val (.int p3), .val (.int p4), .val (.int p5), .val (.int j), .val (.int x0), .val (.int x1), .val (.int x2), .val (.int x3), .val (.ref a1), .unset] [(.int (1 : Int32)), (.int j)] := own_iconst w at_82 rfl
    replace w : own_W K b0 Z n0 h4 1 4 86 #[.val (.int p0), .val (.int p1), .val (.int p2), .val (.int p3), .val (.int p4), .val (.int p5), .val (.int j), .val (.int x0), .val (.int x1), .val (.int x2), .val (.int x3), .val (.ref a1), .unset] [] := own_icmpN (b := 1) w at_83 ek (by decide) (by unfold own_cn; decide)
    replace w : own_W K b0 Z n0 h4 1 4 88 #[.val (.int p0), .val (.int p1), .val (.int p2), .val (.int p3), .val (.int p4), .val (.int p5), .val (.int j), .val (.int x0), .val (.int x1), .val (.int x2), .val (.int x3), .val (.ref a1), .unset] [(.ref a1)] := own_aload w at_86 rfl
    replace w : own_W K b0 Z n0 h4 1 4 89 #[.val (.int p0), .val (.int p1), .val (.int p2), .val (.int p3), .val (.int p4), .val (.int p5), .val (.int j), .val (.int x0), .val (.int x1), .val (.int x2), .val (.int x3), .val (.ref a1), .unset] [(.int (1 : Int32)), (.ref a1)] := own_iconst w at_88 rfl
    replace w : own_W K b0 Z n0 h4 1 4 91 #[.val (.int p0), .val (.int p1), .val (.int p2), .val (.int p3), .val (.int p4), .val (.int p5), .val (.int j), .val (.int x0), .val (.int x1), .val (.int x2), .val (.int x3), .val (.ref a1), .unset] [(.int x1), (.int (1 : Int32)), (.ref a1)] := own_iload w at_89 rfl
    obtain ⟨h5, w, A_a1, K_h5⟩ := own_iastore w at_91 A_a1 1 (by decide) (Nat.le_of_ble_eq_true rfl) g_a1 (l' := [x0, x1, 0]) rfl
    replace w : own_W K b0 Z n0 h5 1 4 92 #[.val (.int p0), .val (.int p1), .val (.int p2), .val (.int p3), .val (.int p4), .val (.int p5), .val (.int j), .val (.int x0), .val (.int x1), .val (.int x2), .val (.int x3), .val (.ref a1), .unset] [] := w
    replace w : own_W K b0 Z n0 h5 1 4 94 #[.val (.int p0), .val (.int p1), .val (.int p2), .val (.int p3), .val (.int p4), .val (.int p5), .val (.int j), .val (.int x0), .val (.int x1), .val (.int x2), .val (.int x3), .val (.ref a1), .unset] [(.int j)] := own_iload w at_92 rfl
    replace w : own_W K b0 Z n0 h5 1 4 95 #[.val (.int p0), .val (.int p1), .val (.int p2), .val (.int p3), .val (.int p4), .val (.int p5), .val (.int j), .val (.int x0), .val (.int x1), .val (.int x2), .val (.int x3), .val (.ref a1), .unset] [(.int (2 : Int32)), (.int j)] := own_iconst w at_94 rfl
    replace w : own_W K b0 Z n0 h5 1 4 98 #[.val (.int p0), .val (.int p1), .val (.int p2), .val (.int p3), .val (.int p4), .val (.int p5), .val (.int j), .val (.int x0), .val (.int x1), .val (.int x2), .val (.int x3), .val (.ref a1), .unset] [] := own_icmpN (b := 2) w at_95 ek (by decide) (by unfold own_cn; decide)
    replace w : own_W K b0 Z n0 h5 1 4 100 #[.val (.int p0), .val (.int p1), .val (.int p2), .val (.int p3), .val (.int p4), .val (.int p5), .val (.int j), .val (.int x0), .val (.int x1), .val (.int x2), .val (.int x3), .val (.ref a1), .unset] [(.ref a1)] := own_aload w at_98 rfl
    replace w : own_W K b0 Z n0 h5 1 4 101 #[.val (.int p0), .val (.int p1), .val (.int p2), .val (.int p3), .val (.int p4), .val (.int p5), .val (.int j), .val (.int x0), .val (.int x1), .val (.int x2), .val (.int x3), .val (.ref a1), .unset] [(.int (2 : Int32)), (.ref a1)] := own_iconst w at_100 rfl
    replace w : own_W K b0 Z n0 h5 1 4 103 #[.val (.int p0), .val (.int p1), .val (.int p2), .val (.int p3), .val (.int p4), .val (.int p5), .val (.int j), .val (.int x0), .val (.int x1), .val (.int x2), .val (.int x3), .val (.ref a1), .unset] [(.int x2), (.int (2 : Int32)), (.ref a1)] := own_iload w at_101 rfl
    obtain ⟨h6, w, A_a1, K_h6⟩ := own_iastore w at_103 A_a1 2 (by decide) (Nat.le_of_ble_eq_true rfl) g_a1 (l' := [x0, x1, x2]) rfl
    replace w : own_W K b0 Z n0 h6 1 4 104 #[.val (.int p0), .val (.int p1), .val (.int p2), .val (.int p3), .val (.int p4), .val (.int p5), .val (.int j), .val (.int x0), .val (.int x1), .val (.int x2), .val (.int x3), .val (.ref a1), .unset] [] := w
    replace w : own_W K b0 Z n0 h6 1 4 106 #[.val (.int p0), .val (.int p1), .val (.int p2), .val (.int p3), .val (.int p4), .val (.int p5), .val (.int j), .val (.int x0), .val (.int x1), .val (.int x2), .val (.int x3), .val (.ref a1), .unset] [(.int j)] := own_iload w at_104 rfl
    replace w : own_W K b0 Z n0 h6 1 4 107 #[.val (.int p0), .val (.int p1), .val (.int p2), .val (.int p3), .val (.int p4), .val (.int p5), .val (.int j), .val (.int x0), .val (.int x1), .val (.int x2), .val (.int x3), .val (.ref a1), .unset] [(.int (3 : Int32)), (.int j)] := own_iconst w at_106 rfl
    replace w : own_W K b0 Z n0 h6 1 4 116 #[.val (.int p0), .val (.int p1), .val (.int p2), .val (.int p3), .val (.int p4), .val (.int p5), .val (.int j), .val (.int x0), .val (.int x1), .val (.int x2), .val (.int x3), .val (.ref a1), .unset] [] := own_icmpY (b := 3) w at_107 ek (by decide) (by unfold own_cd; decide) (by decide) (by decide)
    replace w : own_W K b0 Z n0 h6 1 4 118 #[.val (.int p0), .val (.int p1), .val (.int p2), .val (.int p3), .val (.int p4), .val (.int p5), .val (.int j), .val (.int x0), .val (.int x1), .val (.int x2), .val (.int x3), .val (.ref a1), .unset] [(.int j)] := own_iload w at_116 rfl
    replace w : own_W K b0 Z n0 h6 1 4 119 #[.val (.int p0), .val (.int p1), .val (.int p2), .val (.int p3), .val (.int p4), .val (.int p5), .val (.int j), .val (.int x0), .val (.int x1), .val (.int x2), .val (.int x3), .val (.ref a1), .unset] [(.int (1 : Int32)), (.int j)] := own_iconst w at_118 rfl
    replace w : own_W K b0 Z n0 h6 1 4 122 #[.val (.int p0), .val (.int p1), .val (.int p2), .val (.int p3), .val (.int p4), .val (.int p5), .val (.int j), .val (.int x0), .val (.int x1), .val (.int x2), .val (.int x3), .val (.ref a1), .unset] [] := own_icmpN (b := 1) w at_119 ek (by decide) (by unfold own_cn; decide)
    replace w : own_W K b0 Z n0 h6 1 4 124 #[.val (.int p0), .val (.int p1), .val (.int p2), .val (.int p3), .val (.int p4), .val (.int p5), .val (.int j), .val (.int x0), .val (.int x1), .val (.int x2), .val (.int x3), .val (.ref a1), .unset] [(.int x0)] := own_iload w at_122 rfl
    by_cases h0 : x0.toInt = 0
    · replace w : own_W K b0 Z n0 h6 1 4 127 #[.val (.int p0), .val (.int p1), .val (.int p2), .val (.int p3), .val (.int p4), .val (.int p5), .val (.int j), .val (.int x0), .val (.int x1), .val (.int x2), .val (.int x3), .val (.ref a1), .unset] [] := own_ifN (a := x0.toInt) w at_124 rfl h0
      replace w : own_W K b0 Z n0 h6 1 4 129 #[.val (.int p0), .val (.int p1), .val (.int p2), .val (.int p3), .val (.int p4), .val (.int p5), .val (.int j), .val (.int x0), .val (.int x1), .val (.int x2), .val (.int x3), .val (.ref a1), .unset] [(.int j)] := own_iload w at_127 rfl
      replace w : own_W K b0 Z n0 h6 1 4 130 #[.val (.int p0), .val (.int p1), .val (.int p2), .val (.int p3), .val (.int p4), .val (.int p5), .val (.int j), .val (.int x0), .val (.int x1), .val (.int x2), .val (.int x3), .val (.ref a1), .unset] [(.int (2 : Int32)), (.int j)] := own_iconst w at_129 rfl
      replace w : own_W K b0 Z n0 h6 1 4 133 #[.val (.int p0), .val (.int p1), .val (.int p2), .val (.int p3), .val (.int p4), .val (.int p5), .val (.int j), .val (.int x0), .val (.int x1), .val (.int x2), .val (.int x3), .val (.ref a1), .unset] [] := own_icmpN (b := 2) w at_130 ek (by decide) (by unfold own_cn; decide)
      replace w : own_W K b0 Z n0 h6 1 4 135 #[.val (.int p0), .val (.int p1), .val (.int p2), .val (.int p3), .val (.int p4), .val (.int p5), .val (.int j), .val (.int x0), .val (.int x1), .val (.int x2), .val (.int x3), .val (.ref a1), .unset] [(.int x1)] := own_iload w at_133 rfl
      replace w : own_W K b0 Z n0 h6 1 4 136 #[.val (.int p0), .val (.int p1), .val (.int p2), .val (.int p3), .val (.int p4), .val (.int p5), .val (.int j), .val (.int x0), .val (.int x1), .val (.int x2), .val (.int x3), .val (.ref a1), .unset] [(.int (1 : Int32)), (.int x1)] := own_iconst w at_135 rfl
      by_cases h1 : x1.toInt = 1
      · replace w : own_W K b0 Z n0 h6 1 4 139 #[.val (.int p0), .val (.int p1), .val (.int p2), .val (.int p3), .val (.int p4), .val (.int p5), .val (.int j), .val (.int x0), .val (.int x1), .val (.int x2), .val (.int x3), .val (.ref a1), .unset] [] := own_icmpN (a := x1.toInt) (b := 1) w at_136 rfl (by decide) h1
        replace w : own_W K b0 Z n0 h6 1 4 141 #[.val (.int p0), .val (.int p1), .val (.int p2), .val (.int p3), .val (.int p4), .val (.int p5), .val (.int j), .val (.int x0), .val (.int x1), .val (.int x2), .val (.int x3), .val (.ref a1), .unset] [(.int j)] := own_iload w at_139 rfl
        replace w : own_W K b0 Z n0 h6 1 4 142 #[.val (.int p0), .val (.int p1), .val (.int p2), .val (.int p3), .val (.int p4), .val (.int p5), .val (.int j), .val (.int x0), .val (.int x1), .val (.int x2), .val (.int x3), .val (.ref a1), .unset] [(.int (3 : Int32)), (.int j)] := own_iconst w at_141 rfl
        replace w : own_W K b0 Z n0 h6 1 4 145 #[.val (.int p0), .val (.int p1), .val (.int p2), .val (.int p3), .val (.int p4), .val (.int p5), .val (.int j), .val (.int x0), .val (.int x1), .val (.int x2), .val (.int x3), .val (.ref a1), .unset] [] := own_icmpN (b := 3) w at_142 ek (by decide) (by unfold own_cn; decide)
        replace w : own_W K b0 Z n0 h6 1 4 147 #[.val (.int p0), .val (.int p1), .val (.int p2), .val (.int p3), .val (.int p4), .val (.int p5), .val (.int j), .val (.int x0), .val (.int x1), .val (.int x2), .val (.int x3), .val (.ref a1), .unset] [(.int x2)] := own_iload w at_145 rfl
        replace w : own_W K b0 Z n0 h6 1 4 148 #[.val (.int p0), .val (.int p1), .val (.int p2), .val (.int p3), .val (.int p4), .val (.int p5), .val (.int j), .val (.int x0), .val (.int x1), .val (.int x2), .val (.int x3), .val (.ref a1), .unset] [(.int (2 : Int32)), (.int x2)] := own_iconst w at_147 rfl
        by_cases h2 : x2.toInt = 2
        · replace w : own_W K b0 Z n0 h6 1 4 151 #[.val (.int p0), .val (.int p1), .val (.int p2), .val (.int p3), .val (.int p4), .val (.int p5), .val (.int j), .val (.int x0), .val (.int x1), .val (.int x2), .val (.int x3), .val (.ref a1), .unset] [] := own_icmpN (a := x2.toInt) (b := 2) w at_148 rfl (by decide) h2
          replace w : own_W K b0 Z n0 h6 1 4 153 #[.val (.int p0), .val (.int p1), .val (.int p2), .val (.int p3), .val (.int p4), .val (.int p5), .val (.int j), .val (.int x0), .val (.int x1), .val (.int x2), .val (.int x3), .val (.ref a1), .unset] [(.int j)] := own_iload w at_151 rfl
          replace w : own_W K b0 Z n0 h6 1 4 154 #[.val (.int p0), .val (.int p1), .val (.int p2), .val (.int p3), .val (.int p4), .val (.int p5), .val (.int j), .val (.int x0), .val (.int x1), .val (.int x2), .val (.int x3), .val (.ref a1), .unset] [(.int (4 : Int32)), (.int j)] := own_iconst w at_153 rfl
          replace w : own_W K b0 Z n0 h6 1 4 163 #[.val (.int p0), .val (.int p1), .val (.int p2), .val (.int p3), .val (.int p4), .val (.int p5), .val (.int j), .val (.int x0), .val (.int x1), .val (.int x2), .val (.int x3), .val (.ref a1), .unset] [] := own_icmpY (b := 4) w at_154 ek (by decide) (by unfold own_cd; decide) (by decide) (by decide)
          replace w : own_W K b0 Z n0 h6 1 4 164 #[.val (.int p0), .val (.int p1), .val (.int p2), .val (.int p3), .val (.int p4), .val (.int p5), .val (.int j), .val (.int x0), .val (.int x1), .val (.int x2), .val (.int x3), .val (.ref a1), .unset] [(.int (1 : Int32))] := own_iconst w at_163 rfl
          replace w : own_W K b0 Z n0 h6 1 4 168 #[.val (.int p0), .val (.int p1), .val (.int p2), .val (.int p3), .val (.int p4), .val (.int p5), .val (.int j), .val (.int x0), .val (.int x1), .val (.int x2), .val (.int x3), .val (.ref a1), .unset] [(.int (1 : Int32))] := own_goto w at_164 (by decide) (by decide)
          replace w : own_W K b0 Z n0 h6 1 4 170 #[.val (.int p0), .val (.int p1), .val (.int p2), .val (.int p3), .val (.int p4), .val (.int p5), .val (.int j), .val (.int x0), .val (.int x1), .val (.int x2), .val (.int x3), .val (.ref a1), .val (.int (1 : Int32))] [] := own_istore w at_168 rfl
          replace w : own_W K b0 Z n0 h6 1 4 172 #[.val (.int p0), .val (.int p1), .val (.int p2), .val (.int p3), .val (.int p4), .val (.int p5), .val (.int j), .val (.int x0), .val (.int x1), .val (.int x2), .val (.int x3), .val (.ref a1), .val (.int (1 : Int32))] [(.ref a1)] := own_aload w at_170 rfl
          have ht : own_t [x0, x1, x2] [x0, x1, x2].length 0 = 1 := by
            show own_t [x0, x1, x2] 3 0 = 1
            rw [show own_t [x0, x1, x2] 3 0 = own_t [x0, x1, x2] 2 1 from if_pos h0, show own_t [x0, x1, x2] 2 1 = own_t [x0, x1, x2] 1 2 from if_pos h1, show own_t [x0, x1, x2] 1 2 = own_t [x0, x1, x2] 0 3 from if_pos h2, show own_t [x0, x1, x2] 0 3 = 1 from rfl]
          obtain ⟨_, _, ⟨rfl, rfl⟩, w⟩ := own_callS (By := b1) [(.ref a1)] w rfl at_172 (hw _ (List.mem_of_getElem? (i := 2) rfl)) (hw _ (List.mem_of_getElem? (i := 3) rfl)) (hw _ (List.mem_of_getElem? (i := 4) rfl)) (hw _ (List.mem_of_getElem? (i := 5) rfl)) (rm1 hw a1 [x0, x1, x2] A_a1 (Nat.le_of_ble_eq_true rfl) (own_size w)) (by decide) pd_1 rfl rfl (by decide) (Nat.le_of_ble_eq_true rfl) (by decide) (by decide)
          replace w : own_W K b0 Z n0 h6 1 4 175 #[.val (.int p0), .val (.int p1), .val (.int p2), .val (.int p3), .val (.int p4), .val (.int p5), .val (.int j), .val (.int x0), .val (.int x1), .val (.int x2), .val (.int x3), .val (.ref a1), .val (.int (1 : Int32))] [(.int (own_t [x0, x1, x2] [x0, x1, x2].length 0))] := w
          rw [ht] at w
          replace w : own_W K b0 Z n0 h6 1 4 177 #[.val (.int p0), .val (.int p1), .val (.int p2), .val (.int p3), .val (.int p4), .val (.int p5), .val (.int j), .val (.int x0), .val (.int x1), .val (.int x2), .val (.int x3), .val (.ref a1), .val (.int (1 : Int32))] [(.int (1 : Int32)), (.int (1 : Int32))] := own_iload w at_175 rfl
          replace w : own_W K b0 Z n0 h6 1 4 180 #[.val (.int p0), .val (.int p1), .val (.int p2), .val (.int p3), .val (.int p4), .val (.int p5), .val (.int j), .val (.int x0), .val (.int x1), .val (.int x2), .val (.int x3), .val (.ref a1), .val (.int (1 : Int32))] [] := own_icmpN (a := 1) (b := 1) w at_177 (by decide) (by decide) rfl
          replace w : own_W K b0 Z n0 h6 1 4 181 #[.val (.int p0), .val (.int p1), .val (.int p2), .val (.int p3), .val (.int p4), .val (.int p5), .val (.int j), .val (.int x0), .val (.int x1), .val (.int x2), .val (.int x3), .val (.ref a1), .val (.int (1 : Int32))] [(.int (1 : Int32))] := own_iconst w at_180 rfl
          replace w : own_W K b0 Z n0 h6 1 4 185 #[.val (.int p0), .val (.int p1), .val (.int p2), .val (.int p3), .val (.int p4), .val (.int p5), .val (.int j), .val (.int x0), .val (.int x1), .val (.int x2), .val (.int x3), .val (.ref a1), .val (.int (1 : Int32))] [(.int (1 : Int32))] := own_goto w at_181 (by decide) (by decide)
          exact own_retZ w at_185 rfl (Or.inl rfl) rfl (by decide) (by decide)
        · replace w : own_W K b0 Z n0 h6 1 4 167 #[.val (.int p0), .val (.int p1), .val (.int p2), .val (.int p3), .val (.int p4), .val (.int p5), .val (.int j), .val (.int x0), .val (.int x1), .val (.int x2), .val (.int x3), .val (.ref a1), .unset] [] := own_icmpY (a := x2.toInt) (b := 2) w at_148 rfl (by decide) h2 (by decide) (by decide)
          replace w : own_W K b0 Z n0 h6 1 4 168 #[.val (.int p0), .val (.int p1), .val (.int p2), .val (.int p3), .val (.int p4), .val (.int p5), .val (.int j), .val (.int x0), .val (.int x1), .val (.int x2), .val (.int x3), .val (.ref a1), .unset] [(.int (0 : Int32))] := own_iconst w at_167 rfl
          replace w : own_W K b0 Z n0 h6 1 4 170 #[.val (.int p0), .val (.int p1), .val (.int p2), .val (.int p3), .val (.int p4), .val (.int p5), .val (.int j), .val (.int x0), .val (.int x1), .val (.int x2), .val (.int x3), .val (.ref a1), .val (.int (0 : Int32))] [] := own_istore w at_168 rfl
          replace w : own_W K b0 Z n0 h6 1 4 172 #[.val (.int p0), .val (.int p1), .val (.int p2), .val (.int p3), .val (.int p4), .val (.int p5), .val (.int j), .val (.int x0), .val (.int x1), .val (.int x2), .val (.int x3), .val (.ref a1), .val (.int (0 : Int32))] [(.ref a1)] := own_aload w at_170 rfl
          have ht : own_t [x0, x1, x2] [x0, x1, x2].length 0 = 0 := by
            show own_t [x0, x1, x2] 3 0 = 0
            rw [show own_t [x0, x1, x2] 3 0 = own_t [x0, x1, x2] 2 1 from if_pos h0, show own_t [x0, x1, x2] 2 1 = own_t [x0, x1, x2] 1 2 from if_pos h1, show own_t [x0, x1, x2] 1 2 = 0 from if_neg h2]
          obtain ⟨_, _, ⟨rfl, rfl⟩, w⟩ := own_callS (By := b1) [(.ref a1)] w rfl at_172 (hw _ (List.mem_of_getElem? (i := 2) rfl)) (hw _ (List.mem_of_getElem? (i := 3) rfl)) (hw _ (List.mem_of_getElem? (i := 4) rfl)) (hw _ (List.mem_of_getElem? (i := 5) rfl)) (rm1 hw a1 [x0, x1, x2] A_a1 (Nat.le_of_ble_eq_true rfl) (own_size w)) (by decide) pd_1 rfl rfl (by decide) (Nat.le_of_ble_eq_true rfl) (by decide) (by decide)
          replace w : own_W K b0 Z n0 h6 1 4 175 #[.val (.int p0), .val (.int p1), .val (.int p2), .val (.int p3), .val (.int p4), .val (.int p5), .val (.int j), .val (.int x0), .val (.int x1), .val (.int x2), .val (.int x3), .val (.ref a1), .val (.int (0 : Int32))] [(.int (own_t [x0, x1, x2] [x0, x1, x2].length 0))] := w
          rw [ht] at w
          replace w : own_W K b0 Z n0 h6 1 4 177 #[.val (.int p0), .val (.int p1), .val (.int p2), .val (.int p3), .val (.int p4), .val (.int p5), .val (.int j), .val (.int x0), .val (.int x1), .val (.int x2), .val (.int x3), .val (.ref a1), .val (.int (0 : Int32))] [(.int (0 : Int32)), (.int (0 : Int32))] := own_iload w at_175 rfl
          replace w : own_W K b0 Z n0 h6 1 4 180 #[.val (.int p0), .val (.int p1), .val (.int p2), .val (.int p3), .val (.int p4), .val (.int p5), .val (.int j), .val (.int x0), .val (.int x1), .val (.int x2), .val (.int x3), .val (.ref a1), .val (.int (0 : Int32))] [] := own_icmpN (a := 0) (b := 0) w at_177 (by decide) (by decide) rfl
          replace w : own_W K b0 Z n0 h6 1 4 181 #[.val (.int p0), .val (.int p1), .val (.int p2), .val (.int p3), .val (.int p4), .val (.int p5), .val (.int j), .val (.int x0), .val (.int x1), .val (.int x2), .val (.int x3), .val (.ref a1), .val (.int (0 : Int32))] [(.int (1 : Int32))] := own_iconst w at_180 rfl
          replace w : own_W K b0 Z n0 h6 1 4 185 #[.val (.int p0), .val (.int p1), .val (.int p2), .val (.int p3), .val (.int p4), .val (.int p5), .val (.int j), .val (.int x0), .val (.int x1), .val (.int x2), .val (.int x3), .val (.ref a1), .val (.int (0 : Int32))] [(.int (1 : Int32))] := own_goto w at_181 (by decide) (by decide)
          exact own_retZ w at_185 rfl (Or.inl rfl) rfl (by decide) (by decide)
      · replace w : own_W K b0 Z n0 h6 1 4 167 #[.val (.int p0), .val (.int p1), .val (.int p2), .val (.int p3), .val (.int p4), .val (.int p5), .val (.int j), .val (.int x0), .val (.int x1), .val (.int x2), .val (.int x3), .val (.ref a1), .unset] [] := own_icmpY (a := x1.toInt) (b := 1) w at_136 rfl (by decide) h1 (by decide) (by decide)
        replace w : own_W K b0 Z n0 h6 1 4 168 #[.val (.int p0), .val (.int p1), .val (.int p2), .val (.int p3), .val (.int p4), .val (.int p5), .val (.int j), .val (.int x0), .val (.int x1), .val (.int x2), .val (.int x3), .val (.ref a1), .unset] [(.int (0 : Int32))] := own_iconst w at_167 rfl
        replace w : own_W K b0 Z n0 h6 1 4 170 #[.val (.int p0), .val (.int p1), .val (.int p2), .val (.int p3), .val (.int p4), .val (.int p5), .val (.int j), .val (.int x0), .val (.int x1), .val (.int x2), .val (.int x3), .val (.ref a1), .val (.int (0 : Int32))] [] := own_istore w at_168 rfl
        replace w : own_W K b0 Z n0 h6 1 4 172 #[.val (.int p0), .val (.int p1), .val (.int p2), .val (.int p3), .val (.int p4), .val (.int p5), .val (.int j), .val (.int x0), .val (.int x1), .val (.int x2), .val (.int x3), .val (.ref a1), .val (.int (0 : Int32))] [(.ref a1)] := own_aload w at_170 rfl
        have ht : own_t [x0, x1, x2] [x0, x1, x2].length 0 = 0 := by
          show own_t [x0, x1, x2] 3 0 = 0
          rw [show own_t [x0, x1, x2] 3 0 = own_t [x0, x1, x2] 2 1 from if_pos h0, show own_t [x0, x1, x2] 2 1 = 0 from if_neg h1]
        obtain ⟨_, _, ⟨rfl, rfl⟩, w⟩ := own_callS (By := b1) [(.ref a1)] w rfl at_172 (hw _ (List.mem_of_getElem? (i := 2) rfl)) (hw _ (List.mem_of_getElem? (i := 3) rfl)) (hw _ (List.mem_of_getElem? (i := 4) rfl)) (hw _ (List.mem_of_getElem? (i := 5) rfl)) (rm1 hw a1 [x0, x1, x2] A_a1 (Nat.le_of_ble_eq_true rfl) (own_size w)) (by decide) pd_1 rfl rfl (by decide) (Nat.le_of_ble_eq_true rfl) (by decide) (by decide)
        replace w : own_W K b0 Z n0 h6 1 4 175 #[.val (.int p0), .val (.int p1), .val (.int p2), .val (.int p3), .val (.int p4), .val (.int p5), .val (.int j), .val (.int x0), .val (.int x1), .val (.int x2), .val (.int x3), .val (.ref a1), .val (.int (0 : Int32))] [(.int (own_t [x0, x1, x2] [x0, x1, x2].length 0))] := w
        rw [ht] at w
        replace w : own_W K b0 Z n0 h6 1 4 177 #[.val (.int p0), .val (.int p1), .val (.int p2), .val (.int p3), .val (.int p4), .val (.int p5), .val (.int j), .val (.int x0), .val (.int x1), .val (.int x2), .val (.int x3), .val (.ref a1), .val (.int (0 : Int32))] [(.int (0 : Int32)), (.int (0 : Int32))] := own_iload w at_175 rfl
        replace w : own_W K b0 Z n0 h6 1 4 180 #[.val (.int p0), .val (.int p1), .val (.int p2), .val (.int p3), .val (.int p4), .val (.int p5), .val (.int j), .val (.int x0), .val (.int x1), .val (.int x2), .val (.int x3), .val (.ref a1), .val (.int (0 : Int32))] [] := own_icmpN (a := 0) (b := 0) w at_177 (by decide) (by decide) rfl
        replace w : own_W K b0 Z n0 h6 1 4 181 #[.val (.int p0), .val (.int p1), .val (.int p2), .val (.int p3), .val (.int p4), .val (.int p5), .val (.int j), .val (.int x0), .val (.int x1), .val (.int x2), .val (.int x3), .val (.ref a1), .val (.int (0 : Int32))] [(.int (1 : Int32))] := own_iconst w at_180 rfl
        replace w : own_W K b0 Z n0 h6 1 4 185 #[.val (.int p0), .val (.int p1), .val (.int p2), .val (.int p3), .val (.int p4), .val (.int p5), .val (.int j), .val (.int x0), .val (.int x1), .val (.int x2), .val (.int x3), .val (.ref a1), .val (.int (0 : Int32))] [(.int (1 : Int32))] := own_goto w at_181 (by decide) (by decide)
        exact own_retZ w at_185 rfl (Or.inl rfl) rfl (by decide) (by decide)
    · replace w : own_W K b0 Z n0 h6 1 4 167 #[.val (.int p0), .val (.int p1), .val (.int p2), .val (.int p3), .val (.int p4), .val (.int p5), .val (.int j), .val (.int x0), .val (.int x1), .val (.int x2), .val (.int x3), .val (.ref a1), .unset] [] := own_ifY (a := x0.toInt) w at_124 rfl h0 (by decide) (by decide)
      replace w : own_W K b0 Z n0 h6 1 4 168 #[.val (.int p0), .val (.int p1), .val (.int p2), .val (.int p3), .val (.int p4), .val (.int p5), .val (.int j), .val (.int x0), .val (.int x1), .val (.int x2), .val (.int x3), .val (.ref a1), .unset] [(.int (0 : Int32))] := own_iconst w at_167 rfl
      replace w : own_W K b0 Z n0 h6 1 4 170 #[.val (.int p0), .val (.int p1), .val (.int p2), .val (.int p3), .val (.int p4), .val (.int p5), .val (.int j), .val (.int x0), .val (.int x1), .val (.int x2), .val (.int x3), .val (.ref a1), .val (.int (0 : Int32))] [] := own_istore w at_168 rfl
      replace w : own_W K b0 Z n0 h6 1 4 172 #[.val (.int p0), .val (.int p1), .val (.int p2), .val (.int p3), .val (.int p4), .val (.int p5), .val (.int j), .val (.int x0), .val (.int x1), .val (.int x2), .val (.int x3), .val (.ref a1), .val (.int (0 : Int32))] [(.ref a1)] := own_aload w at_170 rfl
      have ht : own_t [x0, x1, x2] [x0, x1, x2].length 0 = 0 := by
        show own_t [x0, x1, x2] 3 0 = 0
        rw [show own_t [x0, x1, x2] 3 0 = 0 from if_neg h0]
      obtain ⟨_, _, ⟨rfl, rfl⟩, w⟩ := own_callS (By := b1) [(.ref a1)] w rfl at_172 (hw _ (List.mem_of_getElem? (i := 2) rfl)) (hw _ (List.mem_of_getElem? (i := 3) rfl)) (hw _ (List.mem_of_getElem? (i := 4) rfl)) (hw _ (List.mem_of_getElem? (i := 5) rfl)) (rm1 hw a1 [x0, x1, x2] A_a1 (Nat.le_of_ble_eq_true rfl) (own_size w)) (by decide) pd_1 rfl rfl (by decide) (Nat.le_of_ble_eq_true rfl) (by decide) (by decide)
      replace w : own_W K b0 Z n0 h6 1 4 175 #[.val (.int p0), .val (.int p1), .val (.int p2), .val (.int p3), .val (.int p4), .val (.int p5), .val (.int j), .val (.int x0), .val (.int x1), .val (.int x2), .val (.int x3), .val (.ref a1), .val (.int (0 : Int32))] [(.int (own_t [x0, x1, x2] [x0, x1, x2].length 0))] := w
      rw [ht] at w
      replace w : own_W K b0 Z n0 h6 1 4 177 #[.val (.int p0), .val (.int p1), .val (.int p2), .val (.int p3), .val (.int p4), .val (.int p5), .val (.int j), .val (.int x0), .val (.int x1), .val (.int x2), .val (.int x3), .val (.ref a1), .val (.int (0 : Int32))] [(.int (0 : Int32)), (.int (0 : Int32))] := own_iload w at_175 rfl
      replace w : own_W K b0 Z n0 h6 1 4 180 #[.val (.int p0), .val (.int p1), .val (.int p2), .val (.int p3), .val (.int p4), .val (.int p5), .val (.int j), .val (.int x0), .val (.int x1), .val (.int x2), .val (.int x3), .val (.ref a1), .val (.int (0 : Int32))] [] := own_icmpN (a := 0) (b := 0) w at_177 (by decide) (by decide) rfl
      replace w : own_W K b0 Z n0 h6 1 4 181 #[.val (.int p0), .val (.int p1), .val (.int p2), .val (.int p3), .val (.int p4), .val (.int p5), .val (.int j), .val (.int x0), .val (.int x1), .val (.int x2), .val (.int x3), .val (.ref a1), .val (.int (0 : Int32))] [(.int (1 : Int32))] := own_iconst w at_180 rfl
      replace w : own_W K b0 Z n0 h6 1 4 185 #[.val (.int p0), .val (.int p1), .val (.int p2), .val (.int p3), .val (.int p4), .val (.int p5), .val (.int j), .val (.int x0), .val (.int x1), .val (.int x2), .val (.int x3), .val (.ref a1), .val (.int (0 : Int32))] [(.int (1 : Int32))] := own_goto w at_181 (by decide) (by decide)
      exact own_retZ w at_185 rfl (Or.inl rfl) rfl (by decide) (by decide)
  · obtain ⟨h1, a1, w, s_a1, g_a1, E_a1, A_a1⟩ := own_newI w at_65 (hw _ (List.mem_of_getElem? (i := 1) rfl)) rfl 4 4 ek (by decide) (by decide) (by decide) (by decide) (l' := [0, 0, 0, 0]) rfl
    replace w : own_W K b0 Z n0 h1 1 4 67 #[.val (.int p0), .val (.int p1), .val (.int p2), .val (.int p3), .val (.int p4), .val (.int p5), .val (.int j), .val (.int x0), .val (.int x1), .val (.int x2), .val (.int x3), .unset, .unset] [(.ref a1)] := w
    replace A_a1 : own_A .int Z h1 a1 [0, 0, 0, 0] := A_a1
    have ek : j.toInt = 4 := ek
    replace w : own_W K b0 Z n0 h1 1 4 69 #[.val (.int p0), .val (.int p1), .val (.int p2), .val (.int p3), .val (.int p4), .val (.int p5), .val (.int j), .val (.int x0), .val (.int x1), .val (.int x2), .val (.int x3), .val (.ref a1), .unset] [] := own_astore w at_67 rfl
    replace w : own_W K b0 Z n0 h1 1 4 71 #[.val (.int p0), .val (.int p1), .val (.int p2), .val (.int p3), .val (.int p4), .val (.int p5), .val (.int j), .val (.int x0), .val (.int x1), .val (.int x2), .val (.int x3), .val (.ref a1), .unset] [(.int j)] := own_iload w at_69 rfl
    replace w : own_W K b0 Z n0 h1 1 4 74 #[.val (.int p0), .val (.int p1), .val (.int p2), .val (.int p3), .val (.int p4), .val (.int p5), .val (.int j), .val (.int x0), .val (.int x1), .val (.int x2), .val (.int x3), .val (.ref a1), .unset] [] := own_ifN w at_71 ek (by unfold own_cn; decide)
    replace w : own_W K b0 Z n0 h1 1 4 76 #[.val (.int p0), .val (.int p1), .val (.int p2), .val (.int p3), .val (.int p4), .val (.int p5), .val (.int j), .val (.int x0), .val (.int x1), .val (.int x2), .val (.int x3), .val (.ref a1), .unset] [(.ref a1)] := own_aload w at_74 rfl
    replace w : own_W K b0 Z n0 h1 1 4 77 #[.val (.int p0), .val (.int p1), .val (.int p2), .val (.int p3), .val (.int p4), .val (.int p5), .val (.int j), .val (.int x0), .val (.int x1), .val (.int x2), .val (.int x3), .val (.ref a1), .unset] [(.int (0 : Int32)), (.ref a1)] := own_iconst w at_76 rfl
    replace w : own_W K b0 Z n0 h1 1 4 79 #[.val (.int p0), .val (.int p1), .val (.int p2), .val (.int p3), .val (.int p4), .val (.int p5), .val (.int j), .val (.int x0), .val (.int x1), .val (.int x2), .val (.int x3), .val (.ref a1), .unset] [(.int x0), (.int (0 : Int32)), (.ref a1)] := own_iload w at_77 rfl
    obtain ⟨h7, w, A_a1, K_h7⟩ := own_iastore w at_79 A_a1 0 (by decide) (Nat.le_of_ble_eq_true rfl) g_a1 (l' := [x0, 0, 0, 0]) rfl
    replace w : own_W K b0 Z n0 h7 1 4 80 #[.val (.int p0), .val (.int p1), .val (.int p2), .val (.int p3), .val (.int p4), .val (.int p5), .val (.int j), .val (.int x0), .val (.int x1), .val (.int x2), .val (.int x3), .val (.ref a1), .unset] [] := w
    replace w : own_W K b0 Z n0 h7 1 4 82 #[.val (.int p0), .val (.int p1), .val (.int p2), .val (.int p3), .val (.int p4), .val (.int p5), .val (.int j), .val (.int x0), .val (.int x1), .val (.int x2), .val (.int x3), .val (.ref a1), .unset] [(.int j)] := own_iload w at_80 rfl
    replace w : own_W K b0 Z n0 h7 1 4 83 #[.val (.int p0), .val (.int p1), .val (.int p2), .val (.int p3), .val (.int p4), .val (.int p5), .val (.int j), .val (.int x0), .val (.int x1), .val (.int x2), .val (.int x3), .val (.ref a1), .unset] [(.int (1 : Int32)), (.int j)] := own_iconst w at_82 rfl
    replace w : own_W K b0 Z n0 h7 1 4 86 #[.val (.int p0), .val (.int p1), .val (.int p2), .val (.int p3), .val (.int p4), .val (.int p5), .val (.int j), .val (.int x0), .val (.int x1), .val (.int x2), .val (.int x3), .val (.ref a1), .unset] [] := own_icmpN (b := 1) w at_83 ek (by decide) (by unfold own_cn; decide)
    replace w : own_W K b0 Z n0 h7 1 4 88 #[.val (.int p0), .val (.int p1), .val (.int p2), .val (.int p3), .val (.int p4), .val (.int p5), .val (.int j), .val (.int x0), .val (.int x1), .val (.int x2), .val (.int x3), .val (.ref a1), .unset] [(.ref a1)] := own_aload w at_86 rfl
    replace w : own_W K b0 Z n0 h7 1 4 89 #[.val (.int p0), .val (.int p1), .val (.int p2), .val (.int p3), .val (.int p4), .val (.int p5), .val (.int j), .val (.int x0), .val (.int x1), .val (.int x2), .val (.int x3), .val (.ref a1), .unset] [(.int (1 : Int32)), (.ref a1)] := own_iconst w at_88 rfl
    replace w : own_W K b0 Z n0 h7 1 4 91 #[.val (.int p0), .val (.int p1), .val (.int p2), .val (.int p3), .val (.int p4), .val (.int p5), .val (.int j), .val (.int x0), .val (.int x1), .val (.int x2), .val (.int x3), .val (.ref a1), .unset] [(.int x1), (.int (1 : Int32)), (.ref a1)] := own_iload w at_89 rfl
    obtain ⟨h8, w, A_a1, K_h8⟩ := own_iastore w at_91 A_a1 1 (by decide) (Nat.le_of_ble_eq_true rfl) g_a1 (l' := [x0, x1, 0, 0]) rfl
    replace w : own_W K b0 Z n0 h8 1 4 92 #[.val (.int p0), .val (.int p1), .val (.int p2), .val (.int p3), .val (.int p4), .val (.int p5), .val (.int j), .val (.int x0), .val (.int x1), .val (.int x2), .val (.int x3), .val (.ref a1), .unset] [] := w
    replace w : own_W K b0 Z n0 h8 1 4 94 #[.val (.int p0), .val (.int p1), .val (.int p2), .val (.int p3), .val (.int p4), .val (.int p5), .val (.int j), .val (.int x0), .val (.int x1), .val (.int x2), .val (.int x3), .val (.ref a1), .unset] [(.int j)] := own_iload w at_92 rfl
    replace w : own_W K b0 Z n0 h8 1 4 95 #[.val (.int p0), .val (.int p1), .val (.int p2), .val (.int p3), .val (.int p4), .val (.int p5), .val (.int j), .val (.int x0), .val (.int x1), .val (.int x2), .val (.int x3), .val (.ref a1), .unset] [(.int (2 : Int32)), (.int j)] := own_iconst w at_94 rfl
    replace w : own_W K b0 Z n0 h8 1 4 98 #[.val (.int p0), .val (.int p1), .val (.int p2), .val (.int p3), .val (.int p4), .val (.int p5), .val (.int j), .val (.int x0), .val (.int x1), .val (.int x2), .val (.int x3), .val (.ref a1), .unset] [] := own_icmpN (b := 2) w at_95 ek (by decide) (by unfold own_cn; decide)
    replace w : own_W K b0 Z n0 h8 1 4 100 #[.val (.int p0), .val (.int p1), .val (.int p2), .val (.int p3), .val (.int p4), .val (.int p5), .val (.int j), .val (.int x0), .val (.int x1), .val (.int x2), .val (.int x3), .val (.ref a1), .unset] [(.ref a1)] := own_aload w at_98 rfl
    replace w : own_W K b0 Z n0 h8 1 4 101 #[.val (.int p0), .val (.int p1), .val (.int p2), .val (.int p3), .val (.int p4), .val (.int p5), .val (.int j), .val (.int x0), .val (.int x1), .val (.int x2), .val (.int x3), .val (.ref a1), .unset] [(.int (2 : Int32)), (.ref a1)] := own_iconst w at_100 rfl
    replace w : own_W K b0 Z n0 h8 1 4 103 #[.val (.int p0), .val (.int p1), .val (.int p2), .val (.int p3), .val (.int p4), .val (.int p5), .val (.int j), .val (.int x0), .val (.int x1), .val (.int x2), .val (.int x3), .val (.ref a1), .unset] [(.int x2), (.int (2 : Int32)), (.ref a1)] := own_iload w at_101 rfl
    obtain ⟨h9, w, A_a1, K_h9⟩ := own_iastore w at_103 A_a1 2 (by decide) (Nat.le_of_ble_eq_true rfl) g_a1 (l' := [x0, x1, x2, 0]) rfl
    replace w : own_W K b0 Z n0 h9 1 4 104 #[.val (.int p0), .val (.int p1), .val (.int p2), .val (.int p3), .val (.int p4), .val (.int p5), .val (.int j), .val (.int x0), .val (.int x1), .val (.int x2), .val (.int x3), .val (.ref a1), .unset] [] := w
    replace w : own_W K b0 Z n0 h9 1 4 106 #[.val (.int p0), .val (.int p1), .val (.int p2), .val (.int p3), .val (.int p4), .val (.int p5), .val (.int j), .val (.int x0), .val (.int x1), .val (.int x2), .val (.int x3), .val (.ref a1), .unset] [(.int j)] := own_iload w at_104 rfl
    replace w : own_W K b0 Z n0 h9 1 4 107 #[.val (.int p0), .val (.int p1), .val (.int p2), .val (.int p3), .val (.int p4), .val (.int p5), .val (.int j), .val (.int x0), .val (.int x1), .val (.int x2), .val (.int x3), .val (.ref a1), .unset] [(.int (3 : Int32)), (.int j)] := own_iconst w at_106 rfl
    replace w : own_W K b0 Z n0 h9 1 4 110 #[.val (.int p0), .val (.int p1), .val (.int p2), .val (.int p3), .val (.int p4), .val (.int p5), .val (.int j), .val (.int x0), .val (.int x1), .val (.int x2), .val (.int x3), .val (.ref a1), .unset] [] := own_icmpN (b := 3) w at_107 ek (by decide) (by unfold own_cn; decide)
    replace w : own_W K b0 Z n0 h9 1 4 112 #[.val (.int p0), .val (.int p1), .val (.int p2), .val (.int p3), .val (.int p4), .val (.int p5), .val (.int j), .val (.int x0), .val (.int x1), .val (.int x2), .val (.int x3), .val (.ref a1), .unset] [(.ref a1)] := own_aload w at_110 rfl
    replace w : own_W K b0 Z n0 h9 1 4 113 #[.val (.int p0), .val (.int p1), .val (.int p2), .val (.int p3), .val (.int p4), .val (.int p5), .val (.int j), .val (.int x0), .val (.int x1), .val (.int x2), .val (.int x3), .val (.ref a1), .unset] [(.int (3 : Int32)), (.ref a1)] := own_iconst w at_112 rfl
    replace w : own_W K b0 Z n0 h9 1 4 115 #[.val (.int p0), .val (.int p1), .val (.int p2), .val (.int p3), .val (.int p4), .val (.int p5), .val (.int j), .val (.int x0), .val (.int x1), .val (.int x2), .val (.int x3), .val (.ref a1), .unset] [(.int x3), (.int (3 : Int32)), (.ref a1)] := own_iload w at_113 rfl
    obtain ⟨h10, w, A_a1, K_h10⟩ := own_iastore w at_115 A_a1 3 (by decide) (Nat.le_of_ble_eq_true rfl) g_a1 (l' := [x0, x1, x2, x3]) rfl
    replace w : own_W K b0 Z n0 h10 1 4 116 #[.val (.int p0), .val (.int p1), .val (.int p2), .val (.int p3), .val (.int p4), .val (.int p5), .val (.int j), .val (.int x0), .val (.int x1), .val (.int x2), .val (.int x3), .val (.ref a1), .unset] [] := w
    replace w : own_W K b0 Z n0 h10 1 4 118 #[.val (.int p0), .val (.int p1), .val (.int p2), .val (.int p3), .val (.int p4), .val (.int p5), .val (.int j), .val (.int x0), .val (.int x1), .val (.int x2), .val (.int x3), .val (.ref a1), .unset] [(.int j)] := own_iload w at_116 rfl
    replace w : own_W K b0 Z n0 h10 1 4 119 #[.val (.int p0), .val (.int p1), .val (.int p2), .val (.int p3), .val (.int p4), .val (.int p5), .val (.int j), .val (.int x0), .val (.int x1), .val (.int x2), .val (.int x3), .val (.ref a1), .unset] [(.int (1 : Int32)), (.int j)] := own_iconst w at_118 rfl
    replace w : own_W K b0 Z n0 h10 1 4 122 #[.val (.int p0), .val (.int p1), .val (.int p2), .val (.int p3), .val (.int p4), .val (.int p5), .val (.int j), .val (.int x0), .val (.int x1), .val (.int x2), .val (.int x3), .val (.ref a1), .unset] [] := own_icmpN (b := 1) w at_119 ek (by decide) (by unfold own_cn; decide)
    replace w : own_W K b0 Z n0 h10 1 4 124 #[.val (.int p0), .val (.int p1), .val (.int p2), .val (.int p3), .val (.int p4), .val (.int p5), .val (.int j), .val (.int x0), .val (.int x1), .val (.int x2), .val (.int x3), .val (.ref a1), .unset] [(.int x0)] := own_iload w at_122 rfl
    by_cases h0 : x0.toInt = 0
    · replace w : own_W K b0 Z n0 h10 1 4 127 #[.val (.int p0), .val (.int p1), .val (.int p2), .val (.int p3), .val (.int p4), .val (.int p5), .val (.int j), .val (.int x0), .val (.int x1), .val (.int x2), .val (.int x3), .val (.ref a1), .unset] [] := own_ifN (a := x0.toInt) w at_124 rfl h0
      replace w : own_W K b0 Z n0 h10 1 4 129 #[.val (.int p0), .val (.int p1), .val (.int p2), .val (.int p3), .val (.int p4), .val (.int p5), .val (.int j), .val (.int x0), .val (.int x1), .val (.int x2), .val (.int x3), .val (.ref a1), .unset] [(.int j)] := own_iload w at_127 rfl
      replace w : own_W K b0 Z n0 h10 1 4 130 #[.val (.int p0), .val (.int p1), .val (.int p2), .val (.int p3), .val (.int p4), .val (.int p5), .val (.int j), .val (.int x0), .val (.int x1), .val (.int x2), .val (.int x3), .val (.ref a1), .unset] [(.int (2 : Int32)), (.int j)] := own_iconst w at_129 rfl
      replace w : own_W K b0 Z n0 h10 1 4 133 #[.val (.int p0), .val (.int p1), .val (.int p2), .val (.int p3), .val (.int p4), .val (.int p5), .val (.int j), .val (.int x0), .val (.int x1), .val (.int x2), .val (.int x3), .val (.ref a1), .unset] [] := own_icmpN (b := 2) w at_130 ek (by decide) (by unfold own_cn; decide)
      replace w : own_W K b0 Z n0 h10 1 4 135 #[.val (.int p0), .val (.int p1), .val (.int p2), .val (.int p3), .val (.int p4), .val (.int p5), .val (.int j), .val (.int x0), .val (.int x1), .val (.int x2), .val (.int x3), .val (.ref a1), .unset] [(.int x1)] := own_iload w at_133 rfl
      replace w : own_W K b0 Z n0 h10 1 4 136 #[.val (.int p0), .val (.int p1), .val (.int p2), .val (.int p3), .val (.int p4), .val (.int p5), .val (.int j), .val (.int x0), .val (.int x1), .val (.int x2), .val (.int x3), .val (.ref a1), .unset] [(.int (1 : Int32)), (.int x1)] := own_iconst w at_135 rfl
      by_cases h1 : x1.toInt = 1
      · replace w : own_W K b0 Z n0 h10 1 4 139 #[.val (.int p0), .val (.int p1), .val (.int p2), .val (.int p3), .val (.int p4), .val (.int p5), .val (.int j), .val (.int x0), .val (.int x1), .val (.int x2), .val (.int x3), .val (.ref a1), .unset] [] := own_icmpN (a := x1.toInt) (b := 1) w at_136 rfl (by decide) h1
        replace w : own_W K b0 Z n0 h10 1 4 141 #[.val (.int p0), .val (.int p1), .val (.int p2), .val (.int p3), .val (.int p4), .val (.int p5), .val (.int j), .val (.int x0), .val (.int x1), .val (.int x2), .val (.int x3), .val (.ref a1), .unset] [(.int j)] := own_iload w at_139 rfl
        replace w : own_W K b0 Z n0 h10 1 4 142 #[.val (.int p0), .val (.int p1), .val (.int p2), .val (.int p3), .val (.int p4), .val (.int p5), .val (.int j), .val (.int x0), .val (.int x1), .val (.int x2), .val (.int x3), .val (.ref a1), .unset] [(.int (3 : Int32)), (.int j)] := own_iconst w at_141 rfl
        replace w : own_W K b0 Z n0 h10 1 4 145 #[.val (.int p0), .val (.int p1), .val (.int p2), .val (.int p3), .val (.int p4), .val (.int p5), .val (.int j), .val (.int x0), .val (.int x1), .val (.int x2), .val (.int x3), .val (.ref a1), .unset] [] := own_icmpN (b := 3) w at_142 ek (by decide) (by unfold own_cn; decide)
        replace w : own_W K b0 Z n0 h10 1 4 147 #[.val (.int p0), .val (.int p1), .val (.int p2), .val (.int p3), .val (.int p4), .val (.int p5), .val (.int j), .val (.int x0), .val (.int x1), .val (.int x2), .val (.int x3), .val (.ref a1), .unset] [(.int x2)] := own_iload w at_145 rfl
        replace w : own_W K b0 Z n0 h10 1 4 148 #[.val (.int p0), .val (.int p1), .val (.int p2), .val (.int p3), .val (.int p4), .val (.int p5), .val (.int j), .val (.int x0), .val (.int x1), .val (.int x2), .val (.int x3), .val (.ref a1), .unset] [(.int (2 : Int32)), (.int x2)] := own_iconst w at_147 rfl
        by_cases h2 : x2.toInt = 2
        · replace w : own_W K b0 Z n0 h10 1 4 151 #[.val (.int p0), .val (.int p1), .val (.int p2), .val (.int p3), .val (.int p4), .val (.int p5), .val (.int j), .val (.int x0), .val (.int x1), .val (.int x2), .val (.int x3), .val (.ref a1), .unset] [] := own_icmpN (a := x2.toInt) (b := 2) w at_148 rfl (by decide) h2
          replace w : own_W K b0 Z n0 h10 1 4 153 #[.val (.int p0), .val (.int p1), .val (.int p2), .val (.int p3), .val (.int p4), .val (.int p5), .val (.int j), .val (.int x0), .val (.int x1), .val (.int x2), .val (.int x3), .val (.ref a1), .unset] [(.int j)] := own_iload w at_151 rfl
          replace w : own_W K b0 Z n0 h10 1 4 154 #[.val (.int p0), .val (.int p1), .val (.int p2), .val (.int p3), .val (.int p4), .val (.int p5), .val (.int j), .val (.int x0), .val (.int x1), .val (.int x2), .val (.int x3), .val (.ref a1), .unset] [(.int (4 : Int32)), (.int j)] := own_iconst w at_153 rfl
          replace w : own_W K b0 Z n0 h10 1 4 157 #[.val (.int p0), .val (.int p1), .val (.int p2), .val (.int p3), .val (.int p4), .val (.int p5), .val (.int j), .val (.int x0), .val (.int x1), .val (.int x2), .val (.int x3), .val (.ref a1), .unset] [] := own_icmpN (b := 4) w at_154 ek (by decide) (by unfold own_cn; decide)
          replace w : own_W K b0 Z n0 h10 1 4 159 #[.val (.int p0), .val (.int p1), .val (.int p2), .val (.int p3), .val (.int p4), .val (.int p5), .val (.int j), .val (.int x0), .val (.int x1), .val (.int x2), .val (.int x3), .val (.ref a1), .unset] [(.int x3)] := own_iload w at_157 rfl
          replace w : own_W K b0 Z n0 h10 1 4 160 #[.val (.int p0), .val (.int p1), .val (.int p2), .val (.int p3), .val (.int p4), .val (.int p5), .val (.int j), .val (.int x0), .val (.int x1), .val (.int x2), .val (.int x3), .val (.ref a1), .unset] [(.int (3 : Int32)), (.int x3)] := own_iconst w at_159 rfl
          by_cases h3 : x3.toInt = 3
          · replace w : own_W K b0 Z n0 h10 1 4 163 #[.val (.int p0), .val (.int p1), .val (.int p2), .val (.int p3), .val (.int p4), .val (.int p5), .val (.int j), .val (.int x0), .val (.int x1), .val (.int x2), .val (.int x3), .val (.ref a1), .unset] [] := own_icmpN (a := x3.toInt) (b := 3) w at_160 rfl (by decide) h3
            replace w : own_W K b0 Z n0 h10 1 4 164 #[.val (.int p0), .val (.int p1), .val (.int p2), .val (.int p3), .val (.int p4), .val (.int p5), .val (.int j), .val (.int x0), .val (.int x1), .val (.int x2), .val (.int x3), .val (.ref a1), .unset] [(.int (1 : Int32))] := own_iconst w at_163 rfl
            replace w : own_W K b0 Z n0 h10 1 4 168 #[.val (.int p0), .val (.int p1), .val (.int p2), .val (.int p3), .val (.int p4), .val (.int p5), .val (.int j), .val (.int x0), .val (.int x1), .val (.int x2), .val (.int x3), .val (.ref a1), .unset] [(.int (1 : Int32))] := own_goto w at_164 (by decide) (by decide)
            replace w : own_W K b0 Z n0 h10 1 4 170 #[.val (.int p0), .val (.int p1), .val (.int p2), .val (.int p3), .val (.int p4), .val (.int p5), .val (.int j), .val (.int x0), .val (.int x1), .val (.int x2), .val (.int x3), .val (.ref a1), .val (.int (1 : Int32))] [] := own_istore w at_168 rfl
            replace w : own_W K b0 Z n0 h10 1 4 172 #[.val (.int p0), .val (.int p1), .val (.int p2), .val (.int p3), .val (.int p4), .val (.int p5), .val (.int j), .val (.int x0), .val (.int x1), .val (.int x2), .val (.int x3), .val (.ref a1), .val (.int (1 : Int32))] [(.ref a1)] := own_aload w at_170 rfl
            have ht : own_t [x0, x1, x2, x3] [x0, x1, x2, x3].length 0 = 1 := by
              show own_t [x0, x1, x2, x3] 4 0 = 1
              rw [show own_t [x0, x1, x2, x3] 4 0 = own_t [x0, x1, x2, x3] 3 1 from if_pos h0, show own_t [x0, x1, x2, x3] 3 1 = own_t [x0, x1, x2, x3] 2 2 from if_pos h1, show own_t [x0, x1, x2, x3] 2 2 = own_t [x0, x1, x2, x3] 1 3 from if_pos h2, show own_t [x0, x1, x2, x3] 1 3 = own_t [x0, x1, x2, x3] 0 4 from if_pos h3, show own_t [x0, x1, x2, x3] 0 4 = 1 from rfl]
            obtain ⟨_, _, ⟨rfl, rfl⟩, w⟩ := own_callS (By := b1) [(.ref a1)] w rfl at_172 (hw _ (List.mem_of_getElem? (i := 2) rfl)) (hw _ (List.mem_of_getElem? (i := 3) rfl)) (hw _ (List.mem_of_getElem? (i := 4) rfl)) (hw _ (List.mem_of_getElem? (i := 5) rfl)) (rm1 hw a1 [x0, x1, x2, x3] A_a1 (Nat.le_of_ble_eq_true rfl) (own_size w)) (by decide) pd_1 rfl rfl (by decide) (Nat.le_of_ble_eq_true rfl) (by decide) (by decide)
            replace w : own_W K b0 Z n0 h10 1 4 175 #[.val (.int p0), .val (.int p1), .val (.int p2), .val (.int p3), .val (.int p4), .val (.int p5), .val (.int j), .val (.int x0), .val (.int x1), .val (.int x2), .val (.int x3), .val (.ref a1), .val (.int (1 : Int32))] [(.int (own_t [x0, x1, x2, x3] [x0, x1, x2, x3].length 0))] := w
            rw [ht] at w
            replace w : own_W K b0 Z n0 h10 1 4 177 #[.val (.int p0), .val (.int p1), .val (.int p2), .val (.int p3), .val (.int p4), .val (.int p5), .val (.int j), .val (.int x0), .val (.int x1), .val (.int x2), .val (.int x3), .val (.ref a1), .val (.int (1 : Int32))] [(.int (1 : Int32)), (.int (1 : Int32))] := own_iload w at_175 rfl
            replace w : own_W K b0 Z n0 h10 1 4 180 #[.val (.int p0), .val (.int p1), .val (.int p2), .val (.int p3), .val (.int p4), .val (.int p5), .val (.int j), .val (.int x0), .val (.int x1), .val (.int x2), .val (.int x3), .val (.ref a1), .val (.int (1 : Int32))] [] := own_icmpN (a := 1) (b := 1) w at_177 (by decide) (by decide) rfl
            replace w : own_W K b0 Z n0 h10 1 4 181 #[.val (.int p0), .val (.int p1), .val (.int p2), .val (.int p3), .val (.int p4), .val (.int p5), .val (.int j), .val (.int x0), .val (.int x1), .val (.int x2), .val (.int x3), .val (.ref a1), .val (.int (1 : Int32))] [(.int (1 : Int32))] := own_iconst w at_180 rfl
            replace w : own_W K b0 Z n0 h10 1 4 185 #[.val (.int p0), .val (.int p1), .val (.int p2), .val (.int p3), .val (.int p4), .val (.int p5), .val (.int j), .val (.int x0), .val (.int x1), .val (.int x2), .val (.int x3), .val (.ref a1), .val (.int (1 : Int32))] [(.int (1 : Int32))] := own_goto w at_181 (by decide) (by decide)
            exact own_retZ w at_185 rfl (Or.inl rfl) rfl (by decide) (by decide)
          · replace w : own_W K b0 Z n0 h10 1 4 167 #[.val (.int p0), .val (.int p1), .val (.int p2), .val (.int p3), .val (.int p4), .val (.int p5), .val (.int j), .val (.int x0), .val (.int x1), .val (.int x2), .val (.int x3), .val (.ref a1), .unset] [] := own_icmpY (a := x3.toInt) (b := 3) w at_160 rfl (by decide) h3 (by decide) (by decide)
            replace w : own_W K b0 Z n0 h10 1 4 168 #[.val (.int p0), .val (.int p1), .val (.int p2), .val (.int p3), .val (.int p4), .val (.int p5), .val (.int j), .val (.int x0), .val (.int x1), .val (.int x2), .val (.int x3), .val (.ref a1), .unset] [(.int (0 : Int32))] := own_iconst w at_167 rfl
            replace w : own_W K b0 Z n0 h10 1 4 170 #[.val (.int p0), .val (.int p1), .val (.int p2), .val (.int p3), .val (.int p4), .val (.int p5), .val (.int j), .val (.int x0), .val (.int x1), .val (.int x2), .val (.int x3), .val (.ref a1), .val (.int (0 : Int32))] [] := own_istore w at_168 rfl
            replace w : own_W K b0 Z n0 h10 1 4 172 #[.val (.int p0), .val (.int p1), .val (.int p2), .val (.int p3), .val (.int p4), .val (.int p5), .val (.int j), .val (.int x0), .val (.int x1), .val (.int x2), .val (.int x3), .val (.ref a1), .val (.int (0 : Int32))] [(.ref a1)] := own_aload w at_170 rfl
            have ht : own_t [x0, x1, x2, x3] [x0, x1, x2, x3].length 0 = 0 := by
              show own_t [x0, x1, x2, x3] 4 0 = 0
              rw [show own_t [x0, x1, x2, x3] 4 0 = own_t [x0, x1, x2, x3] 3 1 from if_pos h0, show own_t [x0, x1, x2, x3] 3 1 = own_t [x0, x1, x2, x3] 2 2 from if_pos h1, show own_t [x0, x1, x2, x3] 2 2 = own_t [x0, x1, x2, x3] 1 3 from if_pos h2, show own_t [x0, x1, x2, x3] 1 3 = 0 from if_neg h3]
            obtain ⟨_, _, ⟨rfl, rfl⟩, w⟩ := own_callS (By := b1) [(.ref a1)] w rfl at_172 (hw _ (List.mem_of_getElem? (i := 2) rfl)) (hw _ (List.mem_of_getElem? (i := 3) rfl)) (hw _ (List.mem_of_getElem? (i := 4) rfl)) (hw _ (List.mem_of_getElem? (i := 5) rfl)) (rm1 hw a1 [x0, x1, x2, x3] A_a1 (Nat.le_of_ble_eq_true rfl) (own_size w)) (by decide) pd_1 rfl rfl (by decide) (Nat.le_of_ble_eq_true rfl) (by decide) (by decide)
            replace w : own_W K b0 Z n0 h10 1 4 175 #[.val (.int p0), .val (.int p1), .val (.int p2), .val (.int p3), .val (.int p4), .val (.int p5), .val (.int j), .val (.int x0), .val (.int x1), .val (.int x2), .val (.int x3), .val (.ref a1), .val (.int (0 : Int32))] [(.int (own_t [x0, x1, x2, x3] [x0, x1, x2, x3].length 0))] := w
            rw [ht] at w
            replace w : own_W K b0 Z n0 h10 1 4 177 #[.val (.int p0), .val (.int p1), .val (.int p2), .val (.int p3), .val (.int p4), .val (.int p5), .val (.int j), .val (.int x0), .val (.int x1), .val (.int x2), .val (.int x3), .val (.ref a1), .val (.int (0 : Int32))] [(.int (0 : Int32)), (.int (0 : Int32))] := own_iload w at_175 rfl
            replace w : own_W K b0 Z n0 h10 1 4 180 #[.val (.int p0), .val (.int p1), .val (.int p2), .val (.int p3), .val (.int p4), .val (.int p5), .val (.int j), .val (.int x0), .val (.int x1), .val (.int x2), .val (.int x3), .val (.ref a1), .val (.int (0 : Int32))] [] := own_icmpN (a := 0) (b := 0) w at_177 (by decide) (by decide) rfl
            replace w : own_W K b0 Z n0 h10 1 4 181 #[.val (.int p0), .val (.int p1), .val (.int p2), .val (.int p3), .val (.int p4), .val (.int p5), .val (.int j), .val (.int x0), .val (.int x1), .val (.int x2), .val (.int x3), .val (.ref a1), .val (.int (0 : Int32))] [(.int (1 : Int32))] := own_iconst w at_180 rfl
            replace w : own_W K b0 Z n0 h10 1 4 185 #[.val (.int p0), .val (.int p1), .val (.int p2), .val (.int p3), .val (.int p4), .val (.int p5), .val (.int j), .val (.int x0), .val (.int x1), .val (.int x2), .val (.int x3), .val (.ref a1), .val (.int (0 : Int32))] [(.int (1 : Int32))] := own_goto w at_181 (by decide) (by decide)
            exact own_retZ w at_185 rfl (Or.inl rfl) rfl (by decide) (by decide)
        · replace w : own_W K b0 Z n0 h10 1 4 167 #[.val (.int p0), .val (.int p1), .val (.int p2), .val (.int p3), .val (.int p4), .val (.int p5), .val (.int j), .val (.int x0), .val (.int x1), .val (.int x2), .val (.int x3), .val (.ref a1), .unset] [] := own_icmpY (a := x2.toInt) (b := 2) w at_148 rfl (by decide) h2 (by decide) (by decide)
          replace w : own_W K b0 Z n0 h10 1 4 168 #[.val (.int p0), .val (.int p1), .val (.int p2), .val (.int p3), .val (.int p4), .val (.int p5), .val (.int j), .val (.int x0), .val (.int x1), .val (.int x2), .val (.int x3), .val (.ref a1), .unset] [(.int (0 : Int32))] := own_iconst w at_167 rfl
          replace w : own_W K b0 Z n0 h10 1 4 170 #[.val (.int p0), .val (.int p1), .val (.int p2), .val (.int p3), .val (.int p4), .val (.int p5), .val (.int j), .val (.int x0), .val (.int x1), .val (.int x2), .val (.int x3), .val (.ref a1), .val (.int (0 : Int32))] [] := own_istore w at_168 rfl
          replace w : own_W K b0 Z n0 h10 1 4 172 #[.val (.int p0), .val (.int p1), .val (.int p2), .val (.int p3), .val (.int p4), .val (.int p5), .val (.int j), .val (.int x0), .val (.int x1), .val (.int x2), .val (.int x3), .val (.ref a1), .val (.int (0 : Int32))] [(.ref a1)] := own_aload w at_170 rfl
          have ht : own_t [x0, x1, x2, x3] [x0, x1, x2, x3].length 0 = 0 := by
            show own_t [x0, x1, x2, x3] 4 0 = 0
            rw [show own_t [x0, x1, x2, x3] 4 0 = own_t [x0, x1, x2, x3] 3 1 from if_pos h0, show own_t [x0, x1, x2, x3] 3 1 = own_t [x0, x1, x2, x3] 2 2 from if_pos h1, show own_t [x0, x1, x2, x3] 2 2 = 0 from if_neg h2]
          obtain ⟨_, _, ⟨rfl, rfl⟩, w⟩ := own_callS (By := b1) [(.ref a1)] w rfl at_172 (hw _ (List.mem_of_getElem? (i := 2) rfl)) (hw _ (List.mem_of_getElem? (i := 3) rfl)) (hw _ (List.mem_of_getElem? (i := 4) rfl)) (hw _ (List.mem_of_getElem? (i := 5) rfl)) (rm1 hw a1 [x0, x1, x2, x3] A_a1 (Nat.le_of_ble_eq_true rfl) (own_size w)) (by decide) pd_1 rfl rfl (by decide) (Nat.le_of_ble_eq_true rfl) (by decide) (by decide)
          replace w : own_W K b0 Z n0 h10 1 4 175 #[.val (.int p0), .val (.int p1), .val (.int p2), .val (.int p3), .val (.int p4), .val (.int p5), .val (.int j), .val (.int x0), .val (.int x1), .val (.int x2), .val (.int x3), .val (.ref a1), .val (.int (0 : Int32))] [(.int (own_t [x0, x1, x2, x3] [x0, x1, x2, x3].length 0))] := w
          rw [ht] at w
          replace w : own_W K b0 Z n0 h10 1 4 177 #[.val (.int p0), .val (.int p1), .val (.int p2), .val (.int p3), .val (.int p4), .val (.int p5), .val (.int j), .val (.int x0), .val (.int x1), .val (.int x2), .val (.int x3), .val (.ref a1), .val (.int (0 : Int32))] [(.int (0 : Int32)), (.int (0 : Int32))] := own_iload w at_175 rfl
          replace w : own_W K b0 Z n0 h10 1 4 180 #[.val (.int p0), .val (.int p1), .val (.int p2), .val (.int p3), .val (.int p4), .val (.int p5), .val (.int j), .val (.int x0), .val (.int x1), .val (.int x2), .val (.int x3), .val (.ref a1), .val (.int (0 : Int32))] [] := own_icmpN (a := 0) (b := 0) w at_177 (by decide) (by decide) rfl
          replace w : own_W K b0 Z n0 h10 1 4 181 #[.val (.int p0), .val (.int p1), .val (.int p2), .val (.int p3), .val (.int p4), .val (.int p5), .val (.int j), .val (.int x0), .val (.int x1), .val (.int x2), .val (.int x3), .val (.ref a1), .val (.int (0 : Int32))] [(.int (1 : Int32))] := own_iconst w at_180 rfl
          replace w : own_W K b0 Z n0 h10 1 4 185 #[.val (.int p0), .val (.int p1), .val (.int p2), .val (.int p3), .val (.int p4), .val (.int p5), .val (.int j), .val (.int x0), .val (.int x1), .val (.int x2), .val (.int x3), .val (.ref a1), .val (.int (0 : Int32))] [(.int (1 : Int32))] := own_goto w at_181 (by decide) (by decide)
          exact own_retZ w at_185 rfl (Or.inl rfl) rfl (by decide) (by decide)
      · replace w : own_W K b0 Z n0 h10 1 4 167 #[.val (.int p0), .val (.int p1), .val (.int p2), .val (.int p3), .val (.int p4), .val (.int p5), .val (.int j), .val (.int x0), .val (.int x1), .val (.int x2), .val (.int x3), .val (.ref a1), .unset] [] := own_icmpY (a := x1.toInt) (b := 1) w at_136 rfl (by decide) h1 (by decide) (by decide)
        replace w : own_W K b0 Z n0 h10 1 4 168 #[.val (.int p0), .val (.int p1), .val (.int p2), .val (.int p3), .val (.int p4), .val (.int p5), .val (.int j), .val (.int x0), .val (.int x1), .val (.int x2), .val (.int x3), .val (.ref a1), .unset] [(.int (0 : Int32))] := own_iconst w at_167 rfl
        replace w : own_W K b0 Z n0 h10 1 4 170 #[.val (.int p0), .val (.int p1), .val (.int p2), .val (.int p3), .val (.int p4), .val (.int p5), .val (.int j), .val (.int x0), .val (.int x1), .val (.int x2), .val (.int x3), .val (.ref a1), .val (.int (0 : Int32))] [] := own_istore w at_168 rfl
        replace w : own_W K b0 Z n0 h10 1 4 172 #[.val (.int p0), .val (.int p1), .val (.int p2), .val (.int p3), .val (.int p4), .val (.int p5), .val (.int j), .val (.int x0), .val (.int x1), .val (.int x2), .val (.int x3), .val (.ref a1), .val (.int (0 : Int32))] [(.ref a1)] := own_aload w at_170 rfl
        have ht : own_t [x0, x1, x2, x3] [x0, x1, x2, x3].length 0 = 0 := by
          show own_t [x0, x1, x2, x3] 4 0 = 0
          rw [show own_t [x0, x1, x2, x3] 4 0 = own_t [x0, x1, x2, x3] 3 1 from if_pos h0, show own_t [x0, x1, x2, x3] 3 1 = 0 from if_neg h1]
        obtain ⟨_, _, ⟨rfl, rfl⟩, w⟩ := own_callS (By := b1) [(.ref a1)] w rfl at_172 (hw _ (List.mem_of_getElem? (i := 2) rfl)) (hw _ (List.mem_of_getElem? (i := 3) rfl)) (hw _ (List.mem_of_getElem? (i := 4) rfl)) (hw _ (List.mem_of_getElem? (i := 5) rfl)) (rm1 hw a1 [x0, x1, x2, x3] A_a1 (Nat.le_of_ble_eq_true rfl) (own_size w)) (by decide) pd_1 rfl rfl (by decide) (Nat.le_of_ble_eq_true rfl) (by decide) (by decide)
        replace w : own_W K b0 Z n0 h10 1 4 175 #[.val (.int p0), .val (.int p1), .val (.int p2), .val (.int p3), .val (.int p4), .val (.int p5), .val (.int j), .val (.int x0), .val (.int x1), .val (.int x2), .val (.int x3), .val (.ref a1), .val (.int (0 : Int32))] [(.int (own_t [x0, x1, x2, x3] [x0, x1, x2, x3].length 0))] := w
        rw [ht] at w
        replace w : own_W K b0 Z n0 h10 1 4 177 #[.val (.int p0), .val (.int p1), .val (.int p2), .val (.int p3), .val (.int p4), .val (.int p5), .val (.int j), .val (.int x0), .val (.int x1), .val (.int x2), .val (.int x3), .val (.ref a1), .val (.int (0 : Int32))] [(.int (0 : Int32)), (.int (0 : Int32))] := own_iload w at_175 rfl
        replace w : own_W K b0 Z n0 h10 1 4 180 #[.val (.int p0), .val (.int p1), .val (.int p2), .val (.int p3), .val (.int p4), .val (.int p5), .val (.int j), .val (.int x0), .val (.int x1), .val (.int x2), .val (.int x3), .val (.ref a1), .val (.int (0 : Int32))] [] := own_icmpN (a := 0) (b := 0) w at_177 (by decide) (by decide) rfl
        replace w : own_W K b0 Z n0 h10 1 4 181 #[.val (.int p0), .val (.int p1), .val (.int p2), .val (.int p3), .val (.int p4), .val (.int p5), .val (.int j), .val (.int x0), .val (.int x1), .val (.int x2), .val (.int x3), .val (.ref a1), .val (.int (0 : Int32))] [(.int (1 : Int32))] := own_iconst w at_180 rfl
        replace w : own_W K b0 Z n0 h10 1 4 185 #[.val (.int p0), .val (.int p1), .val (.int p2), .val (.int p3), .val (.int p4), .val (.int p5), .val (.int j), .val (.int x0), .val (.int x1), .val (.int x2), .val (.int x3), .val (.ref a1), .val (.int (0 : Int32))] [(.int (1 : Int32))] := own_goto w at_181 (by decide) (by decide)
        exact own_retZ w at_185 rfl (Or.inl rfl) rfl (by decide) (by decide)
    · replace w : own_W K b0 Z n0 h10 1 4 167 #[.val (.int p0), .val (.int p1), .val (.int p2), .val (.int p3), .val (.int p4), .val (.int p5), .val (.int j), .val (.int x0), .val (.int x1), .val (.int x2), .val (.int x3), .val (.ref a1), .unset] [] := own_ifY (a := x0.toInt) w at_124 rfl h0 (by decide) (by decide)
      replace w : own_W K b0 Z n0 h10 1 4 168 #[.val (.int p0), .val (.int p1), .val (.int p2), .val (.int p3), .val (.int p4), .val (.int p5), .val (.int j), .val (.int x0), .val (.int x1), .val (.int x2), .val (.int x3), .val (.ref a1), .unset] [(.int (0 : Int32))] := own_iconst w at_167 rfl
      replace w : own_W K b0 Z n0 h10 1 4 170 #[.val (.int p0), .val (.int p1), .val (.int p2), .val (.int p3), .val (.int p4), .val (.int p5), .val (.int j), .val (.int x0), .val (.int x1), .val (.int x2), .val (.int x3), .val (.ref a1), .val (.int (0 : Int32))] [] := own_istore w at_168 rfl
      replace w : own_W K b0 Z n0 h10 1 4 172 #[.val (.int p0), .val (.int p1), .val (.int p2), .val (.int p3), .val (.int p4), .val (.int p5), .val (.int j), .val (.int x0), .val (.int x1), .val (.int x2), .val (.int x3), .val (.ref a1), .val (.int (0 : Int32))] [(.ref a1)] := own_aload w at_170 rfl
      have ht : own_t [x0, x1, x2, x3] [x0, x1, x2, x3].length 0 = 0 := by
        show own_t [x0, x1, x2, x3] 4 0 = 0
        rw [show own_t [x0, x1, x2, x3] 4 0 = 0 from if_neg h0]
      obtain ⟨_, _, ⟨rfl, rfl⟩, w⟩ := own_callS (By := b1) [(.ref a1)] w rfl at_172 (hw _ (List.mem_of_getElem? (i := 2) rfl)) (hw _ (List.mem_of_getElem? (i := 3) rfl)) (hw _ (List.mem_of_getElem? (i := 4) rfl)) (hw _ (List.mem_of_getElem? (i := 5) rfl)) (rm1 hw a1 [x0, x1, x2, x3] A_a1 (Nat.le_of_ble_eq_true rfl) (own_size w)) (by decide) pd_1 rfl rfl (by decide) (Nat.le_of_ble_eq_true rfl) (by decide) (by decide)
      replace w : own_W K b0 Z n0 h10 1 4 175 #[.val (.int p0), .val (.int p1), .val (.int p2), .val (.int p3), .val (.int p4), .val (.int p5), .val (.int j), .val (.int x0), .val (.int x1), .val (.int x2), .val (.int x3), .val (.ref a1), .val (.int (0 : Int32))] [(.int (own_t [x0, x1, x2, x3] [x0, x1, x2, x3].length 0))] := w
      rw [ht] at w
      replace w : own_W K b0 Z n0 h10 1 4 177 #[.val (.int p0), .val (.int p1), .val (.int p2), .val (.int p3), .val (.int p4), .val (.int p5), .val (.int j), .val (.int x0), .val (.int x1), .val (.int x2), .val (.int x3), .val (.ref a1), .val (.int (0 : Int32))] [(.int (0 : Int32)), (.int (0 : Int32))] := own_iload w at_175 rfl
      replace w : own_W K b0 Z n0 h10 1 4 180 #[.val (.int p0), .val (.int p1), .val (.int p2), .val (.int p3), .val (.int p4), .val (.int p5), .val (.int j), .val (.int x0), .val (.int x1), .val (.int x2), .val (.int x3), .val (.ref a1), .val (.int (0 : Int32))] [] := own_icmpN (a := 0) (b := 0) w at_177 (by decide) (by decide) rfl
      replace w : own_W K b0 Z n0 h10 1 4 181 #[.val (.int p0), .val (.int p1), .val (.int p2), .val (.int p3), .val (.int p4), .val (.int p5), .val (.int j), .val (.int x0), .val (.int x1), .val (.int x2), .val (.int x3), .val (.ref a1), .val (.int (0 : Int32))] [(.int (1 : Int32))] := own_iconst w at_180 rfl
      replace w : own_W K b0 Z n0 h10 1 4 185 #[.val (.int p0), .val (.int p1), .val (.int p2), .val (.int p3), .val (.int p4), .val (.int p5), .val (.int j), .val (.int x0), .val (.int x1), .val (.int x2), .val (.int x3), .val (.ref a1), .val (.int (0 : Int32))] [(.int (1 : Int32))] := own_goto w at_181 (by decide) (by decide)
      exact own_retZ w at_185 rfl (Or.inl rfl) rfl (by decide) (by decide)
theorem rm0 {Z : State} {n0 : Nat} {h : Heap} {a0 : Array Value} (hw : ∀ d ∈ tables_1, d.before a0 Z = true) (p0 : Int32) (p1 : Int32) (p2 : Int32) (p3 : Int32) (p4 : Int32) (p5 : Int32) (hn : n0 ≤ h.size) : ∀ l, own_M l Z n0 b0 #[(.int p0), (.int p1), (.int p2), (.int p3), (.int p4), (.int p5)] h (fun v _ => v = some (.int 1)) :=
  fun l => own_enter hn pn_0 (ef_0 p0 p1 p2 p3 p4 p5) (fun K w => own_law0 hw p0 p1 p2 p3 p4 p5 w)
set_option maxRecDepth 65536 in
set_option maxHeartbeats 40000000 in
theorem comes_1 {Post : Tables → Env → Array Value → State → Outcome → State → Prop} (hpost : ∀ tb e args s v u, (limb_1_1.after args s (.returned v) u = true ∧ limb_1_2.after args s (.returned v) u = true ∧ True) → FrameEnd s (.returned v) u (Jvm.fieldLocs frame_1_writes args s ++ Jvm.arrayLocs frame_1_arrays args s ++ Jvm.staticLocs frame_1_statics s) 16 128 → Post tb e args s (.returned v) u) :
    ArmFor flags0 classFile x code maxLocals ret World_1 tables_1 room_1 Calls_1 rest_1 Pre_1 Post := by
  intro l hfl _ _ p e ha hc hk s m args below hf hA hF happ hP
  obtain ⟨hcalls, hrest, hpre⟩ := hP
  obtain ⟨-, -, -, hnamed, -, -, -, hat⟩ := (Spec.applies_iff hf).mp happ
  obtain ⟨hg, hn⟩ := and_e (Cond.before_iff.mp (show (Jvm.Cond.and given_1 narrow_1).before args s = true from hpre))
  obtain ⟨gc, t0⟩ := and_e hg
  obtain ⟨k0, t1⟩ := and_e t0
  obtain ⟨k1, t2⟩ := and_e t1
  obtain ⟨k2, t3⟩ := and_e t2
  obtain ⟨k3, t4⟩ := and_e t3
  obtain ⟨k4, t5⟩ := and_e t4
  have k5 := t5
  obtain ⟨w0, w1, w2, w3, w4, w5, rfl⟩ : ∃ w0 w1 w2 w3 w4 w5 : Value, args = #[w0, w1, w2, w3, w4, w5] := by
    have hs : args.size = 6 := by simpa [Cond.value, given_1] using gc
    obtain ⟨L⟩ := args
    match L, hs with
    | [w0, w1, w2, w3, w4, w5], _ => exact ⟨w0, w1, w2, w3, w4, w5, rfl⟩
  have hw := fun d (hd : d ∈ tables_1) => atoms_spec (ws := Jvm.Cond.code x code maxLocals ret :: tables_1) hat d (List.mem_cons_of_mem _ hd)
  obtain ⟨i0, ei0⟩ := is_v k0
  obtain rfl : w0 = (.int i0) := Option.some.inj ei0
  obtain ⟨i1, ei1⟩ := is_v k1
  obtain rfl : w1 = (.int i1) := Option.some.inj ei1
  obtain ⟨i2, ei2⟩ := is_v k2
  obtain rfl : w2 = (.int i2) := Option.some.inj ei2
  obtain ⟨i3, ei3⟩ := is_v k3
  obtain rfl : w3 = (.int i3) := Option.some.inj ei3
  obtain ⟨i4, ei4⟩ := is_v k4
  obtain rfl : w4 = (.int i4) := Option.some.inj ei4
  obtain ⟨i5, ei5⟩ := is_v k5
  obtain rfl : w5 = (.int i5) := Option.some.inj ei5
  obtain ⟨n, o, h1, h2, h3, _, L, rfl, ⟨rfl, N, -⟩, hq⟩ := rm0 (Z := s) (n0 := s.heap.size) (h := s.heap) hw i0 i1 i2 i3 i4 i5 (Nat.le_refl _) l tables_1 p e ha hc hk s m _ below hf ((Spec.applies_iff_loose hf).mp happ).1 ⟨rfl, State.Warmed39.refl s, rfl⟩ trivial
  refine ⟨n, _, h1, h2, h3, hpost _ _ _ _ _ _ ⟨Cond.after_iff.mpr rfl, Cond.after_iff.mpr (eq_i res_at (Term.int_eval (1)) rfl), trivial⟩ ⟨hq.1, hq.2.1, (hq.2.2.sift fun y hy => Or.inr (N y hy)).mono (by decide) (by decide)⟩⟩
theorem main_1_1 : Claimed_1_1 := comes_1 fun _ _ _ _ _ _ h hF => ⟨h.1, hF⟩
theorem main_1_2 : Claimed_1_2 := comes_1 fun _ _ _ _ _ _ h hF => ⟨h.2.1, hF⟩
end Jvm.Pilot.@@N@@
namespace Jvm.Pilot.@@N@@
open Jvm Jvm.ClassFile Sem Op Lib Jvm.Free Jvm.Stand Jvm.Pilot.@@N@@.Jvm.D
/-! MADE BY PROGRAM (witnessworld.py) out of the Statement's table words and the real class files: 9 classes; the members and pool entries that the words name. The judged class is class 1, her method 1. -/
namespace start1
open Jvm.ClassFile
def u (s : String) : CpInfo := .utf8 (stringToUtf16 s)
/-- a pool by its gaps: so many unusable entries, then the entry; so many at the end -/
def gap : Nat → List CpInfo → List CpInfo
  | 0, r => r
  | n + 1, r => .unusable :: gap n r
def poolList (es : List (Nat × CpInfo)) (last : Nat) : List CpInfo := es.foldr (fun e r => gap e.1 (e.2 :: r)) (gap last [])
def pool (es : List (Nat × CpInfo)) (last : Nat) : Array CpInfo := ⟨poolList es last⟩
def fileOf (pool : Array CpInfo) (this : Nat) (attrs : Array Attribute := #[]) (ms : Array MethodInfo := #[]) (fl : Nat := 33) (sup : Nat := 0) (ifs : Array Nat := #[]) (fds : Array FieldInfo := #[]) : ClassFile where
  minorVersion := 0
  majorVersion := 65
  constantPool := pool
  accessFlags := fl
  thisClass := this
  superClass := sup
  interfaces := ifs
  fields := fds
  methods := ms
  attributes := attrs
def plain (name : String) (sup : Option ClassId) : Class where
  name := name
  kind := .ordinary
  loader := none
  accessFlags := 33
  super := sup
  interfaces := #[]
  cf := none
  fields := #[]
  methods := #[]
  instanceTypes := #[]
  staticTypes := #[]
  resolved := #[]
  callSites := []
  init := .initialized
  statics := none
  mirror := none

def pool0 : Array CpInfo := pool [(5, u "<init>"), (0, u "()V"), (1, .class_ 10), (1, u "java/lang/Object")] 113

def k0m0 : Method := { name := "<init>", desc := "()V", sig := { parameters := [], returnType := none }, accessFlags := 1, code := none }
/-- java/lang/Object -/
def k0 : Class := { plain "java/lang/Object" none with
  accessFlags := 33
  interfaces := #[]
  cf := some (fileOf pool0 8 #[] #[{ accessFlags := 1, nameIndex := 5, descriptorIndex := 6, attributes := #[] }] 33 0 #[] #[])
  fields := #[]
  methods := #[k0m0]
  instanceTypes := #[]
  staticTypes := #[]
  resolved := Array.replicate 124 none
  statics := none }

def pool1 : Array CpInfo := pool [(2, .class_ 4), (1, u "java/lang/Object"), (0, u "<init>"), (0, u "()V"), (0, .integer 2147483647), (0, .methodref 9 10), (0, .class_ 11), (0, .nameAndType 12 13), (0, u "com/example/ascanius/ascanius/engine/exec/JoinOrder"), (0, u "isWritten"), (0, u "([I)Z"), (0, .class_ 15), (0, u "com/example/ascanius/ascanius/engine/exec/JoinOrderIsWrittenPinLaw"), (2, u "law"), (0, u "(IIIIII)Z")] 5

def k1m0 : Method := { name := "<init>", desc := "()V", sig := { parameters := [], returnType := none }, accessFlags := 1, code := none }
def k1c1 : Code := { maxStack := 3, maxLocals := 13, code := code, exceptionTable := #[], attributes := #[] }
def k1m1 : Method := { name := "law", desc := "(IIIIII)Z", sig := { parameters := [.int, .int, .int, .int, .int, .int], returnType := some .boolean }, accessFlags := 9, code := some k1c1 }
/-- com/example/ascanius/ascanius/engine/exec/JoinOrderIsWrittenPinLaw -/
def k1 : Class := { plain "com/example/ascanius/ascanius/engine/exec/JoinOrderIsWrittenPinLaw" (some 0) with
  accessFlags := 49
  interfaces := #[]
  cf := some (fileOf pool1 14 #[] #[{ accessFlags := 1, nameIndex := 5, descriptorIndex := 6, attributes := #[] }, { accessFlags := 9, nameIndex := 18, descriptorIndex := 19, attributes := #[] }] 49 2 #[] #[])
  fields := #[]
  methods := #[k1m0, k1m1]
  instanceTypes := #[]
  staticTypes := #[]
  resolved := Array.replicate 25 none
  statics := none }

def pool2 : Array CpInfo := pool [(2, .class_ 4), (1, u "java/lang/Object"), (3, .class_ 10), (1, u "com/example/ascanius/ascanius/engine/exec/JoinOrder"), (0, u "sizes"), (0, u "[I"), (2, u "ties"), (0, u "Ljava/util/List;"), (2, u "kept"), (41, .class_ 62), (0, u "com/example/ascanius/ascanius/engine/exec/JoinOrder$Equality"), (27, .class_ 91), (0, u "com/example/ascanius/ascanius/engine/exec/JoinOrder$ColumnCounts"), (11, .class_ 104), (0, u "com/example/ascanius/ascanius/engine/exec/JoinOrder$Tie"), (7, .class_ 113), (0, u "com/example/ascanius/ascanius/engine/exec/JoinOrder$Walk"), (21, u "isWritten"), (0, u "([I)Z")] 54

def k2c0 : Code := { maxStack := 2, maxLocals := 3, code := prog_60_method_3_code, exceptionTable := #[], attributes := #[] }
def k2m0 : Method := { name := "isWritten", desc := "([I)Z", sig := { parameters := [(.array .int)], returnType := some .boolean }, accessFlags := 8, code := some k2c0 }
/-- com/example/ascanius/ascanius/engine/exec/JoinOrder -/
def k2 : Class := { plain "com/example/ascanius/ascanius/engine/exec/JoinOrder" (some 0) with
  accessFlags := 48
  interfaces := #[]
  cf := some (fileOf pool2 8 #[.nestMembers #[90, 103, 61, 112]] #[{ accessFlags := 8, nameIndex := 135, descriptorIndex := 136, attributes := #[] }] 48 2 #[] #[{ accessFlags := 18, nameIndex := 11, descriptorIndex := 12, attributes := #[] }, { accessFlags := 18, nameIndex := 15, descriptorIndex := 16, attributes := #[] }, { accessFlags := 18, nameIndex := 19, descriptorIndex := 16, attributes := #[] }])
  fields := #[{ name := "sizes", type := (.array .int), accessFlags := 18, slot := 0, constantValue := 0 }, { name := "ties", type := (.object "java/util/List"), accessFlags := 18, slot := 1, constantValue := 0 }, { name := "kept", type := (.object "java/util/List"), accessFlags := 18, slot := 2, constantValue := 0 }]
  methods := #[k2m0]
  instanceTypes := #[(.array .int), (.object "java/util/List"), (.object "java/util/List")]
  staticTypes := #[]
  resolved := Array.replicate 191 none
  statics := none }

def pool3 : Array CpInfo := pool [(1, u "java/lang/Cloneable"), (0, .class_ 1), (0, u "java/lang/Object"), (0, .class_ 3)] 3

/-- java/lang/Cloneable -/
def k3 : Class := { plain "java/lang/Cloneable" (some 0) with
  accessFlags := 1537
  interfaces := #[]
  cf := some (fileOf pool3 2 #[] #[] 1537 4 #[] #[])
  fields := #[]
  methods := #[]
  instanceTypes := #[]
  staticTypes := #[]
  resolved := Array.replicate 8 none
  statics := none }

def pool4 : Array CpInfo := pool [(1, u "java/io/Serializable"), (0, .class_ 1), (0, u "java/lang/Object"), (0, .class_ 3)] 3

/-- java/io/Serializable -/
def k4 : Class := { plain "java/io/Serializable" (some 0) with
  accessFlags := 1537
  interfaces := #[]
  cf := some (fileOf pool4 2 #[] #[] 1537 4 #[] #[])
  fields := #[]
  methods := #[]
  instanceTypes := #[]
  staticTypes := #[]
  resolved := Array.replicate 8 none
  statics := none }

/-- the primitive byte -/
def k5 : Class := { plain "byte" none with kind := .primitive 'B', accessFlags := 0x411 }
/-- [B -/
def k6 : Class := { plain "[B" (some 0) with kind := .array 5 .byte, interfaces := #[3, 4], accessFlags := 1041 }

/-- the primitive int -/
def k7 : Class := { plain "int" none with kind := .primitive 'I', accessFlags := 0x411 }
/-- [I -/
def k8 : Class := { plain "[I" (some 0) with kind := .array 7 .int, interfaces := #[3, 4], accessFlags := 1041 }

def heap : Heap := #[]
def classes : Array Class := #[k0, k1, k2, k3, k4, k5, k6, k7, k8]
def interned : List (Array UInt16 × Addr) := []
def slotsUsed : Nat := 0
def theMethod : MethodId := ⟨1, 1⟩
def args0 : Array Value := #[.int 2, .int 5, .int 1, .int 2, .int 3, .int 4]
def aboutOver (below : List Frame) : State where
  vm := { classes := classes, interned := interned.toArray }
  heap := heap
  slotsUsed := slotsUsed
  threads := #[{ frames := .invoking theMethod args0 :: below }]
def below0 : List Frame := [.native { method := ⟨0, 0⟩, args := #[] }]
def about1 : State := aboutOver below0
def p0 : Program := .bare "" "" ""
def e0 : Env := launch0.env 0 0 0
theorem w_frames : about1.frames = Frame.invoking theMethod args0 :: below0 := rfl
set_option maxRecDepth 65536 in
theorem w_args : argsFit about1.vm theMethod args0 = true := by decide +kernel
set_option maxRecDepth 65536 in
theorem w_heap : heapFits about1 = true := by decide +kernel
set_option maxRecDepth 65536 in
theorem w_runnable : about1.curStatus? = some .runnable := by decide +kernel
set_option maxRecDepth 65536 in
theorem w_alone : about1.alone = true := by decide +kernel
set_option maxRecDepth 65536 in
theorem w_named : about1.methodNamed? x = some theMethod := by decide +kernel
set_option maxRecDepth 65536 in
theorem w_hears : about1.hears theMethod below0 = true := by decide +kernel
set_option maxRecDepth 65536 in
theorem w_ripe : about1.ripe theMethod args0 below0 = true := by decide +kernel
theorem w_running : about1.status = .running := rfl
set_option maxRecDepth 65536 in
theorem w_room : about1.hasRoom e0.platform room_1 = true :=
  launch0.hasRoom_least _ room_1 (by decide +kernel) (by decide +kernel) (by decide +kernel) (by decide +kernel) (by decide +kernel) (by decide +kernel)
theorem allAtoms_all (ts : List Jvm.Cond) (a : Array Jvm.Value) (st : Jvm.State) : (allAtoms ts).before a st = ts.all (fun c => c.before a st) := by
  induction ts with
  | nil => rfl
  | cons c t ih =>
    show (Jvm.Cond.and c (allAtoms t)).before a st = _
    rw [Jvm.Cond.before_and, ih, List.all_cons]
def words1 : List Jvm.Cond := Jvm.Cond.code x code maxLocals ret :: tables_1
/-- a 'code' word, met by the world's own term for the bytes: nothing is compared byte by byte -/
theorem code_word {y : MethodName} {bytes : ByteArray} {mx : Nat} {rt : Option FieldType} {a : Array Value} {s : State} {m : MethodId} {meth : Method} {c : Code} (h1 : s.methodNamed? y = some m) (h2 : s.vm.method? m = some meth) (h3 : meth.code = some c) (h4 : c.code = bytes)
    (h5 : (c.maxLocals == mx && c.exceptionTable.isEmpty && decide (c.maxStack ≤ mostOperands) && decide (meth.sig.returnType = rt) && !meth.locks && decide (parseMethodDescriptor y.desc = some meth.sig)) = true) : (Jvm.Cond.code y bytes mx rt).before a s = true := by
  simp only [Bool.and_eq_true, beq_iff_eq, Bool.not_eq_true', decide_eq_true_eq] at h5
  obtain ⟨⟨⟨⟨⟨g1, g2⟩, g3⟩, g4⟩, g5⟩, g6⟩ := h5
  simp [Cond.before, Cond.holds, Cond.value, h1, h2, h3, h4, g1, g2, g3, g4, g5, g6]
def isCode : Jvm.Cond → Bool
  | .code _ _ _ _ => true
  | _ => false
theorem all_split {L : List Jvm.Cond} {P : Jvm.Cond → Bool} (h1 : L.all (fun c => isCode c || P c) = true) (h2 : ∀ c ∈ L.filter isCode, P c = true) : L.all P = true := by
  refine List.all_eq_true.mpr fun c hc => ?_
  have h := List.all_eq_true.mp h1 c hc
  rcases Bool.eq_false_or_eq_true (isCode c) with hi | hi
  · exact h2 c (List.mem_filter.mpr ⟨hc, hi⟩)
  · simpa [hi] using h
set_option maxRecDepth 65536 in
theorem w_c0 : (Jvm.Cond.code x code maxLocals ret).before args0 about1 = true := code_word (m := ⟨1, 1⟩) (meth := k1m1) (c := k1c1) (by decide +kernel) rfl rfl rfl (by decide +kernel)
set_option maxRecDepth 65536 in
theorem w_c1 : (Jvm.Cond.code ({ cls := "com/example/ascanius/ascanius/engine/exec/JoinOrder", name := "isWritten", desc := "([I)Z" } : Jvm.MethodName) prog_60_method_3_code (3 : Nat) (Option.some Jvm.ClassFile.FieldType.boolean)).before args0 about1 = true := code_word (m := ⟨2, 0⟩) (meth := k2m0) (c := k2c0) (by decide +kernel) rfl rfl rfl (by decide +kernel)
def codes1 : List Jvm.Cond := [Jvm.Cond.code x code maxLocals ret, Jvm.Cond.code ({ cls := "com/example/ascanius/ascanius/engine/exec/JoinOrder", name := "isWritten", desc := "([I)Z" } : Jvm.MethodName) prog_60_method_3_code (3 : Nat) (Option.some Jvm.ClassFile.FieldType.boolean)]
set_option maxRecDepth 65536 in
theorem codes_eq : words1.filter isCode = codes1 := rfl
theorem w_codes : ∀ c ∈ words1.filter isCode, c.before args0 about1 = true := by
  rw [codes_eq]
  intro c hc
  simp only [codes1, List.mem_cons, List.not_mem_nil, or_false] at hc
  rcases hc with rfl | rfl
  · exact w_c0
  · exact w_c1
set_option maxRecDepth 65536 in
theorem w_t1 : words1.all (fun c => isCode c || c.before args0 about1) = true := by decide +kernel
theorem w_tables : (allAtoms (Jvm.Cond.code x code maxLocals ret :: tables_1)).before args0 about1 = true := by
  rw [allAtoms_all]
  show words1.all (fun c => c.before args0 about1) = true
  refine all_split ?_ w_codes
  rw [w_t1]
set_option maxRecDepth 65536 in
theorem w_case : (Jvm.Cond.and given_1 narrow_1).before args0 about1 = true := by decide +kernel
theorem w_applies : (headSpec (Jvm.Cond.code x code maxLocals ret :: tables_1) room_1).applies x e0.platform about1 = true :=
  (Spec.applies_iff w_frames).mpr ⟨w_running, w_runnable, w_alone, w_named, w_hears, w_ripe, w_room, w_tables⟩
theorem atStart : AtStart classFile x code maxLocals ret World_1 tables_1 room_1 Calls_1 rest_1 Pre_1 launch0 p0 e0 about1 theMethod args0 below0 :=
  ⟨lists_1, trivial, launch0.admits_env _ _ _, launch0.least_env, fairChoices_fair.cas, fairChoices_fair.clock, w_frames, w_args, w_heap, w_applies, trivial, trivial, w_case⟩
end start1
theorem witness_1 : WitnessClaimed_1 := ⟨start1.p0, start1.e0, start1.about1, start1.theMethod, start1.args0, start1.below0, start1.atStart⟩
end Jvm.Pilot.@@N@@

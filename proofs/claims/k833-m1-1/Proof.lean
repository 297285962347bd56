import JvmDerived
import JvmDerived.Pilot.@@N@@Statement
import JvmDerived.Pilot.@@N@@Code
set_option linter.unusedVariables false
set_option linter.unusedSimpArgs false
namespace Jvm.OwnW
open Sem ClassFile Op Lib Jvm.Stand Jvm.Free Jvm.LawKit Jvm.RoadKit
theorem adr_ne {a b : Nat} (h : a < b ∨ b < a) : @Ne Addr a b := fun z => by
  have z : @Eq Nat a b := z
  omega
/-- what was written lies in one of 'ws' or is new -/
def Fw (ws : List Addr) (N : Nat) (L : List Loc) : Prop := ∀ y ∈ L, y.base ∈ ws ∨ N ≤ y.base
theorem Fw.nil (ws : List Addr) (N : Nat) : Fw ws N [] := fun _ q => nomatch q
theorem Fw.app {ws : List Addr} {N : Nat} {L L' : List Loc} (A : Fw ws N L) (B : Fw ws N L') : Fw ws N (L ++ L') := fun y q => (List.mem_append.mp q).elim (A y) (B y)
theorem Fw.snoc {ws : List Addr} {N : Nat} {L : List Loc} {a : Addr} {sl : Nat} (A : Fw ws N L) (q : a ∈ ws ∨ N ≤ a) : Fw ws N (L ++ [⟨a, sl⟩]) := A.app fun y hy => by cases List.mem_singleton.mp hy; exact q
/-- where a walk stands: what was written is new, the heap, the figures within the room -/
def Pos (p : Program) (l : Launch) (e : Env) (R : Room) (s : State) (m : MethodId) (args : Array Value) (below : List Frame) (meth : Method) (c : Code) (Z : State) (own : String) (ws : List Addr) (bd : Nat) (T : State) (h : Heap) (k n : Nat) : Prop :=
  (∃ locs, Stand p l e R s m args below meth c T locs k n ∧ Fw ws bd locs) ∧ T.heap = h ∧ bd ≤ h.size ∧ Z.Warmed39 s.vm ∧ p.tables.exec = Jvm.exec ∧ s.vm.findClass own = some m.cls ∧ meth.locks = false ∧ k ≤ R.cells ∧ n ≤ R.slots
/-- the walk that stands at the frame g in T comes to its return, and Q holds of what it returns and of the heap it leaves -/
def Done (p : Program) (l : Launch) (e : Env) (R : Room) (s : State) (m : MethodId) (args : Array Value) (below : List Frame) (meth : Method) (c : Code) (Z : State) (own : String) (ws : List Addr) (bd : Nat) (Q : Option Value → Heap → Prop) (T : State) (g : JFrame) : Prop :=
  ∃ v T' h' k n, Pos p l e R s m args below meth c Z own ws bd T' h' k n ∧ (meth.sig.returnType = none → v = none) ∧ Q v h' ∧
    ∀ fs, (∀ (f : JFrame) (acts : List Action), f.method = m → f.locked = none → f.entered = [] → (doReturn e (T'.setTop f) acts v).1 = T'.setFrames fs) → Steps p.tables e below (T.setTop g) (T'.setFrames fs)
/-- a method's contract, asked at one heap and one row of arguments; it writes what lies in 'ws' and what it makes, alone -/
def OMet (l : Launch) (y : MethodName) (bytes : ByteArray) (maxL : Nat) (ret : Option FieldType) (wd : List Cond) (rm : Room) (Z : State) (h : Heap) (ws : List Addr) (as' : Array Value) (Q : Option Value → Heap → Prop) : Prop :=
  MetFree l y (head1 (Cond.code y bytes maxL ret :: wd) rm) (fun a U => a = as' ∧ Z.Warmed39 U.vm ∧ U.heap = h) (fun _ _ _ _ _ => True) (fun _ U o U' => ∃ v L, o = .returned v ∧ (Q v U'.heap ∧ Fw ws h.size L ∧ Keep h U'.heap ws) ∧ FrameEnd U o U' L rm.cells rm.slots)
section A
variable {p : Program} {l : Launch} {e : Env} {R : Room} {s : State} {m : MethodId} {args : Array Value} {below : List Frame} {meth : Method} {c : Code} {Z : State} {own : String} {ws : List Addr} {bd : Nat} {T : State} {h h' : Heap} {k n : Nat} {a0 : Array Value} {Q : Option Value → Heap → Prop} {pc pc' : Nat} {Ls : Array Slot} {st : List Value} {T₁ : State} {g₁ : JFrame}
theorem Pos.here (P : Pos p l e R s m args below meth c Z own ws bd T h k n) : At T m c below := by obtain ⟨⟨_, X, _⟩, _⟩ := P; exact X.here
theorem Pos.x (P : Pos p l e R s m args below meth c Z own ws bd T h k n) : p.tables.exec = Jvm.exec := P.2.2.2.2.1
theorem Pos.ge (P : Pos p l e R s m args below meth c Z own ws bd T h k n) : bd ≤ h.size := P.2.2.1
theorem Pos.wa (P : Pos p l e R s m args below meth c Z own ws bd T h k n) : Z.Warmed39 s.vm := P.2.2.2.1
theorem Pos.more (P : Pos p l e R s m args below meth c Z own ws bd T h k n) {k' n' : Nat} (hk : k ≤ k') (hn : n ≤ n') (hk' : k' ≤ R.cells) (hn' : n' ≤ R.slots) : Pos p l e R s m args below meth c Z own ws bd T h k' n' := by
  obtain ⟨⟨L, X, N'⟩, a, b, c, d, f, g, _, _⟩ := P
  exact ⟨⟨L, X.more hk hn, N'⟩, a, b, c, d, f, g, hk', hn'⟩
theorem Pos.cast {k' n' : Nat} (P : Pos p l e R s m args below meth c Z own ws bd T h k n) (hk : k = k') (hn : n = n') : Pos p l e R s m args below meth c Z own ws bd T h k' n' := by subst hk hn; exact P
theorem Done.step {T' : State} {g g' : JFrame} (hs : ∀ t, Steps p.tables e below (T'.setTop g') t → Steps p.tables e below (T.setTop g) t) (D : Done p l e R s m args below meth c Z own ws bd Q T' g') : Done p l e R s m args below meth c Z own ws bd Q T g := by
  obtain ⟨v, T1, h1, k1, n1, P, hv, hq, st⟩ := D
  exact ⟨v, T1, h1, k1, n1, P, hv, hq, fun fs hl => hs _ (st fs hl)⟩
theorem Done.stepL {st' : List Value} (hs : ∀ t, Steps p.tables e below (T.setTop (mkF m pc' Ls st')) t → Steps p.tables e below (T.setTop (mkF m pc Ls st)) t) (D : Done p l e R s m args below meth c Z own ws bd Q T (mkF m pc' Ls st')) : Done p l e R s m args below meth c Z own ws bd Q T (mkF m pc Ls st) := Done.step hs D
theorem Done.imp {Q' : Option Value → Heap → Prop} {g : JFrame} (D : Done p l e R s m args below meth c Z own ws bd Q T g) (q : ∀ v h, Q v h → Q' v h) : Done p l e R s m args below meth c Z own ws bd Q' T g := by
  obtain ⟨v, T1, h1, k1, n1, P, hv, hq, st⟩ := D
  exact ⟨v, T1, h1, k1, n1, P, hv, q _ _ hq, st⟩
theorem keepOf {u : State} {L : List Loc} (q : s.sameButNew u L k n) (F : Fw ws s.heap.size L) : Keep s.heap u.heap ws := by
  obtain ⟨-, h1, -, -, -, H⟩ := q
  refine ⟨h1, fun x cl hx hn => ?_, fun x cl hx => ?_⟩
  · obtain ⟨c', e1, e2, e3, e4⟩ := H x cl hx
    have hlt := (Array.getElem?_eq_some_iff.mp hx).1
    have es : c'.slots = cl.slots := by
      apply Array.ext_getElem?
      intro i
      exact e4 i fun hm => (F _ hm).elim (fun z => hn z) (fun z => absurd z (Nat.not_le.mpr hlt))
    rw [e1, e2, es]
  · obtain ⟨c', e1, e2, e3, e4⟩ := H x cl hx
    exact ⟨c', e1, by rw [e2], by rw [e2], e3⟩
/-- a contract out of a walk -/
theorem OMet.of {y : MethodName} {bytes : ByteArray} {maxL : Nat} {ret : Option FieldType} {wd : List Cond} {rm : Room} {as' : Array Value} {nm : String} (hy : plainFor y = true) (hyc : y.cls = own) (hyn : y.name = nm)
    (H : ∀ p e s m below meth c s₁, Pos p l e rm s m as' below meth c Z own ws h.size s₁ h 0 0 → c.code = bytes → c.maxLocals = maxL → meth.sig.returnType = ret → meth.name = nm → Done p l e rm s m as' below meth c Z own ws h.size Q s₁ (entryFrame m as' maxL)) :
    OMet l y bytes maxL ret wd rm Z h ws as' Q := by
  subst hyc hyn
  refine MetFree.of_bodySF hy hisR ?_
  intro p e s m args below meth c s₁ Bd hml hP hK
  obtain ⟨rfl, hZ, hh⟩ := hP
  have hown : s.vm.findClass y.cls = some m.cls := findClass_of_methodNamed Bd.named
  have hnm := (name_of_methodNamed Bd.named Bd.method).1
  have X0 : Stand p l e rm s m args below meth c s₁ [] 0 0 := Stand.of_body Bd
  have e0 : s₁.heap = h := by rw [← hh, Bd.state]; rfl
  obtain ⟨v, T', h', k, n, ⟨⟨L, X, N⟩, eT, _, _, _, _, hlk, hk, hnn⟩, hv, hq, st⟩ := H p e s m below meth c s₁ ⟨⟨[], X0, Fw.nil _ _⟩, e0, Nat.le_refl _, hZ, Bd.exec, hown, Bd.notSynchronized, Nat.zero_le _, Nat.zero_le _⟩ Bd.bytes hml Bd.returns hnm
  obtain ⟨fs, hr, hrun, hended, hW, hsame⟩ := X.leave (v := v) hv hlk
  refine ⟨_, _, st fs hr, hrun, hended, v, L, rfl, ⟨?_, N, ?_⟩, ⟨_, rfl⟩, hW, hsame.mono hk hnn⟩
  · rw [show (T'.setFrames fs).heap = T'.heap from rfl, eT]
    exact hq
  · subst hh
    have q := keepOf hsame N
    exact q
/-! returns -/
theorem wRet {w : Value} {t : FieldType} {i : Instr} (P : Pos p l e R s m args below meth c Z own ws bd T h k n) (hret : meth.sig.returnType = some t) (hn : narrow t w = w)
    (hi : (i = .ireturn ∧ (t = .int ∨ t = .boolean ∨ t = .byte ∨ t = .char ∨ t = .short) ∧ ∃ z, w = .int z) ∨ (i = .lreturn ∧ t = .long ∧ ∃ z, w = .long z) ∨ (i = .dreturn ∧ t = .double ∧ ∃ z, w = .double z) ∨ (i = .freturn ∧ t = .float ∧ ∃ z, w = .float z) ∨ (i = .areturn ∧ t.isReference = true ∧ w.isRef = true))
    (hd : decode c.code pc = .ok (i, 1)) (hq : Q (some w) h) : Done p l e R s m args below meth c Z own ws bd Q T (mkF m pc Ls (w :: st)) := by
  obtain ⟨⟨L, X, N'⟩, r⟩ := id P
  exact ⟨some w, T, h, k, n, P, (fun q => by rw [hret] at q; cases q), hq, fun fs hl => retOut X P.x hret hn hi hd hl⟩
theorem wRetI {z : Int32} (P : Pos p l e R s m args below meth c Z own ws bd T h k n) (hret : meth.sig.returnType = some .int) (hd : decode c.code pc = .ok (.ireturn, 1)) (hq : Q (some (.int z)) h) : Done p l e R s m args below meth c Z own ws bd Q T (mkF m pc Ls (.int z :: st)) :=
  wRet P hret rfl (Or.inl ⟨rfl, Or.inl rfl, z, rfl⟩) hd hq
theorem wRetJ {z : Int64} (P : Pos p l e R s m args below meth c Z own ws bd T h k n) (hret : meth.sig.returnType = some .long) (hd : decode c.code pc = .ok (.lreturn, 1)) (hq : Q (some (.long z)) h) : Done p l e R s m args below meth c Z own ws bd Q T (mkF m pc Ls (.long z :: st)) :=
  wRet P hret rfl (Or.inr (Or.inl ⟨rfl, rfl, z, rfl⟩)) hd hq
theorem wRetD {z : UInt64} (P : Pos p l e R s m args below meth c Z own ws bd T h k n) (hret : meth.sig.returnType = some .double) (hd : decode c.code pc = .ok (.dreturn, 1)) (hq : Q (some (.double z)) h) : Done p l e R s m args below meth c Z own ws bd Q T (mkF m pc Ls (.double z :: st)) :=
  wRet P hret rfl (Or.inr (Or.inr (Or.inl ⟨rfl, rfl, z, rfl⟩))) hd hq
theorem wRetA {w : Value} {t : FieldType} (P : Pos p l e R s m args below meth c Z own ws bd T h k n) (hret : meth.sig.returnType = some t) (ht : t.isReference = true) (hw : w.isRef = true) (hd : decode c.code pc = .ok (.areturn, 1)) (hq : Q (some w) h) : Done p l e R s m args below meth c Z own ws bd Q T (mkF m pc Ls (w :: st)) :=
  wRet P hret (by cases w <;> first | rfl | (simp [Value.isRef] at hw; done) | (cases t <;> first | rfl | (simp [FieldType.isReference] at ht))) (Or.inr (Or.inr (Or.inr (Or.inr ⟨rfl, ht, hw⟩)))) hd hq
theorem wRetN {z : Int32} {t : FieldType} (P : Pos p l e R s m args below meth c Z own ws bd T h k n) (hret : meth.sig.returnType = some t) (ht : t = .boolean ∨ t = .byte ∨ t = .char ∨ t = .short) (hd : decode c.code pc = .ok (.ireturn, 1)) (hq : Q (some (.int (nar t z))) h) : Done p l e R s m args below meth c Z own ws bd Q T (mkF m pc Ls (.int z :: st)) := by
  obtain ⟨⟨L, X, N'⟩, r⟩ := id P
  exact ⟨_, T, h, k, n, P, (fun q => by rw [hret] at q; cases q), hq, fun fs hl => retN X P.x hret ht hd hl⟩
theorem wRetV (P : Pos p l e R s m args below meth c Z own ws bd T h k n) (hret : meth.sig.returnType = none) (hd : decode c.code pc = .ok (.return_, 1)) (hq : Q none h) : Done p l e R s m args below meth c Z own ws bd Q T (mkF m pc Ls []) := by
  obtain ⟨⟨L, X, N'⟩, r⟩ := id P
  exact ⟨none, T, h, k, n, P, fun _ => rfl, hq, fun fs hl => X.returnOut P.x hret hd hl⟩
/-! fields -/
theorem wGet {R0 O nm d host : String} {index : Nat} {a : Addr} {v : Value} (P : Pos p l e R s m args below meth c Z own ws bd T h k n) (w : (Cond.fieldLink own index R0 nm d).before a0 Z = true ∨ (Cond.fieldLinkNest own index R0 nm d host).before a0 Z = true) (via : Via Z R0 O nm d) (F : Fld Z h a O nm d v)
    (hd : decode c.code pc = .ok (.getfield index, 3)) (hp : pc + 3 = pc') (K : ∀ T', Pos p l e R s m args below meth c Z own ws bd T' h k n → Done p l e R s m args below meth c Z own ws bd Q T' (mkF m pc' Ls (v :: st))) : Done p l e R s m args below meth c Z own ws bd Q T (mkF m pc Ls (.ref a :: st)) := by
  obtain ⟨⟨L, X, N'⟩, eT, b, hZ, hx, ho, r⟩ := id P
  obtain ⟨T', X', e', stp⟩ := getF X hx hZ ho w via eT F (g := mkF m pc Ls (.ref a :: st)) rfl rfl hd
  subst hp
  exact Done.step stp (K T' ⟨⟨L, X', N'⟩, e', b, hZ, hx, ho, r⟩)
theorem wGetS {R0 O nm d host : String} {index : Nat} {v : Value} (P : Pos p l e R s m args below meth c Z own ws bd T h k n) (w : (Cond.fieldLink own index R0 nm d).before a0 Z = true ∨ (Cond.fieldLinkNest own index R0 nm d host).before a0 Z = true) (via : Via Z R0 O nm d) (F : Sta Z h O nm d v)
    (hd : decode c.code pc = .ok (.getstatic index, 3)) (hp : pc + 3 = pc') (K : ∀ T', Pos p l e R s m args below meth c Z own ws bd T' h k n → Done p l e R s m args below meth c Z own ws bd Q T' (mkF m pc' Ls (v :: st))) : Done p l e R s m args below meth c Z own ws bd Q T (mkF m pc Ls st) := by
  obtain ⟨⟨L, X, N'⟩, eT, b, hZ, hx, ho, r⟩ := id P
  obtain ⟨T', X', e', stp⟩ := getS2 X hx hZ ho w via eT F (g := mkF m pc Ls st) rfl hd
  subst hp
  exact Done.step stp (K T' ⟨⟨L, X', N'⟩, e', b, hZ, hx, ho, r⟩)
theorem wPut {R0 O nm d host C : String} {index kk : Nat} {ty : FieldType} {a : Addr} {v old : Value} (P : Pos p l e R s m args below meth c Z own ws bd T h k n) (w : (Cond.fieldLink own index R0 nm d).before a0 Z = true ∨ (Cond.fieldLinkNest own index R0 nm d host).before a0 Z = true) (via : Via Z R0 O nm d) (F : Fld Z h a O nm d old) (E : Exa Z h a C)
    (La : (Cond.lays C O nm d).before a0 Z = true ∨ ((Cond.laysFinal C O nm d).before a0 Z = true ∧ own = O ∧ meth.name = "<init>")) (wi : (Cond.instantiable C kk).before a0 Z = true) (hty : parseFieldDescriptor d = some ty) (hn : narrow ty v = v) (hf : fits ty v = true) (hge : a ∈ ws ∨ bd ≤ a)
    (hd : decode c.code pc = .ok (.putfield index, 3)) (hp : pc + 3 = pc') (K : ∀ T' h', Pos p l e R s m args below meth c Z own ws bd T' h' k n → Wr h h' a (Jvm.RoadKit.slotOf Z O nm d) v → Fld Z h' a O nm d v → Done p l e R s m args below meth c Z own ws bd Q T' (mkF m pc' Ls st)) : Done p l e R s m args below meth c Z own ws bd Q T (mkF m pc Ls (v :: .ref a :: st)) := by
  obtain ⟨⟨L, X, N'⟩, eT, b, hZ, hx, ho, r⟩ := id P
  obtain ⟨T', h', X', e', W, stp⟩ := putF X hx hZ ho w via eT F E La wi hty hn hf (g := mkF m pc Ls (v :: .ref a :: st)) rfl rfl hd
  subst hp
  exact Done.step stp (K T' h' ⟨⟨_, X', Fw.snoc N' hge⟩, e', by rw [W.size]; exact b, hZ, hx, ho, r⟩ W (F.same W))
theorem wPutN {R0 O nm d C : String} {index kk : Nat} {ty : FieldType} {a : Addr} {x x' : Int32} {old : Value} (P : Pos p l e R s m args below meth c Z own ws bd T h k n) (w : (Cond.fieldLink own index R0 nm d).before a0 Z = true) (via : Via Z R0 O nm d) (F : Fld Z h a O nm d old) (E : Exa Z h a C)
    (La : (Cond.lays C O nm d).before a0 Z = true ∨ ((Cond.laysFinal C O nm d).before a0 Z = true ∧ own = O ∧ meth.name = "<init>")) (wi : (Cond.instantiable C kk).before a0 Z = true) (hty : parseFieldDescriptor d = some ty) (hn : narrow ty (.int x) = .int x') (hf : fits ty (.int x') = true) (hge : a ∈ ws ∨ bd ≤ a)
    (hd : decode c.code pc = .ok (.putfield index, 3)) (hp : pc + 3 = pc') (K : ∀ T' h', Pos p l e R s m args below meth c Z own ws bd T' h' k n → Wr h h' a (Jvm.RoadKit.slotOf Z O nm d) (.int x') → Fld Z h' a O nm d (.int x') → Done p l e R s m args below meth c Z own ws bd Q T' (mkF m pc' Ls st)) : Done p l e R s m args below meth c Z own ws bd Q T (mkF m pc Ls (.int x :: .ref a :: st)) := by
  obtain ⟨⟨L, X, N'⟩, eT, b, hZ, hx, ho, r⟩ := id P
  obtain ⟨T', h', X', e', W, stp⟩ := putFN X hx hZ ho w via eT F E La wi (v' := .int x') hty hn hf (g := mkF m pc Ls (.int x :: .ref a :: st)) rfl rfl hd
  subst hp
  exact Done.step stp (K T' h' ⟨⟨_, X', Fw.snoc N' hge⟩, e', by rw [W.size]; exact b, hZ, hx, ho, r⟩ W (F.same W))
/-! objects and arrays -/
theorem wNew {C : String} {index nn : Nat} (P : Pos p l e R s m args below meth c Z own ws bd T h k n) (w : (Cond.classLink own index C).before a0 Z = true) (wi : (Cond.instantiable C nn).before a0 Z = true) (wz : (Cond.initialized C).before a0 Z = true)
    (hd : decode c.code pc = .ok (.new index, 3)) (hp : pc + 3 = pc') (hc : k + 1 ≤ R.cells) (hl : n + nn ≤ R.slots) {k' n' : Nat} (hk' : k + 1 = k') (hn' : n + nn = n')
    (K : ∀ T' h' a, a = h.size → h.size < h'.size → Pos p l e R s m args below meth c Z own ws bd T' h' k' n' → Ext h h' → Exa Z h' a C → (∀ {O nm d : String} {ty : FieldType}, Laid Z a0 C O nm d → parseFieldDescriptor d = some ty → Fld Z h' a O nm d (defaultValue ty)) → Done p l e R s m args below meth c Z own ws bd Q T' (mkF m pc' Ls (.ref a :: st))) : Done p l e R s m args below meth c Z own ws bd Q T (mkF m pc Ls st) := by
  obtain ⟨⟨L, X, N'⟩, eT, b, hZ, hx, ho, hlk, _, _⟩ := id P
  obtain ⟨T', h', X', e', E, A, D, -, stp⟩ := newO X hx hZ ho w wi wz eT (g := mkF m pc Ls st) rfl hd hc hl
  subst hp hk' hn'
  exact Done.step stp (K T' h' h.size rfl A.lt ⟨⟨L, X', N'⟩, e', Nat.le_trans b E.1, hZ, hx, ho, hlk, hc, hl⟩ E A D)
/-- an array by its places' values -/
def Ar (Z : State) (h : Heap) (a : Addr) (ty : FieldType) (n : Nat) (f : Nat → Value) : Prop := ∃ cl : Cell, Arr Z h a cl ty ∧ cl.slots.size = n ∧ n < 2147483648 ∧ ∀ i, i < n → cl.slots[i]? = some (f i)
def oupd {α : Type} (f : Nat → α) (i : Nat) (v : α) : Nat → α := fun j => if j = i then v else f j
theorem oupd_same {α : Type} (f : Nat → α) (i : Nat) (v : α) : oupd f i v i = v := if_pos rfl
theorem oupd_ne {α : Type} {f : Nat → α} {i j : Nat} {v : α} (q : j ≠ i) : oupd f i v j = f j := if_neg q
theorem Ar.lt {a : Addr} {ty : FieldType} {N : Nat} {f : Nat → Value} (A : Ar Z h a ty N f) : a < h.size := by obtain ⟨c, A, -⟩ := A; exact A.lt
theorem Ar.ltN {a : Addr} {ty : FieldType} {N : Nat} {f : Nat → Value} (A : Ar Z h a ty N f) : @LT.lt Nat instLTNat a h.size := A.lt
theorem exaN {a : Addr} {C : String} (E : Exa Z h a C) : @LT.lt Nat instLTNat a h.size := E.lt
theorem Ar.ext {a : Addr} {ty : FieldType} {N : Nat} {f : Nat → Value} (A : Ar Z h a ty N f) (E : Ext h h') : Ar Z h' a ty N f := by obtain ⟨c, A, r⟩ := A; exact ⟨c, A.ext E, r⟩
theorem Ar.other {a b : Addr} {sl : Nat} {v : Value} {ty : FieldType} {N : Nat} {f : Nat → Value} (A : Ar Z h b ty N f) (W : Wr h h' a sl v) (q : b ≠ a) : Ar Z h' b ty N f := by obtain ⟨c, A, r⟩ := A; exact ⟨c, A.other W q, r⟩
theorem Ar.keep {a : Addr} {ws : List Addr} {ty : FieldType} {N : Nat} {f : Nat → Value} (A : Ar Z h a ty N f) (K : Keep h h' ws) (q : a ∉ ws) : Ar Z h' a ty N f := by obtain ⟨c, A, r⟩ := A; exact ⟨c, ⟨K.2.1 a c A.1 q, A.2⟩, r⟩
theorem Ar.len {a : Addr} {ty : FieldType} {N : Nat} {f : Nat → Value} (A : Ar Z h a ty N f) : N < 2147483648 := by obtain ⟨c, A, r1, r2, -⟩ := A; exact r2
theorem Ar.congr {a : Addr} {ty : FieldType} {N : Nat} {f g : Nat → Value} (A : Ar Z h a ty N f) (q : ∀ i, i < N → f i = g i) : Ar Z h a ty N g := by obtain ⟨c, A, r1, r2, r3⟩ := A; exact ⟨c, A, r1, r2, fun i hi => by rw [← q i hi]; exact r3 i hi⟩
theorem in_of {cl : Cell} {N i : Nat} {j : Int32} (S : cl.slots.size = N) (hj : j.toInt = (i : Int)) (hi : i < N) : ¬ (j < 0 ∨ cl.slots.size ≤ j.toNatClampNeg) ∧ j.toNatClampNeg = i := by
  have e : j.toNatClampNeg = i := by rw [Int32.toNatClampNeg, hj]; omega
  refine ⟨?_, e⟩
  rw [S, e, Int32.lt_iff_toInt_lt, hj, show (0 : Int32).toInt = 0 from rfl]
  omega
theorem toI32 {N : Nat} (h : N < 2147483648) : (N.toInt32).toInt = (N : Int) := by
  rw [show N.toInt32 = Int32.ofNat N from rfl, Int32.toInt_ofNat_of_lt (by omega)]
theorem wNewA {aty : ArrayType} {z : Int32} {N cap : Nat} (P : Pos p l e R s m args below meth c Z own ws bd T h k n) (w : (Cond.arrayClass (newarray.typeOf aty)).before a0 Z = true) (hd : decode c.code pc = .ok (.newarray aty, 2)) (hp : pc + 2 = pc') (hz : z.toInt = (N : Int)) (hcap : N ≤ cap) (hb : cap * 8 ≤ 536870912) (hc : k + 1 ≤ R.cells) (hl : n + cap ≤ R.slots)
    {ad : String} (had : "[" ++ (newarray.typeOf aty).toString = ad) {ty : FieldType} {dv : Value} (hty : newarray.typeOf aty = ty) (hdv : defaultValue ty = dv) {k' n' : Nat} (hk' : k + 1 = k') (hn' : n + cap = n')
    (K : ∀ T' h' a, a = h.size → h.size < h'.size → Pos p l e R s m args below meth c Z own ws bd T' h' k' n' → Ext h h' → Ar Z h' a ty N (fun _ => dv) → Exa Z h' a ad → Done p l e R s m args below meth c Z own ws bd Q T' (mkF m pc' Ls (.ref a :: st))) : Done p l e R s m args below meth c Z own ws bd Q T (mkF m pc Ls (.int z :: st)) := by
  obtain ⟨⟨L, X, N'⟩, eT, b, hZ, hx, ho, hlk, _, _⟩ := id P
  have hz0 : ¬ z < 0 := by rw [Int32.lt_iff_toInt_lt, hz, show (0 : Int32).toInt = 0 from rfl]; omega
  have hzn : z.toNatClampNeg = N := by rw [Int32.toNatClampNeg, hz]; omega
  have hN := z.toInt_lt
  obtain ⟨T', h', kA, X', e', E, A, Ex, stp⟩ := newPE X hx hZ w eT (g := mkF m pc Ls (.int z :: st)) rfl hd rfl hz0 (by rw [hzn]; exact hcap) hb hc hl had
  subst hp hk' hn' hty hdv
  refine Done.step stp (K T' h' h.size rfl A.lt ⟨⟨L, X', N'⟩, e', Nat.le_trans b E.1, hZ, hx, ho, hlk, hc, hl⟩ E ⟨_, A, by rw [sz_new, hzn], by omega, fun i hi => ?_⟩ Ex)
  simp [newA, hzn, hi]
theorem wLen {ty : FieldType} {N : Nat} {f : Nat → Value} {a : Addr} (P : Pos p l e R s m args below meth c Z own ws bd T h k n) (A : Ar Z h a ty N f) {z : Int32} (hz : z.toInt = (N : Int)) (hd : decode c.code pc = .ok (.arraylength, 1)) (hp : pc + 1 = pc')
    (K : Done p l e R s m args below meth c Z own ws bd Q T (mkF m pc' Ls (.int z :: st))) : Done p l e R s m args below meth c Z own ws bd Q T (mkF m pc Ls (.ref a :: st)) := by
  obtain ⟨⟨L, X, N'⟩, eT, b, hZ, hx, ho, hlk, _, _⟩ := id P
  obtain ⟨cl, Ar, S, hN, H⟩ := A
  subst hp
  refine Done.step (fun t kk => X.arraylength hx (by rw [eT]; exact Ar.1) (State.isArrayOf_alike hZ.alike Ar.2.1) (g := mkF m pc Ls (.ref a :: st)) rfl rfl hd t ?_) K
  rw [S, show N.toInt32 = z from Int32.toInt_inj.mp (by rw [toI32 hN, hz])]
  exact kk
theorem wDaload {N i : Nat} {f : Nat → Value} {a : Addr} {j : Int32} (P : Pos p l e R s m args below meth c Z own ws bd T h k n) (A : Ar Z h a .double N f) (hj : j.toInt = (i : Int)) (hi : i < N) {v : Value} (hv : f i = v) (hd : decode c.code pc = .ok (.daload, 1)) (hp : pc + 1 = pc')
    (K : Done p l e R s m args below meth c Z own ws bd Q T (mkF m pc' Ls (v :: st))) : Done p l e R s m args below meth c Z own ws bd Q T (mkF m pc Ls (.int j :: .ref a :: st)) := by
  obtain ⟨⟨L, X, N'⟩, eT, b, hZ, hx, ho, hlk, _, _⟩ := id P
  obtain ⟨cl, Ar, S, hN, H⟩ := A
  obtain ⟨q1, q2⟩ := in_of S hj hi
  subst hp hv
  exact Done.step (fun t kk => X.daload hx (by rw [eT]; exact Ar.1) (State.isArrayOf_alike hZ.alike Ar.2.1) Ar.2.2 q1 (by rw [q2]; exact H i hi) (g := mkF m pc Ls (.int j :: .ref a :: st)) rfl rfl hd t kk) K
theorem wIaload {N i : Nat} {f : Nat → Value} {a : Addr} {j : Int32} (P : Pos p l e R s m args below meth c Z own ws bd T h k n) (A : Ar Z h a .int N f) (hj : j.toInt = (i : Int)) (hi : i < N) {v : Value} (hv : f i = v) (hd : decode c.code pc = .ok (.iaload, 1)) (hp : pc + 1 = pc')
    (K : Done p l e R s m args below meth c Z own ws bd Q T (mkF m pc' Ls (v :: st))) : Done p l e R s m args below meth c Z own ws bd Q T (mkF m pc Ls (.int j :: .ref a :: st)) := by
  obtain ⟨⟨L, X, N'⟩, eT, b, hZ, hx, ho, hlk, _, _⟩ := id P
  obtain ⟨cl, Ar, S, hN, H⟩ := A
  obtain ⟨q1, q2⟩ := in_of S hj hi
  subst hp hv
  exact Done.step (fun t kk => X.iaload hx (by rw [eT]; exact Ar.1) (State.isArrayOf_alike hZ.alike Ar.2.1) Ar.2.2 q1 (by rw [q2]; exact H i hi) (g := mkF m pc Ls (.int j :: .ref a :: st)) rfl rfl hd t kk) K
theorem wCaload {N i : Nat} {f : Nat → Value} {a : Addr} {j : Int32} (P : Pos p l e R s m args below meth c Z own ws bd T h k n) (A : Ar Z h a .char N f) (hj : j.toInt = (i : Int)) (hi : i < N) {v : Value} (hv : f i = v) (hd : decode c.code pc = .ok (.caload, 1)) (hp : pc + 1 = pc')
    (K : Done p l e R s m args below meth c Z own ws bd Q T (mkF m pc' Ls (v :: st))) : Done p l e R s m args below meth c Z own ws bd Q T (mkF m pc Ls (.int j :: .ref a :: st)) := by
  obtain ⟨⟨L, X, N'⟩, eT, b, hZ, hx, ho, hlk, _, _⟩ := id P
  obtain ⟨cl, Ar, S, hN, H⟩ := A
  obtain ⟨q1, q2⟩ := in_of S hj hi
  subst hp hv
  exact Done.step (fun t kk => X.caload hx (by rw [eT]; exact Ar.1) (State.isArrayOf_alike hZ.alike Ar.2.1) Ar.2.2 q1 (by rw [q2]; exact H i hi) (g := mkF m pc Ls (.int j :: .ref a :: st)) rfl rfl hd t kk) K
theorem wAaload {N i : Nat} {f : Nat → Value} {a : Addr} {j : Int32} {ty : FieldType} (P : Pos p l e R s m args below meth c Z own ws bd T h k n) (A : Ar Z h a ty N f) (hty : ty.isReference = true) (hj : j.toInt = (i : Int)) (hi : i < N) {v : Value} (hv : f i = v) (hd : decode c.code pc = .ok (.aaload, 1)) (hp : pc + 1 = pc')
    (K : Done p l e R s m args below meth c Z own ws bd Q T (mkF m pc' Ls (v :: st))) : Done p l e R s m args below meth c Z own ws bd Q T (mkF m pc Ls (.int j :: .ref a :: st)) := by
  obtain ⟨⟨L, X, N'⟩, eT, b, hZ, hx, ho, hlk, _, _⟩ := id P
  obtain ⟨cl, Ar, S, hN, H⟩ := A
  obtain ⟨q1, q2⟩ := in_of S hj hi
  subst hp hv
  exact Done.step (fun t kk => X.aaload hx (by rw [eT]; exact Ar.1) (State.isArrayOf_alike hZ.alike Ar.2.1) hty Ar.2.2 q1 (by rw [q2]; exact H i hi) (g := mkF m pc Ls (.int j :: .ref a :: st)) rfl rfl hd t kk) K
theorem Ar.set {cl : Cell} {a : Addr} {ty : FieldType} {N i : Nat} {f : Nat → Value} {v : Value} (A : Arr Z h a cl ty) (S : cl.slots.size = N) (hN : N < 2147483648) (H : ∀ i, i < N → cl.slots[i]? = some (f i)) (hi : i < N) (W : Wr h h' a i v) : Ar Z h' a ty N (oupd f i v) := by
  refine ⟨cl.setSlot i v, A.same W, by rw [sz_set]; exact S, hN, fun j hj => ?_⟩
  by_cases q : j = i
  · subst q; rw [oupd_same]; exact Cell.slots_setSlot_self v (by omega)
  · rw [oupd_ne q, Cell.slots_setSlot_ne v (Ne.symm q)]; exact H j hj
theorem wDastore {N i : Nat} {f : Nat → UInt64} {a : Addr} {j : Int32} {x : UInt64} (P : Pos p l e R s m args below meth c Z own ws bd T h k n) (A : Ar Z h a .double N (fun i => .double (f i))) (hj : j.toInt = (i : Int)) (hi : i < N) (hge : a ∈ ws ∨ bd ≤ a) (hd : decode c.code pc = .ok (.dastore, 1)) (hp : pc + 1 = pc')
    (K : ∀ T' h', Pos p l e R s m args below meth c Z own ws bd T' h' k n → Wr h h' a i (.double x) → Ar Z h' a .double N (fun j => .double (oupd f i x j)) → Done p l e R s m args below meth c Z own ws bd Q T' (mkF m pc' Ls st)) : Done p l e R s m args below meth c Z own ws bd Q T (mkF m pc Ls (.double x :: .int j :: .ref a :: st)) := by
  obtain ⟨⟨L, X, N'⟩, eT, b, hZ, hx, ho, r⟩ := id P
  obtain ⟨cl, Ar', S, hN, H⟩ := A
  obtain ⟨q1, q2⟩ := in_of S hj hi
  obtain ⟨T', h', X', e', W, stp⟩ := stD X hx hZ eT Ar' q1 (g := mkF m pc Ls (.double x :: .int j :: .ref a :: st)) rfl rfl hd
  subst hp
  rw [q2] at W
  refine Done.step stp (K T' h' ⟨⟨_, X', Fw.snoc N' hge⟩, e', by rw [W.size]; exact b, hZ, hx, ho, r⟩ W ((Ar.set Ar' S hN H hi W).congr fun j _ => ?_))
  unfold oupd; split <;> rfl
theorem wIastore {N i : Nat} {f : Nat → Int32} {a : Addr} {j : Int32} {x : Int32} (P : Pos p l e R s m args below meth c Z own ws bd T h k n) (A : Ar Z h a .int N (fun i => .int (f i))) (hj : j.toInt = (i : Int)) (hi : i < N) (hge : a ∈ ws ∨ bd ≤ a) (hd : decode c.code pc = .ok (.iastore, 1)) (hp : pc + 1 = pc')
    (K : ∀ T' h', Pos p l e R s m args below meth c Z own ws bd T' h' k n → Wr h h' a i (.int x) → Ar Z h' a .int N (fun j => .int (oupd f i x j)) → Done p l e R s m args below meth c Z own ws bd Q T' (mkF m pc' Ls st)) : Done p l e R s m args below meth c Z own ws bd Q T (mkF m pc Ls (.int x :: .int j :: .ref a :: st)) := by
  obtain ⟨⟨L, X, N'⟩, eT, b, hZ, hx, ho, r⟩ := id P
  obtain ⟨cl, Ar', S, hN, H⟩ := A
  obtain ⟨q1, q2⟩ := in_of S hj hi
  obtain ⟨T', h', X', e', W, stp⟩ := stI X hx hZ eT Ar' q1 (g := mkF m pc Ls (.int x :: .int j :: .ref a :: st)) rfl rfl hd
  subst hp
  rw [q2] at W
  refine Done.step stp (K T' h' ⟨⟨_, X', Fw.snoc N' hge⟩, e', by rw [W.size]; exact b, hZ, hx, ho, r⟩ W ((Ar.set Ar' S hN H hi W).congr fun j _ => ?_))
  unfold oupd; split <;> rfl
theorem wCastore {N i : Nat} {f : Nat → Int32} {a : Addr} {j : Int32} {x : Int32} (P : Pos p l e R s m args below meth c Z own ws bd T h k n) (A : Ar Z h a .char N (fun i => .int (f i))) (hj : j.toInt = (i : Int)) (hi : i < N) (hge : a ∈ ws ∨ bd ≤ a) (hd : decode c.code pc = .ok (.castore, 1)) (hp : pc + 1 = pc')
    (K : ∀ T' h', Pos p l e R s m args below meth c Z own ws bd T' h' k n → Wr h h' a i (.int (nar .char x)) → Ar Z h' a .char N (fun j => .int (oupd f i (nar .char x) j)) → Done p l e R s m args below meth c Z own ws bd Q T' (mkF m pc' Ls st)) : Done p l e R s m args below meth c Z own ws bd Q T (mkF m pc Ls (.int x :: .int j :: .ref a :: st)) := by
  obtain ⟨⟨L, X, N'⟩, eT, b, hZ, hx, ho, r⟩ := id P
  obtain ⟨cl, Ar', S, hN, H⟩ := A
  obtain ⟨q1, q2⟩ := in_of S hj hi
  obtain ⟨T', h', X', e', W, stp⟩ := stC X hx hZ eT Ar' q1 (g := mkF m pc Ls (.int x :: .int j :: .ref a :: st)) rfl rfl hd
  subst hp
  rw [q2] at W
  refine Done.step stp (K T' h' ⟨⟨_, X', Fw.snoc N' hge⟩, e', by rw [W.size]; exact b, hZ, hx, ho, r⟩ W ((Ar.set Ar' S hN H hi W).congr fun j _ => ?_))
  unfold oupd; split <;> rfl
theorem wBastore {N i : Nat} {f : Nat → Int32} {a : Addr} {j : Int32} {x : Int32} (P : Pos p l e R s m args below meth c Z own ws bd T h k n) (A : Ar Z h a .byte N (fun i => .int (f i))) (hj : j.toInt = (i : Int)) (hi : i < N) (hge : a ∈ ws ∨ bd ≤ a) (hd : decode c.code pc = .ok (.bastore, 1)) (hp : pc + 1 = pc')
    (K : ∀ T' h', Pos p l e R s m args below meth c Z own ws bd T' h' k n → Wr h h' a i (.int (nar .byte x)) → Ar Z h' a .byte N (fun j => .int (oupd f i (nar .byte x) j)) → Done p l e R s m args below meth c Z own ws bd Q T' (mkF m pc' Ls st)) : Done p l e R s m args below meth c Z own ws bd Q T (mkF m pc Ls (.int x :: .int j :: .ref a :: st)) := by
  obtain ⟨⟨L, X, N'⟩, eT, b, hZ, hx, ho, r⟩ := id P
  obtain ⟨cl, Ar', S, hN, H⟩ := A
  obtain ⟨q1, q2⟩ := in_of S hj hi
  obtain ⟨T', h', X', e', W, stp⟩ := stB X hx hZ eT Ar' q1 (g := mkF m pc Ls (.int x :: .int j :: .ref a :: st)) rfl rfl hd
  subst hp
  rw [q2] at W
  refine Done.step stp (K T' h' ⟨⟨_, X', Fw.snoc N' hge⟩, e', by rw [W.size]; exact b, hZ, hx, ho, r⟩ W ((Ar.set Ar' S hN H hi W).congr fun j _ => ?_))
  unfold oupd; split <;> rfl
theorem wZastore {N i : Nat} {f : Nat → Int32} {a : Addr} {j : Int32} {x : Int32} (P : Pos p l e R s m args below meth c Z own ws bd T h k n) (A : Ar Z h a .boolean N (fun i => .int (f i))) (hj : j.toInt = (i : Int)) (hi : i < N) (hge : a ∈ ws ∨ bd ≤ a) (hd : decode c.code pc = .ok (.bastore, 1)) (hp : pc + 1 = pc')
    (K : ∀ T' h', Pos p l e R s m args below meth c Z own ws bd T' h' k n → Wr h h' a i (.int (nar .boolean x)) → Ar Z h' a .boolean N (fun j => .int (oupd f i (nar .boolean x) j)) → Done p l e R s m args below meth c Z own ws bd Q T' (mkF m pc' Ls st)) : Done p l e R s m args below meth c Z own ws bd Q T (mkF m pc Ls (.int x :: .int j :: .ref a :: st)) := by
  obtain ⟨⟨L, X, N'⟩, eT, b, hZ, hx, ho, r⟩ := id P
  obtain ⟨cl, Ar', S, hN, H⟩ := A
  obtain ⟨q1, q2⟩ := in_of S hj hi
  obtain ⟨T', h', X', e', W, stp⟩ := stZ X hx hZ eT Ar' q1 (g := mkF m pc Ls (.int x :: .int j :: .ref a :: st)) rfl rfl hd
  subst hp
  rw [q2] at W
  refine Done.step stp (K T' h' ⟨⟨_, X', Fw.snoc N' hge⟩, e', by rw [W.size]; exact b, hZ, hx, ho, r⟩ W ((Ar.set Ar' S hN H hi W).congr fun j _ => ?_))
  unfold oupd; split <;> rfl
theorem wBaload {N i : Nat} {f : Nat → Value} {a : Addr} {j : Int32} (P : Pos p l e R s m args below meth c Z own ws bd T h k n) (A : Ar Z h a .byte N f) (hj : j.toInt = (i : Int)) (hi : i < N) {v : Value} (hv : f i = v) (hd : decode c.code pc = .ok (.baload, 1)) (hp : pc + 1 = pc')
    (K : Done p l e R s m args below meth c Z own ws bd Q T (mkF m pc' Ls (v :: st))) : Done p l e R s m args below meth c Z own ws bd Q T (mkF m pc Ls (.int j :: .ref a :: st)) := by
  obtain ⟨⟨L, X, N'⟩, eT, b, hZ, hx, ho, hlk, _, _⟩ := id P
  obtain ⟨cl, Ar, S, hN, H⟩ := A
  obtain ⟨q1, q2⟩ := in_of S hj hi
  subst hp hv
  exact Done.step (fun t kk => X.baloadBytes hx (by rw [eT]; exact Ar.1) (State.isArrayOf_alike hZ.alike Ar.2.1) Ar.2.2 q1 (by rw [q2]; exact H i hi) (g := mkF m pc Ls (.int j :: .ref a :: st)) rfl rfl hd t kk) K
theorem staKeep {C nm d : String} {v : Value} {ws' : List Addr} (F : Sta Z h C nm d v) (K : Keep h h' ws') (hw : ∀ x ∈ ws', ∀ cell : Cell, h[x]? = some cell → cell.vm.isStatics = false) : Sta Z h' C nm d v := by
  obtain ⟨cf, i, k, f, st, cell, h1, h2, h3, h4, h5, h6, r⟩ := F
  exact ⟨cf, i, k, f, st, cell, h1, h2, h3, h4, K.2.1 _ _ h5 (fun q => by rw [hw _ q _ h5] at h6; cases h6), h6, r⟩
theorem wCast {K : String} {index : Nat} {a : Addr} (P : Pos p l e R s m args below meth c Z own ws bd T h k n) (w : (Cond.classLink own index K).before a0 Z = true) (F : Ins Z h a K true) (hd : decode c.code pc = .ok (.checkcast index, 3)) (hp : pc + 3 = pc')
    (K' : ∀ T', Pos p l e R s m args below meth c Z own ws bd T' h k n → Done p l e R s m args below meth c Z own ws bd Q T' (mkF m pc' Ls (.ref a :: st))) : Done p l e R s m args below meth c Z own ws bd Q T (mkF m pc Ls (.ref a :: st)) := by
  obtain ⟨⟨L, X, N'⟩, eT, b, hZ, hx, ho, r⟩ := id P
  obtain ⟨T', X', e', stp⟩ := castY X hx hZ ho w eT F (g := mkF m pc Ls (.ref a :: st)) rfl rfl hd
  subst hp
  exact Done.step stp (K' T' ⟨⟨L, X', N'⟩, e', b, hZ, hx, ho, r⟩)
theorem wInstY {K : String} {index : Nat} {a : Addr} (P : Pos p l e R s m args below meth c Z own ws bd T h k n) (w : (Cond.classLink own index K).before a0 Z = true) (F : Ins Z h a K true) (hd : decode c.code pc = .ok (.instanceof index, 3)) (hp : pc + 3 = pc')
    (K' : ∀ T', Pos p l e R s m args below meth c Z own ws bd T' h k n → Done p l e R s m args below meth c Z own ws bd Q T' (mkF m pc' Ls (.int 1 :: st))) : Done p l e R s m args below meth c Z own ws bd Q T (mkF m pc Ls (.ref a :: st)) := by
  obtain ⟨⟨L, X, N'⟩, eT, b, hZ, hx, ho, r⟩ := id P
  obtain ⟨T', X', e', stp⟩ := instY X hx hZ ho w eT F (g := mkF m pc Ls (.ref a :: st)) rfl rfl hd
  subst hp
  exact Done.step stp (K' T' ⟨⟨L, X', N'⟩, e', b, hZ, hx, ho, r⟩)
theorem wInstN {K C : String} {index : Nat} {a : Addr} (P : Pos p l e R s m args below meth c Z own ws bd T h k n) (w : (Cond.classLink own index K).before a0 Z = true) (E : Exa Z h a C) (F : ∃ c t, Z.vm.findClass C = some c ∧ Z.vm.findClass K = some t ∧ Z.vm.assignable c t = false) (hd : decode c.code pc = .ok (.instanceof index, 3)) (hp : pc + 3 = pc')
    (K' : ∀ T', Pos p l e R s m args below meth c Z own ws bd T' h k n → Done p l e R s m args below meth c Z own ws bd Q T' (mkF m pc' Ls (.int 0 :: st))) : Done p l e R s m args below meth c Z own ws bd Q T (mkF m pc Ls (.ref a :: st)) := by
  obtain ⟨⟨L, X, N'⟩, eT, b, hZ, hx, ho, r⟩ := id P
  obtain ⟨T', X', e', stp⟩ := instNo X hx hZ ho w eT E F (g := mkF m pc Ls (.ref a :: st)) rfl rfl hd
  subst hp
  exact Done.step stp (K' T' ⟨⟨L, X', N'⟩, e', b, hZ, hx, ho, r⟩)
theorem wInst0 {index : Nat} (P : Pos p l e R s m args below meth c Z own ws bd T h k n) (hd : decode c.code pc = .ok (.instanceof index, 3)) (hp : pc + 3 = pc') (D : Done p l e R s m args below meth c Z own ws bd Q T (mkF m pc' Ls (.int 0 :: st))) : Done p l e R s m args below meth c Z own ws bd Q T (mkF m pc Ls (.null :: st)) := by
  obtain ⟨⟨L, X, N'⟩, eT, b, hZ, hx, ho, r⟩ := id P
  subst hp
  exact Done.step (Jvm.Stand.instanceofNull X hx (g := mkF m pc Ls (.null :: st)) rfl rfl hd) D
/-! calls -/
theorem wInit {index : Nat} {a : Addr} {W : Nat} (P : Pos p l e R s m args below meth c Z own ws bd T h k n) (w1 : (Cond.methodLink own index Lib.objectInit).before a0 Z = true) (w2 : (Cond.instanceMethod Lib.objectInit).before a0 Z = true) (w3 : (Cond.code Lib.objectInit ⟨#[0xb1]⟩ 1 none).before a0 Z = true) (hml : Ls.size = c.maxLocals)
    (hd : decode c.code pc = .ok (.invokespecial index, 3)) (hf : 1 ≤ R.frames) (hW : (st.map fun v => v.category).sum ≤ W) (hl : W + 12 ≤ R.locals) (hp : pc + 3 = pc')
    (K : ∀ T', Pos p l e R s m args below meth c Z own ws bd T' h k n → Done p l e R s m args below meth c Z own ws bd Q T' (mkF m pc' Ls st)) : Done p l e R s m args below meth c Z own ws bd Q T (mkF m pc Ls (.ref a :: st)) := by
  obtain ⟨⟨L, X, N'⟩, eT, b, hZ, hx, ho, r⟩ := id P
  obtain ⟨T', X', e', stp⟩ := initO X hx hZ ho w1 w2 w3 eT (g := mkF m pc Ls (.ref a :: st)) rfl hml rfl hd hf (W := W) (by show 2 * 0 + _ ≤ _; omega) hl
  subst hp
  exact Done.step stp (K T' ⟨⟨L, X', N'⟩, e', b, hZ, hx, ho, r⟩)
theorem wCallS {y : MethodName} {bytes : ByteArray} {maxL : Nat} {ret : Option FieldType} {rm : Room} {as' : Array Value} {ws' : List Addr} {Q' : Option Value → Heap → Prop} {index W : Nat} {argsL rest stk : List Value} (P : Pos p l e R s m args below meth c Z own ws bd T h k n) (M : OMet l y bytes maxL ret [] rm Z h ws' as' Q')
    (w1 : (Cond.methodLink own index y).before a0 Z = true) (w2 : (Cond.static y).before a0 Z = true) (w3 : (Cond.initialized y.cls).before a0 Z = true) (w4 : (Cond.code y bytes maxL ret).before a0 Z = true) (hy : y.cls ≠ "java/lang/invoke/MethodHandle" ∧ y.cls ≠ "java/lang/invoke/VarHandle") (hml : Ls.size = c.maxLocals)
    (hlen : ∀ sig, parseMethodDescriptor y.desc = some sig → argsL.length = sig.parameters.length) (has : (argsL).toArray = as') (hst : stk = argsL.reverse ++ rest) (hW : (rest.map fun v => v.category).sum ≤ W) (hf : rm.frames + 1 ≤ R.frames) (hl : W + (maxL + 11) + rm.locals ≤ R.locals) (hc : k + rm.cells ≤ R.cells) (hs : n + rm.slots ≤ R.slots)
    (hws : ∀ x ∈ ws', x ∈ ws ∨ bd ≤ x) (hd : decode c.code pc = .ok (.invokestatic index, 3)) (hp : pc + 3 = pc') {k' n' : Nat} (hk' : k + rm.cells = k') (hn' : n + rm.slots = n')
    (K : ∀ T' h' v, Pos p l e R s m args below meth c Z own ws bd T' h' k' n' → Keep h h' ws' → Q' v h' → Done p l e R s m args below meth c Z own ws bd Q T' (mkF m pc' Ls (v.toList ++ rest))) : Done p l e R s m args below meth c Z own ws bd Q T (mkF m pc Ls stk) := by
  obtain ⟨⟨L, X, N'⟩, eT, b, hZ, hx, ho, hlk, _, _⟩ := id P
  subst hst has hp hk' hn'
  obtain ⟨v, _, ⟨T', L', k1, n1⟩, -, X', ⟨Lc, hq, l', y', z'⟩, stp⟩ := Jvm.LawKit.callS X hx (y := y) ho (mvT hZ w1) (mvT hZ w2) (mvT hZ w3) (mvT hZ w4) hy (backOf (W := W) (Q := fun v h' L => Q' v h' ∧ Fw ws' h.size L ∧ Keep h h' ws') M hZ w4 w3 hf hl) (g := mkF m pc Ls (argsL.reverse ++ rest)) rfl hml (argsL := argsL) (rest := rest) hlen rfl (by show 2 * 0 + _ ≤ _; omega) hd (fun _ _ => ⟨rfl, eT, hc, hs⟩)
  dsimp only [Pt.U, Pt.locs, Pt.cells, Pt.slots] at X' l' y' z' stp hq
  subst l' y' z'
  exact Done.step (stp) (K T' T'.heap v ⟨⟨_, X', N'.app fun y hy => (hq.2.1 y hy).elim (fun q => hws _ q) (fun q => Or.inr (Nat.le_trans b q))⟩, rfl, Nat.le_trans b hq.2.2.1, hZ, hx, ho, hlk, hc, hs⟩ hq.2.2 hq.1)
theorem wCallI {y : MethodName} {bytes : ByteArray} {maxL : Nat} {rm : Room} {as' : Array Value} {ws' : List Addr} {Q' : Option Value → Heap → Prop} {index W : Nat} {argsL rest stk : List Value} {a : Addr} (P : Pos p l e R s m args below meth c Z own ws bd T h k n) (M : OMet l y bytes maxL none [] rm Z h ws' as' Q')
    (hyn : y.name = "<init>") (w1 : (Cond.methodLink own index y).before a0 Z = true) (w2 : (Cond.instanceMethod y).before a0 Z = true) (w3 : (Cond.initialized y.cls).before a0 Z = true) (w4 : (Cond.code y bytes maxL none).before a0 Z = true) (hy : y.cls ≠ "java/lang/invoke/MethodHandle" ∧ y.cls ≠ "java/lang/invoke/VarHandle") (hml : Ls.size = c.maxLocals)
    (hlen : ∀ sig, parseMethodDescriptor y.desc = some sig → argsL.length = sig.parameters.length) (has : (.ref a :: argsL).toArray = as') (hst : stk = argsL.reverse ++ .ref a :: rest) (hW : (rest.map fun v => v.category).sum ≤ W) (hf : rm.frames + 1 ≤ R.frames) (hl : W + (maxL + 11) + rm.locals ≤ R.locals) (hc : k + rm.cells ≤ R.cells) (hs : n + rm.slots ≤ R.slots)
    (hws : ∀ x ∈ ws', x ∈ ws ∨ bd ≤ x) (hd : decode c.code pc = .ok (.invokespecial index, 3)) (hp : pc + 3 = pc') {k' n' : Nat} (hk' : k + rm.cells = k') (hn' : n + rm.slots = n')
    (K : ∀ T' h' v, Pos p l e R s m args below meth c Z own ws bd T' h' k' n' → Keep h h' ws' → Q' v h' → Done p l e R s m args below meth c Z own ws bd Q T' (mkF m pc' Ls (v.toList ++ rest))) : Done p l e R s m args below meth c Z own ws bd Q T (mkF m pc Ls stk) := by
  obtain ⟨⟨L, X, N'⟩, eT, b, hZ, hx, ho, hlk, _, _⟩ := id P
  subst hst has hp hk' hn'
  obtain ⟨v, _, ⟨T', L', k1, n1⟩, -, X', ⟨Lc, hq, l', y', z'⟩, stp⟩ := X.specialBack hx (y := y) hyn ho (mvT hZ w1) (mvT hZ w2) (mvT hZ w4) hy (backOf (W := W) (Q := fun v h' L => Q' v h' ∧ Fw ws' h.size L ∧ Keep h h' ws') M hZ w4 w3 hf hl) (g := mkF m pc Ls (argsL.reverse ++ .ref a :: rest)) rfl hml (Steps.refl _) (a := a) (argsL := argsL) (rest := rest) hlen rfl (by show 2 * 0 + _ ≤ _; omega) hd (fun _ _ => ⟨rfl, eT, hc, hs⟩)
  dsimp only [Pt.U, Pt.locs, Pt.cells, Pt.slots] at X' l' y' z' stp hq
  subst l' y' z'
  exact Done.step (fun t kk => stp.trans kk) (K T' T'.heap v ⟨⟨_, X', N'.app fun y hy => (hq.2.1 y hy).elim (fun q => hws _ q) (fun q => Or.inr (Nat.le_trans b q))⟩, rfl, Nat.le_trans b hq.2.2.1, hZ, hx, ho, hlk, hc, hs⟩ hq.2.2 hq.1)
theorem wCallV {y : MethodName} {bytes : ByteArray} {maxL : Nat} {ret : Option FieldType} {rm : Room} {as' : Array Value} {ws' : List Addr} {Q' : Option Value → Heap → Prop} {index W : Nat} {argsL rest stk : List Value} {z : MethodName} {C : String} {a : Addr} (P : Pos p l e R s m args below meth c Z own ws bd T h k n) (M : OMet l z bytes maxL ret [] rm Z h ws' as' Q')
    (w1 : (Cond.methodLink own index y).before a0 Z = true) (w2 : (Cond.declares y).before a0 Z = true) (w5 : (Cond.selects C y z).before a0 Z = true) {D : String} (w7 : (Cond.selects D y y).before a0 Z = true) (w6 : (Cond.instanceMethod z).before a0 Z = true) (w3 : (Cond.initialized z.cls).before a0 Z = true) (w4 : (Cond.code z bytes maxL ret).before a0 Z = true) (hy : y.cls ≠ "java/lang/invoke/MethodHandle" ∧ y.cls ≠ "java/lang/invoke/VarHandle") (E : Exa Z h a C) (hml : Ls.size = c.maxLocals)
    (hlen : ∀ sig, parseMethodDescriptor y.desc = some sig → argsL.length = sig.parameters.length) (has : (.ref a :: argsL).toArray = as') (hst : stk = argsL.reverse ++ .ref a :: rest) (hW : (rest.map fun v => v.category).sum ≤ W) (hf : rm.frames + 1 ≤ R.frames) (hl : W + (maxL + 11) + rm.locals ≤ R.locals) (hc : k + rm.cells ≤ R.cells) (hs : n + rm.slots ≤ R.slots)
    (hws : ∀ x ∈ ws', x ∈ ws ∨ bd ≤ x) (hd : decode c.code pc = .ok (.invokevirtual index, 3)) (hp : pc + 3 = pc') {k' n' : Nat} (hk' : k + rm.cells = k') (hn' : n + rm.slots = n')
    (K : ∀ T' h' v, Pos p l e R s m args below meth c Z own ws bd T' h' k' n' → Keep h h' ws' → Q' v h' → Done p l e R s m args below meth c Z own ws bd Q T' (mkF m pc' Ls (v.toList ++ rest))) : Done p l e R s m args below meth c Z own ws bd Q T (mkF m pc Ls stk) := by
  obtain ⟨⟨L, X, N'⟩, eT, b, hZ, hx, ho, hlk, _, _⟩ := id P
  subst hst has hp hk' hn'
  obtain ⟨cq, kq, qa, qb, qc⟩ := isOf hZ eT E
  obtain ⟨v, _, ⟨T', L', k1, n1⟩, -, X', ⟨Lc, hq, l', y', z'⟩, stp⟩ := X.virtualBack hx (y := y) (z := z) ho (mvT hZ w1) (mvT hZ w2) (notFace_of_selects (args := #[]) (mvT hZ w7)) (mvT hZ w5) (mvT hZ w6) hy (backOf (W := W) (Q := fun v h' L => Q' v h' ∧ Fw ws' h.size L ∧ Keep h h' ws') M hZ w4 w3 hf hl) qa qc (g := mkF m pc Ls (argsL.reverse ++ .ref a :: rest)) rfl hml (Steps.refl _) (argsL := argsL) (rest := rest) hlen rfl (by show 2 * 0 + _ ≤ _; omega) hd (fun _ _ => ⟨rfl, eT, hc, hs⟩)
  dsimp only [Pt.U, Pt.locs, Pt.cells, Pt.slots] at X' l' y' z' stp hq
  subst l' y' z'
  exact Done.step (fun t kk => stp.trans kk) (K T' T'.heap v ⟨⟨_, X', N'.app fun y hy => (hq.2.1 y hy).elim (fun q => hws _ q) (fun q => Or.inr (Nat.le_trans b q))⟩, rfl, Nat.le_trans b hq.2.2.1, hZ, hx, ho, hlk, hc, hs⟩ hq.2.2 hq.1)
theorem wCallP {y : MethodName} {bytes : ByteArray} {maxL : Nat} {ret : Option FieldType} {rm : Room} {as' : Array Value} {ws' : List Addr} {Q' : Option Value → Heap → Prop} {index W kk : Nat} {argsL rest stk : List Value} {a : Addr} {C : String} (P : Pos p l e R s m args below meth c Z own ws bd T h k n) (M : OMet l y bytes maxL ret [] rm Z h ws' as' Q')
    (w1 : (Cond.methodLink own index y).before a0 Z = true) (w2 : (Cond.instanceMethod y).before a0 Z = true) (w5 : (Cond.privateMethod y).before a0 Z = true) (wi : (Cond.instantiable y.cls kk).before a0 Z = true) (w3 : (Cond.initialized y.cls).before a0 Z = true) (w4 : (Cond.code y bytes maxL ret).before a0 Z = true) (hy : y.cls ≠ "java/lang/invoke/MethodHandle" ∧ y.cls ≠ "java/lang/invoke/VarHandle") (E : Exa Z h a C) (hml : Ls.size = c.maxLocals)
    (hlen : ∀ sig, parseMethodDescriptor y.desc = some sig → argsL.length = sig.parameters.length) (has : (.ref a :: argsL).toArray = as') (hst : stk = argsL.reverse ++ .ref a :: rest) (hW : (rest.map fun v => v.category).sum ≤ W) (hf : rm.frames + 1 ≤ R.frames) (hl : W + (maxL + 11) + rm.locals ≤ R.locals) (hc : k + rm.cells ≤ R.cells) (hs : n + rm.slots ≤ R.slots)
    (hws : ∀ x ∈ ws', x ∈ ws ∨ bd ≤ x) (hd : decode c.code pc = .ok (.invokevirtual index, 3)) (hp : pc + 3 = pc') {k' n' : Nat} (hk' : k + rm.cells = k') (hn' : n + rm.slots = n')
    (K : ∀ T' h' v, Pos p l e R s m args below meth c Z own ws bd T' h' k' n' → Keep h h' ws' → Q' v h' → Done p l e R s m args below meth c Z own ws bd Q T' (mkF m pc' Ls (v.toList ++ rest))) : Done p l e R s m args below meth c Z own ws bd Q T (mkF m pc Ls stk) := by
  obtain ⟨⟨L, X, N'⟩, eT, b, hZ, hx, ho, hlk, _, _⟩ := id P
  subst hst has hp hk' hn'
  obtain ⟨cl, hcl, hst⟩ := E.cell
  have hpr : s.PrivateAt y := Cond.privateMethod_at (mvP hZ w5 (args := #[]))
  obtain ⟨ci, ki, hi1, hi2, -, hi3, -⟩ := Cond.instantiable_spec (mvT hZ wi : (Cond.instantiable y.cls kk).before args s = true)
  have hsel : (Cond.selects y.cls y y).before args s = true := selects_self_of_private hi1 hi2 (by simp only [Bool.or_eq_false_iff] at hi3; exact hi3.1) hpr (mvT hZ w2) hy
  obtain ⟨v, _, ⟨T', L', k1, n1⟩, -, X', ⟨Lc, hq, l', y', z'⟩, stp⟩ := X.privateBack hx (y := y) ho (mvT hZ w1) (mvT hZ w2) hsel hpr (mvT hZ w4) hy (backOf (W := W) (Q := fun v h' L => Q' v h' ∧ Fw ws' h.size L ∧ Keep h h' ws') M hZ w4 w3 hf hl) (g := mkF m pc Ls (argsL.reverse ++ .ref a :: rest)) rfl hml (Steps.refl _) (a := a) (by rw [eT]; exact hcl) hst (argsL := argsL) (rest := rest) hlen rfl (by show 2 * 0 + _ ≤ _; omega) hd (fun _ _ => ⟨rfl, eT, hc, hs⟩)
  dsimp only [Pt.U, Pt.locs, Pt.cells, Pt.slots] at X' l' y' z' stp hq
  subst l' y' z'
  exact Done.step (fun t kk => stp.trans kk) (K T' T'.heap v ⟨⟨_, X', N'.app fun y hy => (hq.2.1 y hy).elim (fun q => hws _ q) (fun q => Or.inr (Nat.le_trans b q))⟩, rfl, Nat.le_trans b hq.2.2.1, hZ, hx, ho, hlk, hc, hs⟩ hq.2.2 hq.1)
/-- a call that the machine answers itself -/
theorem wNat {y : MethodName} {by0 : ByteArray} {ml : Nat} {rt : Option FieldType} {index W : Nat} {F : Array Value → Prop} {val : Value} {argsL rest stk : List Value} (P : Pos p l e R s m args below meth c Z own ws bd T h k n)
    (w1 : (Cond.methodLink own index y).before a0 Z = true) (w2 : (Cond.static y).before a0 Z = true) (w3 : (Cond.initialized y.cls).before a0 Z = true) (w4 : (Cond.code y by0 ml rt).before a0 Z = true) (hy : y.cls ≠ "java/lang/invoke/MethodHandle" ∧ y.cls ≠ "java/lang/invoke/VarHandle")
    (hK : (Cond.code y by0 ml rt).before args s = true → Back l R p e below s args y 3 W (fun A a' => A.cells ≤ R.cells ∧ A.slots ≤ R.slots ∧ F a') (fun A _ v B => v = some val ∧ B = A)) (hml : Ls.size = c.maxLocals)
    (hlen : ∀ sig, parseMethodDescriptor y.desc = some sig → argsL.length = sig.parameters.length) (hst : stk = argsL.reverse ++ rest) (hW : (rest.map fun v => v.category).sum ≤ W) (hd : decode c.code pc = .ok (.invokestatic index, 3)) (hp : pc + 3 = pc') (hF : F argsL.toArray)
    (K : ∀ T', Pos p l e R s m args below meth c Z own ws bd T' h k n → Done p l e R s m args below meth c Z own ws bd Q T' (mkF m pc' Ls (val :: rest))) : Done p l e R s m args below meth c Z own ws bd Q T (mkF m pc Ls stk) := by
  obtain ⟨⟨L, X, N'⟩, eT, b, hZ, hx, ho, hlk, hc, hs⟩ := id P
  subst hst hp
  obtain ⟨T', X', e', stp⟩ := natS X hx hZ ho w1 w2 w3 w4 hy eT hK (g := mkF m pc Ls (argsL.reverse ++ rest)) rfl hml hlen rfl (by show 2 * 0 + _ ≤ _; omega) hd hc hs hF rfl
  exact Done.step stp (K T' ⟨⟨L, X', N'⟩, e', b, hZ, hx, ho, hlk, hc, hs⟩)
theorem Fw.toFr {bd : Nat} {L : List Loc} (N : Fw [] bd L) : Fr bd L := fun y hy => (N y hy).resolve_left (by simp)
theorem Fw.ofFr {ws : List Addr} {bd : Nat} {L : List Loc} (N : Fr bd L) : Fw ws bd L := fun y hy => Or.inr (N y hy)
theorem n32 {N : Nat} (h : N < 2147483648) : ¬ Int32.ofNat N < 0 ∧ (Int32.ofNat N).toNatClampNeg = N := by
  have e : (Int32.ofNat N).toInt = (N : Int) := Int32.toInt_ofNat_of_lt (by omega)
  refine ⟨?_, by rw [Int32.toNatClampNeg, e]; omega⟩
  rw [Int32.lt_iff_toInt_lt, e, show (0 : Int32).toInt = 0 from rfl]; omega
theorem Ar.toArv {a : Addr} {ty : FieldType} {N : Nat} {f : Nat → Value} (A : Ar Z h a ty N f) (dv : Value) (hf : ∀ i, fits ty (f i) = true) (hd : fits ty dv = true) : ∃ kA, Arv Z h a kA ty (Int32.ofNat N) ((List.range N).map f) dv := by
  obtain ⟨cl, Ar, S, hN, H⟩ := A
  have g : ∀ i, i < N → ((List.range N).map f).getD i dv = f i := fun i hi => by simp [List.getD_eq_getElem?_getD, hi]
  refine ⟨cl.cls, cl, Ar, rfl, by rw [(n32 hN).2, S], (n32 hN).1, fun i hi => ?_, fun i hi => ?_⟩
  · rw [g i (by omega)]; exact H i (by omega)
  · rw [g i (by omega)]; exact hf i
theorem Ar.ofArv {a : Addr} {ty : FieldType} {kA : ClassId} {N : Nat} {vs : List Value} {dv : Value} (hN : N < 2147483648) (A : Arv Z h a kA ty (Int32.ofNat N) vs dv) : Ar Z h a ty N (fun i => vs.getD i dv) := by
  obtain ⟨cl, Ar, -, S, -, H, -⟩ := A
  rw [(n32 hN).2] at S
  exact ⟨cl, Ar, S, hN, fun i hi => H i (by omega)⟩
/-- a copy of an array of doubles -/
theorem wClone {N cap index W : Nat} {f : Nat → UInt64} {a : Addr} (P : Pos p l e R s m args below meth c Z own ws bd T h k n) (A : Ar Z h a .double N (fun i => .double (f i))) (E : Exa Z h a "[D")
    (w1 : (Cond.methodLink own index ⟨"[D", "clone", "()Ljava/lang/Object;"⟩).before a0 Z = true) (w2 : (Cond.sameMethod "[D" "java/lang/Object" "clone" "()Ljava/lang/Object;").before a0 Z = true) (w3 : (Cond.native ⟨"java/lang/Object", "clone", "()Ljava/lang/Object;"⟩).before a0 Z = true)
    (w4 : (Cond.instanceMethod ⟨"java/lang/Object", "clone", "()Ljava/lang/Object;"⟩).before a0 Z = true) (w5 : (Cond.selects "[D" ⟨"[D", "clone", "()Ljava/lang/Object;"⟩ ⟨"java/lang/Object", "clone", "()Ljava/lang/Object;"⟩).before a0 Z = true) (w6 : (Cond.castable "[D" "java/lang/Cloneable").before a0 Z = true)
    (hml : Ls.size = c.maxLocals) (hd : decode c.code pc = .ok (.invokevirtual index, 3)) (hp : pc + 3 = pc') (hf : 1 ≤ R.frames) (hW : (st.map fun v => v.category).sum ≤ W) (hl : W + 14 ≤ R.locals) (hcap : N ≤ cap) (hc : k + 1 ≤ R.cells) (hsl : n + cap ≤ R.slots) {k' n' : Nat} (hk' : k + 1 = k') (hn' : n + cap = n')
    (K : ∀ T' h' b, b = h.size → h.size < h'.size → Pos p l e R s m args below meth c Z own ws bd T' h' k' n' → Ext h h' → Ar Z h' b .double N (fun i => .double (f i)) → Exa Z h' b "[D" → Done p l e R s m args below meth c Z own ws bd Q T' (mkF m pc' Ls (.ref b :: st))) : Done p l e R s m args below meth c Z own ws bd Q T (mkF m pc Ls (.ref a :: st)) := by
  obtain ⟨⟨L, X, N'⟩, eT, b, hZ, hx, ho, hlk, _, _⟩ := id P
  obtain ⟨cl, Ar, S, hN, H⟩ := A
  have FC : FitC Z cl := fitC_of Ar fun i hi v hv => by rw [H i (by omega)] at hv; cases hv; rfl
  obtain ⟨T', h', X', e', ex, A', E', stp⟩ := cloneA X hx hZ ho w1 w2 w3 w4 w5 w6 eT Ar E FC (g := mkF m pc Ls (.ref a :: st)) rfl hml rfl hd hf (W := W) (by show 2 * 0 + _ ≤ _; omega) hl (cap := cap) (by omega) hc hsl
  subst hp hk' hn'
  exact Done.step stp (K T' h' h.size rfl A'.lt ⟨⟨L, X', N'⟩, e', Nat.le_trans b ex.1, hZ, hx, ho, hlk, hc, hsl⟩ ex ⟨_, A', S, hN, H⟩ E')
/-- System.arraycopy of the first places of an array of doubles into a fresh one -/
theorem wCopyD {N M K0 index W : Nat} {f g : Nat → UInt64} {a b : Addr} {nn : Int32} (P : Pos p l e R s m args below meth c Z own [] bd T h k n) (A : Ar Z h a .double N (fun i => .double (f i))) (B : Ar Z h b .double M (fun i => .double (g i))) (hnn : nn.toInt = (K0 : Int)) (h1 : K0 ≤ N) (h2 : K0 ≤ M) (ge : bd ≤ b)
    (w1 : (Cond.methodLink own index Jvm.Stand.acN).before a0 Z = true) (w2 : (Cond.native Jvm.Stand.acN).before a0 Z = true) (w3 : (Cond.static Jvm.Stand.acN).before a0 Z = true) (w4 : (Cond.initialized "java/lang/System").before a0 Z = true)
    (hml : Ls.size = c.maxLocals) (hd : decode c.code pc = .ok (.invokestatic index, 3)) (hp : pc + 3 = pc') (hf : 1 ≤ R.frames) (hW : (st.map fun v => v.category).sum ≤ W) (hlo : W + (nativeFrameWords "java/lang/System" "arraycopy" 5 + 11) ≤ R.locals)
    (K : ∀ T' h', Pos p l e R s m args below meth c Z own [] bd T' h' k n → Keep h h' [b] → Ar Z h' b .double M (fun i => .double (if i < K0 then f i else g i)) → Done p l e R s m args below meth c Z own [] bd Q T' (mkF m pc' Ls st)) :
    Done p l e R s m args below meth c Z own [] bd Q T (mkF m pc Ls (.int nn :: .int 0 :: .ref b :: .int 0 :: .ref a :: st)) := by
  obtain ⟨⟨L, X, N'⟩, eT, hb', hZ, hx, ho, r⟩ := id P
  have hN := A.len
  have hM := B.len
  obtain ⟨kA, VA⟩ := A.toArv (.double 0) (fun _ => rfl) rfl
  obtain ⟨kB, VB⟩ := B.toArv (.double 0) (fun _ => rfl) rfl
  have z0 : ¬ (0 : Int32) < 0 := by decide
  have z1 : (0 : Int32).toNatClampNeg = 0 := by decide
  have q0 : ¬ nn < 0 := by rw [Int32.lt_iff_toInt_lt, hnn, show (0 : Int32).toInt = 0 from rfl]; omega
  have q1 : nn.toNatClampNeg = K0 := by rw [Int32.toNatClampNeg, hnn]; omega
  obtain ⟨T', h', L', X', e', F', Kp, V', stp⟩ := cpA X hx hZ ho w1 w2 w3 w4 eT VA VB (Or.inl ⟨rfl, rfl⟩) z0 z0 q0 (by rw [z1, q1, (n32 hN).2]; omega) (by rw [z1, q1, (n32 hM).2]; omega) rfl (by rw [z1, q1]; simp; omega) (n0 := bd) N'.toFr ge (g := mkF m pc Ls (.int nn :: .int 0 :: .ref b :: .int 0 :: .ref a :: st)) rfl hml rfl hd hf (W := W) (by show 2 * 0 + _ ≤ _; omega) hlo
  subst hp
  refine Done.step stp (K T' h' ⟨⟨L', X', Fw.ofFr F'⟩, e', Nat.le_trans hb' Kp.1, hZ, hx, ho, r⟩ Kp ((Ar.ofArv hM V').congr fun i hi => ?_))
  rw [z1, q1]
  by_cases q : i < K0
  · rw [if_pos q]
    simp [List.getD_eq_getElem?_getD, List.getElem?_append, q]
    rw [List.getElem?_range (by omega)]
    rfl
  · rw [if_neg q]
    simp [List.getD_eq_getElem?_getD, List.getElem?_append, q]
    have e2 : K0 + (i - K0) = i := by omega
    simp [e2, hi]
/-! constants and references -/
theorem pLdcI {index : Nat} {v : Int32} {t : State} (P : Pos p l e R s m args below meth c Z own ws bd T h k n) (w : (Cond.constant own index v).before a0 Z = true) (hd : decode c.code pc = .ok (.ldc index, 2)) (hp : pc + 2 = pc') (kk : Steps p.tables e below (T.setTop (mkF m pc' Ls (.int v :: st))) t) : Steps p.tables e below (T.setTop (mkF m pc Ls st)) t := by
  obtain ⟨⟨L, X, N'⟩, eT, b, hZ, hx, ho, hlk, _, _⟩ := id P
  subst hp
  exact X.ldcI hx ho (mvT hZ w) (g := mkF m pc Ls st) rfl hd kk
theorem pLdcIw {index : Nat} {v : Int32} {t : State} (P : Pos p l e R s m args below meth c Z own ws bd T h k n) (w : (Cond.constant own index v).before a0 Z = true) (hd : decode c.code pc = .ok (.ldc_w index, 3)) (hp : pc + 3 = pc') (kk : Steps p.tables e below (T.setTop (mkF m pc' Ls (.int v :: st))) t) : Steps p.tables e below (T.setTop (mkF m pc Ls st)) t := by
  obtain ⟨⟨L, X, N'⟩, eT, b, hZ, hx, ho, hlk, _, _⟩ := id P
  subst hp
  exact X.ldcWI hx ho (mvT hZ w) (g := mkF m pc Ls st) rfl hd kk
theorem pLdcJ {index : Nat} {v : Int64} {t : State} (P : Pos p l e R s m args below meth c Z own ws bd T h k n) (w : (Cond.constantLong own index v).before a0 Z = true) (hd : decode c.code pc = .ok (.ldc2_w index, 3)) (hp : pc + 3 = pc') (kk : Steps p.tables e below (T.setTop (mkF m pc' Ls (.long v :: st))) t) : Steps p.tables e below (T.setTop (mkF m pc Ls st)) t := by
  obtain ⟨⟨L, X, N'⟩, eT, b, hZ, hx, ho, hlk, _, _⟩ := id P
  subst hp
  exact X.ldc2J hx ho (mvT hZ w) (g := mkF m pc Ls st) rfl hd kk
theorem pLdcD {index : Nat} {v : UInt64} {t : State} (P : Pos p l e R s m args below meth c Z own ws bd T h k n) (w : (Cond.constantDouble own index v).before a0 Z = true) (hd : decode c.code pc = .ok (.ldc2_w index, 3)) (hp : pc + 3 = pc') (kk : Steps p.tables e below (T.setTop (mkF m pc' Ls (.double v :: st))) t) : Steps p.tables e below (T.setTop (mkF m pc Ls st)) t := by
  obtain ⟨⟨L, X, N'⟩, eT, b, hZ, hx, ho, hlk, _, _⟩ := id P
  subst hp
  exact X.ldc2DoubleC hx ho (mvT hZ w) (g := mkF m pc Ls st) rfl hd t kk
theorem pAcmp {cd : ACond} {x y : Value} {rest stk : List Value} {o : Int} {pc0 : Nat} {same : Bool} {t : State} (P : Pos p l e R s m args below meth c Z own ws bd T h k n) (h1 : x.isRef = true) (h2 : y.isRef = true) (hpc : pc = pc0) (hd : decode c.code pc = .ok (.if_acmp cd o, 3)) (hs : stk = y :: x :: rest) (hq : decide (x = y) = same) (ho : 0 ≤ (pc0 : Int) + o)
    (hp : pc' = if acV cd same = true then ((pc0 : Int) + o).toNat else pc0 + 3) (kk : Steps p.tables e below (T.setTop (mkF m pc' Ls rest)) t) : Steps p.tables e below (T.setTop (mkF m pc Ls stk)) t := by
  obtain ⟨⟨L, X, N'⟩, eT, b, hZ, hx, ho', hlk, _, _⟩ := id P
  exact Jvm.RoadKit.acmp (g := mkF m pc Ls stk) X hx rfl h1 h2 (pc0 := pc0) (pc' := pc') (same := same) hpc hd hs hq ho hp kk
end A
/-! conditions of branches -/
theorem iiW_lt_t {x y : Int32} (h : x < y) : if_icmp.holds .lt x y = true := (tlt h).1
theorem iiW_lt_f {x y : Int32} (h : ¬ (x < y)) : if_icmp.holds .lt x y = false := (flt h).1
theorem iiW_ge_t {x y : Int32} (h : ¬ (x < y)) : if_icmp.holds .ge x y = true := (flt h).2.1
theorem iiW_ge_f {x y : Int32} (h : ¬ ¬ (x < y)) : if_icmp.holds .ge x y = false := (tlt (Decidable.not_not.mp h)).2.1
theorem iiW_gt_t {x y : Int32} (h : y < x) : if_icmp.holds .gt x y = true := (tlt h).2.2.1
theorem iiW_gt_f {x y : Int32} (h : ¬ (y < x)) : if_icmp.holds .gt x y = false := (flt h).2.2.1
theorem iiW_le_t {x y : Int32} (h : ¬ (y < x)) : if_icmp.holds .le x y = true := (flt h).2.2.2
theorem iiW_le_f {x y : Int32} (h : ¬ ¬ (y < x)) : if_icmp.holds .le x y = false := (tlt (Decidable.not_not.mp h)).2.2.2
theorem iiW_eq_t {x y : Int32} (h : x = y) : if_icmp.holds .eq x y = true := (teq h).1
theorem iiW_eq_f {x y : Int32} (h : ¬ (x = y)) : if_icmp.holds .eq x y = false := (feq h).1
theorem iiW_ne_t {x y : Int32} (h : ¬ (x = y)) : if_icmp.holds .ne x y = true := (feq h).2
theorem iiW_ne_f {x y : Int32} (h : ¬ ¬ (x = y)) : if_icmp.holds .ne x y = false := (teq (Decidable.not_not.mp h)).2
theorem i0W_lt_t {x : Int32} (h : x < (0 : Int32)) : ifCond.holds .lt x = true := (if0 _ _).trans (iiW_lt_t h)
theorem i0W_lt_f {x : Int32} (h : ¬ (x < (0 : Int32))) : ifCond.holds .lt x = false := (if0 _ _).trans (iiW_lt_f h)
theorem i0W_ge_t {x : Int32} (h : ¬ (x < (0 : Int32))) : ifCond.holds .ge x = true := (if0 _ _).trans (iiW_ge_t h)
theorem i0W_ge_f {x : Int32} (h : ¬ ¬ (x < (0 : Int32))) : ifCond.holds .ge x = false := (if0 _ _).trans (iiW_ge_f h)
theorem i0W_gt_t {x : Int32} (h : (0 : Int32) < x) : ifCond.holds .gt x = true := (if0 _ _).trans (iiW_gt_t h)
theorem i0W_gt_f {x : Int32} (h : ¬ ((0 : Int32) < x)) : ifCond.holds .gt x = false := (if0 _ _).trans (iiW_gt_f h)
theorem i0W_le_t {x : Int32} (h : ¬ ((0 : Int32) < x)) : ifCond.holds .le x = true := (if0 _ _).trans (iiW_le_t h)
theorem i0W_le_f {x : Int32} (h : ¬ ¬ ((0 : Int32) < x)) : ifCond.holds .le x = false := (if0 _ _).trans (iiW_le_f h)
theorem i0W_eq_t {x : Int32} (h : x = (0 : Int32)) : ifCond.holds .eq x = true := (if0 _ _).trans (iiW_eq_t h)
theorem i0W_eq_f {x : Int32} (h : ¬ (x = (0 : Int32))) : ifCond.holds .eq x = false := (if0 _ _).trans (iiW_eq_f h)
theorem i0W_ne_t {x : Int32} (h : ¬ (x = (0 : Int32))) : ifCond.holds .ne x = true := (if0 _ _).trans (iiW_ne_t h)
theorem i0W_ne_f {x : Int32} (h : ¬ ¬ (x = (0 : Int32))) : ifCond.holds .ne x = false := (if0 _ _).trans (iiW_ne_f h)
theorem lcW_lt_t {x y : Int64} (h : x < y) : ifCond.holds .lt (lcmpW x y) = true := i0W_lt_t ((lw_lt x y).mpr h)
theorem lcW_lt_f {x y : Int64} (h : ¬ (x < y)) : ifCond.holds .lt (lcmpW x y) = false := i0W_lt_f fun q => h ((lw_lt x y).mp q)
theorem lcW_ge_t {x y : Int64} (h : ¬ (x < y)) : ifCond.holds .ge (lcmpW x y) = true := i0W_ge_t fun q => h ((lw_lt x y).mp q)
theorem lcW_ge_f {x y : Int64} (h : ¬ ¬ (x < y)) : ifCond.holds .ge (lcmpW x y) = false := i0W_ge_f fun q => h fun z => q ((lw_lt x y).mpr z)
theorem lcW_gt_t {x y : Int64} (h : y < x) : ifCond.holds .gt (lcmpW x y) = true := i0W_gt_t ((lw_gt x y).mpr h)
theorem lcW_gt_f {x y : Int64} (h : ¬ (y < x)) : ifCond.holds .gt (lcmpW x y) = false := i0W_gt_f fun q => h ((lw_gt x y).mp q)
theorem lcW_le_t {x y : Int64} (h : ¬ (y < x)) : ifCond.holds .le (lcmpW x y) = true := i0W_le_t fun q => h ((lw_gt x y).mp q)
theorem lcW_le_f {x y : Int64} (h : ¬ ¬ (y < x)) : ifCond.holds .le (lcmpW x y) = false := i0W_le_f fun q => h fun z => q ((lw_gt x y).mpr z)
theorem lcW_eq_t {x y : Int64} (h : x = y) : ifCond.holds .eq (lcmpW x y) = true := i0W_eq_t ((lw_eq x y).mpr h)
theorem lcW_eq_f {x y : Int64} (h : ¬ (x = y)) : ifCond.holds .eq (lcmpW x y) = false := i0W_eq_f fun q => h ((lw_eq x y).mp q)
theorem lcW_ne_t {x y : Int64} (h : ¬ (x = y)) : ifCond.holds .ne (lcmpW x y) = true := i0W_ne_t fun q => h ((lw_eq x y).mp q)
theorem lcW_ne_f {x y : Int64} (h : ¬ ¬ (x = y)) : ifCond.holds .ne (lcmpW x y) = false := i0W_ne_f fun q => h fun z => q ((lw_eq x y).mpr z)
/-- how two whole numbers compare, as dcmp pushes it -/
def cmpZ (i j : Int) : Int32 := if i < j then -1 else if i = j then 0 else 1
theorem cmpZ_lt (i j : Int) : cmpZ i j < (0 : Int32) ↔ i < j := by
  unfold cmpZ
  by_cases h1 : i < j
  · rw [if_pos h1]; exact ⟨fun _ => h1, fun _ => by decide⟩
  · rw [if_neg h1]
    by_cases h2 : i = j
    · rw [if_pos h2]; exact ⟨fun q => absurd q (by decide), fun q => absurd q h1⟩
    · rw [if_neg h2]; exact ⟨fun q => absurd q (by decide), fun q => absurd q h1⟩
theorem cmpZ_gt (i j : Int) : (0 : Int32) < cmpZ i j ↔ j < i := by
  unfold cmpZ
  by_cases h1 : i < j
  · rw [if_pos h1]; exact ⟨fun q => absurd q (by decide), fun q => by omega⟩
  · rw [if_neg h1]
    by_cases h2 : i = j
    · rw [if_pos h2]; exact ⟨fun q => absurd q (by decide), fun q => by omega⟩
    · rw [if_neg h2]; exact ⟨fun _ => by omega, fun _ => by decide⟩
theorem cmpZ_eq (i j : Int) : cmpZ i j = (0 : Int32) ↔ i = j := by
  unfold cmpZ
  by_cases h1 : i < j
  · rw [if_pos h1]; exact ⟨fun q => absurd q (by decide), fun q => by omega⟩
  · rw [if_neg h1]
    by_cases h2 : i = j
    · rw [if_pos h2]; exact ⟨fun _ => h2, fun _ => rfl⟩
    · rw [if_neg h2]; exact ⟨fun q => absurd q (by decide), fun q => absurd q h2⟩
theorem ciW_lt_t {x y : Int} (h : x < y) : ifCond.holds .lt (cmpZ x y) = true := i0W_lt_t ((cmpZ_lt x y).mpr h)
theorem ciW_lt_f {x y : Int} (h : ¬ (x < y)) : ifCond.holds .lt (cmpZ x y) = false := i0W_lt_f fun q => h ((cmpZ_lt x y).mp q)
theorem ciW_ge_t {x y : Int} (h : ¬ (x < y)) : ifCond.holds .ge (cmpZ x y) = true := i0W_ge_t fun q => h ((cmpZ_lt x y).mp q)
theorem ciW_ge_f {x y : Int} (h : ¬ ¬ (x < y)) : ifCond.holds .ge (cmpZ x y) = false := i0W_ge_f fun q => h fun z => q ((cmpZ_lt x y).mpr z)
theorem ciW_gt_t {x y : Int} (h : y < x) : ifCond.holds .gt (cmpZ x y) = true := i0W_gt_t ((cmpZ_gt x y).mpr h)
theorem ciW_gt_f {x y : Int} (h : ¬ (y < x)) : ifCond.holds .gt (cmpZ x y) = false := i0W_gt_f fun q => h ((cmpZ_gt x y).mp q)
theorem ciW_le_t {x y : Int} (h : ¬ (y < x)) : ifCond.holds .le (cmpZ x y) = true := i0W_le_t fun q => h ((cmpZ_gt x y).mp q)
theorem ciW_le_f {x y : Int} (h : ¬ ¬ (y < x)) : ifCond.holds .le (cmpZ x y) = false := i0W_le_f fun q => h fun z => q ((cmpZ_gt x y).mpr z)
theorem ciW_eq_t {x y : Int} (h : x = y) : ifCond.holds .eq (cmpZ x y) = true := i0W_eq_t ((cmpZ_eq x y).mpr h)
theorem ciW_eq_f {x y : Int} (h : ¬ (x = y)) : ifCond.holds .eq (cmpZ x y) = false := i0W_eq_f fun q => h ((cmpZ_eq x y).mp q)
theorem ciW_ne_t {x y : Int} (h : ¬ (x = y)) : ifCond.holds .ne (cmpZ x y) = true := i0W_ne_t fun q => h ((cmpZ_eq x y).mp q)
theorem ciW_ne_f {x y : Int} (h : ¬ ¬ (x = y)) : ifCond.holds .ne (cmpZ x y) = false := i0W_ne_f fun q => h fun z => q ((cmpZ_eq x y).mpr z)
section B
variable {C : Prop} [Decidable C]
theorem b01or (C : Prop) [Decidable C] : (if C then (1 : Int32) else (0 : Int32)) = 0 ∨ (if C then (1 : Int32) else (0 : Int32)) = 1 := by split <;> simp
theorem b01_eq_t (h : ¬ (C)) : ifCond.holds .eq (if C then (1 : Int32) else (0 : Int32)) = true := by rw [if_neg h]; rfl
theorem b01_eq_f (h : ¬ ¬ (C)) : ifCond.holds .eq (if C then (1 : Int32) else (0 : Int32)) = false := by rw [if_pos (Decidable.not_not.mp h)]; rfl
theorem b01_ne_t (h : C) : ifCond.holds .ne (if C then (1 : Int32) else (0 : Int32)) = true := by rw [if_pos h]; rfl
theorem b01_ne_f (h : ¬ (C)) : ifCond.holds .ne (if C then (1 : Int32) else (0 : Int32)) = false := by rw [if_neg h]; rfl
end B
theorem narrow_01 {x : Int32} (h : x = 0 ∨ x = 1) : narrow .boolean (.int x) = .int x := by rcases h with rfl | rfl <;> rfl
theorem fits_01 {x : Int32} (h : x = 0 ∨ x = 1) : fits .boolean (.int x) = true := by rcases h with rfl | rfl <;> rfl
theorem cat1 {v : Value} (h : v.isRef = true) : v.category = 1 := by cases v <;> first | rfl | (simp [Value.isRef] at h)
theorem narrow_refT {v : Value} {t : FieldType} (h : v.isRef = true) : narrow t v = v := by cases v <;> first | (simp [Value.isRef] at h; done) | (cases t <;> rfl)
theorem fits_refT {v : Value} {t : FieldType} (h : v.isRef = true) (ht : t.isReference = true) : fits t v = true := by cases v <;> first | (simp [Value.isRef] at h; done) | (cases t <;> first | rfl | (simp [FieldType.isReference] at ht; done))
theorem nab_mul {i j : Int} {A B : Nat} (h1 : i.natAbs ≤ A) (h2 : j.natAbs ≤ B) : (i * j).natAbs ≤ A * B := by rw [Int.natAbs_mul]; exact Nat.mul_le_mul h1 h2
theorem nab_add {i j : Int} {A B : Nat} (h1 : i.natAbs ≤ A) (h2 : j.natAbs ≤ B) : (i + j).natAbs ≤ A + B := by omega
theorem nab_sub {i j : Int} {A B : Nat} (h1 : i.natAbs ≤ A) (h2 : j.natAbs ≤ B) : (i - j).natAbs ≤ A + B := by omega
/-! whole numbers as doubles -/
section C
open Jvm.FP Jvm.FP.Core Jvm.Free.Fl
theorem dint_c0 : DInt 0 FP.dconst0 := by
  have h := i2d_int 0
  rwa [show Core.i2d 0 = FP.dconst0 from by decide +kernel] at h
theorem dint_c1 : DInt 1 FP.dconst1 := by
  have h := i2d_int 1
  rwa [show Core.i2d 1 = FP.dconst1 from by decide +kernel] at h
theorem dint_ite {C : Prop} [Decidable C] {i j : Int} {a b : UInt64} (h1 : C → DInt i a) (h0 : ¬ C → DInt j b) : DInt (if C then i else j) (if C then a else b) := by
  by_cases h : C
  · rw [if_pos h, if_pos h]; exact h1 h
  · rw [if_neg h, if_neg h]; exact h0 h
theorem nnD {i : Int} {a : UInt64} (h : DInt i a) : NoNaN64 a := val64_no.mpr (DInt_ne_nan h)
theorem dcmpZ {i j : Int} {a b : UInt64} (ha : DInt i a) (hb : DInt j b) {o : CmpOp} : cmpValue (FP.dcmp a b) o = cmpZ i j := by
  rw [show FP.dcmp a b = some (compare i j) from dcmp_int ha hb, compare_ite]
  unfold cmpZ
  split
  · rfl
  · split <;> rfl
end C
end Jvm.OwnW
namespace Jvm.OwnX
open Sem ClassFile Op Lib Jvm.Stand Jvm.Free Jvm.LawKit Jvm.RoadKit Jvm.OwnW
/-- where a walk stands that may have loaded String constants -/
def Pos (p : Program) (l : Launch) (e : Env) (R : Room) (s : State) (m : MethodId) (args : Array Value) (below : List Frame) (meth : Method) (c : Code) (Z : State) (own : String) (ws : List Addr) (bd : Nat) (T : State) (h : Heap) (k n : Nat) : Prop :=
  ∃ (vm0 : Vm) (k0 : Nat), s.Since vm0 k0 ∧ k0 ≤ h.size ∧ (∃ locs, Stand p l e R (s.setVm vm0) m args below meth c T locs k n ∧ Fw ws bd locs) ∧ T.heap = h ∧ bd ≤ h.size ∧ Z.Warmed39 (s.setVm vm0).vm ∧ p.tables.exec = Jvm.exec ∧ (s.setVm vm0).vm.findClass own = some m.cls ∧ meth.locks = false ∧ k ≤ R.cells ∧ n ≤ R.slots
/-- the walk that stands at the frame g in T comes to its return, and Q holds of what it returns and of the heap it leaves -/
def Done (p : Program) (l : Launch) (e : Env) (R : Room) (s : State) (m : MethodId) (args : Array Value) (below : List Frame) (meth : Method) (c : Code) (Z : State) (own : String) (ws : List Addr) (bd : Nat) (Q : Option Value → Heap → Prop) (T : State) (g : JFrame) : Prop :=
  ∃ v T' h' k n, Pos p l e R s m args below meth c Z own ws bd T' h' k n ∧ (meth.sig.returnType = none → v = none) ∧ Q v h' ∧
    ∀ fs, (∀ (f : JFrame) (acts : List Action), f.method = m → f.locked = none → f.entered = [] → (doReturn e (T'.setTop f) acts v).1 = T'.setFrames fs) → Steps p.tables e below (T.setTop g) (T'.setFrames fs)
/-- a method's contract, asked at one heap and one row of arguments; it writes what lies in 'ws' and what it makes, alone -/
def OMet (l : Launch) (y : MethodName) (bytes : ByteArray) (maxL : Nat) (ret : Option FieldType) (wd : List Cond) (rm : Room) (Z : State) (h : Heap) (ws : List Addr) (as' : Array Value) (Q : Option Value → Heap → Prop) : Prop :=
  MetFree l y (head1 (Cond.code y bytes maxL ret :: wd) rm) (fun a U => a = as' ∧ Z.Warmed39 U.vm ∧ U.heap = h) (fun _ _ _ _ _ => True) (fun _ U o U' => ∃ v L, o = .returned v ∧ (Q v U'.heap ∧ Fw ws h.size L ∧ Keep h U'.heap ws) ∧ ReturnedEndW U o U' L rm.cells rm.slots)
section A
variable {p : Program} {l : Launch} {e : Env} {R : Room} {s : State} {m : MethodId} {args : Array Value} {below : List Frame} {meth : Method} {c : Code} {Z : State} {own : String} {ws : List Addr} {bd : Nat} {T : State} {h h' : Heap} {k n : Nat} {a0 : Array Value} {Q : Option Value → Heap → Prop} {pc pc' : Nat} {Ls : Array Slot} {st : List Value} {T₁ : State} {g₁ : JFrame}
theorem Pos.here (P : Pos p l e R s m args below meth c Z own ws bd T h k n) : At T m c below := by obtain ⟨_, _, _, _, ⟨_, X, _⟩, _⟩ := P; exact X.here
theorem Pos.x (P : Pos p l e R s m args below meth c Z own ws bd T h k n) : p.tables.exec = Jvm.exec := by obtain ⟨_, _, _, _, _, _, _, _, q, _⟩ := P; exact q
theorem Pos.ge (P : Pos p l e R s m args below meth c Z own ws bd T h k n) : bd ≤ h.size := by obtain ⟨_, _, _, _, _, _, q, _⟩ := P; exact q
theorem Pos.more (P : Pos p l e R s m args below meth c Z own ws bd T h k n) {k' n' : Nat} (hk : k ≤ k') (hn : n ≤ n') (hk' : k' ≤ R.cells) (hn' : n' ≤ R.slots) : Pos p l e R s m args below meth c Z own ws bd T h k' n' := by
  obtain ⟨v, k0, S, K0, ⟨L, X, N'⟩, a, b, c, d, f, g, _, _⟩ := P
  exact ⟨v, k0, S, K0, ⟨L, X.more hk hn, N'⟩, a, b, c, d, f, g, hk', hn'⟩
theorem Pos.cast {k' n' : Nat} (P : Pos p l e R s m args below meth c Z own ws bd T h k n) (hk : k = k') (hn : n = n') : Pos p l e R s m args below meth c Z own ws bd T h k' n' := by subst hk hn; exact P






theorem Done.step {T' : State} {g g' : JFrame} (hs : ∀ t, Steps p.tables e below (T'.setTop g') t → Steps p.tables e below (T.setTop g) t) (D : Done p l e R s m args below meth c Z own ws bd Q T' g') : Done p l e R s m args below meth c Z own ws bd Q T g := by
  obtain ⟨v, T1, h1, k1, n1, P, hv, hq, st⟩ := D
  exact ⟨v, T1, h1, k1, n1, P, hv, hq, fun fs hl => hs _ (st fs hl)⟩
theorem Done.stepL {st' : List Value} (hs : ∀ t, Steps p.tables e below (T.setTop (mkF m pc' Ls st')) t → Steps p.tables e below (T.setTop (mkF m pc Ls st)) t) (D : Done p l e R s m args below meth c Z own ws bd Q T (mkF m pc' Ls st')) : Done p l e R s m args below meth c Z own ws bd Q T (mkF m pc Ls st) := Done.step hs D
theorem Done.imp {Q' : Option Value → Heap → Prop} {g : JFrame} (D : Done p l e R s m args below meth c Z own ws bd Q T g) (q : ∀ v h, Q v h → Q' v h) : Done p l e R s m args below meth c Z own ws bd Q' T g := by
  obtain ⟨v, T1, h1, k1, n1, P, hv, hq, st⟩ := D
  exact ⟨v, T1, h1, k1, n1, P, hv, q _ _ hq, st⟩

theorem wRet {w : Value} {t : FieldType} {i : Instr} (P : Pos p l e R s m args below meth c Z own ws bd T h k n) (hret : meth.sig.returnType = some t) (hn : narrow t w = w)
    (hi : (i = .ireturn ∧ (t = .int ∨ t = .boolean ∨ t = .byte ∨ t = .char ∨ t = .short) ∧ ∃ z, w = .int z) ∨ (i = .lreturn ∧ t = .long ∧ ∃ z, w = .long z) ∨ (i = .dreturn ∧ t = .double ∧ ∃ z, w = .double z) ∨ (i = .freturn ∧ t = .float ∧ ∃ z, w = .float z) ∨ (i = .areturn ∧ t.isReference = true ∧ w.isRef = true))
    (hd : decode c.code pc = .ok (i, 1)) (hq : Q (some w) h) : Done p l e R s m args below meth c Z own ws bd Q T (mkF m pc Ls (w :: st)) := by
  obtain ⟨vm0, k0, hS, hk0, ⟨L, X, N'⟩, r⟩ := id P
  exact ⟨some w, T, h, k, n, P, (fun q => by rw [hret] at q; cases q), hq, fun fs hl => retOut X P.x hret hn hi hd hl⟩
theorem wRetI {z : Int32} (P : Pos p l e R s m args below meth c Z own ws bd T h k n) (hret : meth.sig.returnType = some .int) (hd : decode c.code pc = .ok (.ireturn, 1)) (hq : Q (some (.int z)) h) : Done p l e R s m args below meth c Z own ws bd Q T (mkF m pc Ls (.int z :: st)) :=
  wRet P hret rfl (Or.inl ⟨rfl, Or.inl rfl, z, rfl⟩) hd hq
theorem wRetJ {z : Int64} (P : Pos p l e R s m args below meth c Z own ws bd T h k n) (hret : meth.sig.returnType = some .long) (hd : decode c.code pc = .ok (.lreturn, 1)) (hq : Q (some (.long z)) h) : Done p l e R s m args below meth c Z own ws bd Q T (mkF m pc Ls (.long z :: st)) :=
  wRet P hret rfl (Or.inr (Or.inl ⟨rfl, rfl, z, rfl⟩)) hd hq
theorem wRetD {z : UInt64} (P : Pos p l e R s m args below meth c Z own ws bd T h k n) (hret : meth.sig.returnType = some .double) (hd : decode c.code pc = .ok (.dreturn, 1)) (hq : Q (some (.double z)) h) : Done p l e R s m args below meth c Z own ws bd Q T (mkF m pc Ls (.double z :: st)) :=
  wRet P hret rfl (Or.inr (Or.inr (Or.inl ⟨rfl, rfl, z, rfl⟩))) hd hq
theorem wRetA {w : Value} {t : FieldType} (P : Pos p l e R s m args below meth c Z own ws bd T h k n) (hret : meth.sig.returnType = some t) (ht : t.isReference = true) (hw : w.isRef = true) (hd : decode c.code pc = .ok (.areturn, 1)) (hq : Q (some w) h) : Done p l e R s m args below meth c Z own ws bd Q T (mkF m pc Ls (w :: st)) :=
  wRet P hret (by cases w <;> first | rfl | (simp [Value.isRef] at hw; done) | (cases t <;> first | rfl | (simp [FieldType.isReference] at ht))) (Or.inr (Or.inr (Or.inr (Or.inr ⟨rfl, ht, hw⟩)))) hd hq
theorem wRetN {z : Int32} {t : FieldType} (P : Pos p l e R s m args below meth c Z own ws bd T h k n) (hret : meth.sig.returnType = some t) (ht : t = .boolean ∨ t = .byte ∨ t = .char ∨ t = .short) (hd : decode c.code pc = .ok (.ireturn, 1)) (hq : Q (some (.int (nar t z))) h) : Done p l e R s m args below meth c Z own ws bd Q T (mkF m pc Ls (.int z :: st)) := by
  obtain ⟨vm0, k0, hS, hk0, ⟨L, X, N'⟩, r⟩ := id P
  exact ⟨_, T, h, k, n, P, (fun q => by rw [hret] at q; cases q), hq, fun fs hl => retN X P.x hret ht hd hl⟩
theorem wRetV (P : Pos p l e R s m args below meth c Z own ws bd T h k n) (hret : meth.sig.returnType = none) (hd : decode c.code pc = .ok (.return_, 1)) (hq : Q none h) : Done p l e R s m args below meth c Z own ws bd Q T (mkF m pc Ls []) := by
  obtain ⟨vm0, k0, hS, hk0, ⟨L, X, N'⟩, r⟩ := id P
  exact ⟨none, T, h, k, n, P, fun _ => rfl, hq, fun fs hl => X.returnOut P.x hret hd hl⟩
theorem wGet {R0 O nm d host : String} {index : Nat} {a : Addr} {v : Value} (P : Pos p l e R s m args below meth c Z own ws bd T h k n) (w : (Cond.fieldLink own index R0 nm d).before a0 Z = true ∨ (Cond.fieldLinkNest own index R0 nm d host).before a0 Z = true) (via : Via Z R0 O nm d) (F : Fld Z h a O nm d v)
    (hd : decode c.code pc = .ok (.getfield index, 3)) (hp : pc + 3 = pc') (K : ∀ T', Pos p l e R s m args below meth c Z own ws bd T' h k n → Done p l e R s m args below meth c Z own ws bd Q T' (mkF m pc' Ls (v :: st))) : Done p l e R s m args below meth c Z own ws bd Q T (mkF m pc Ls (.ref a :: st)) := by
  obtain ⟨vm0, k0, hS, hk0, ⟨L, X, N'⟩, eT, b, hZ, hx, ho, r⟩ := id P
  obtain ⟨T', X', e', stp⟩ := getF X hx hZ ho w via eT F (g := mkF m pc Ls (.ref a :: st)) rfl rfl hd
  subst hp
  exact Done.step stp (K T' ⟨vm0, k0, hS, (hk0), ⟨L, X', N'⟩, e', b, hZ, hx, ho, r⟩)
theorem wGetS {R0 O nm d host : String} {index : Nat} {v : Value} (P : Pos p l e R s m args below meth c Z own ws bd T h k n) (w : (Cond.fieldLink own index R0 nm d).before a0 Z = true ∨ (Cond.fieldLinkNest own index R0 nm d host).before a0 Z = true) (via : Via Z R0 O nm d) (F : Sta Z h O nm d v)
    (hd : decode c.code pc = .ok (.getstatic index, 3)) (hp : pc + 3 = pc') (K : ∀ T', Pos p l e R s m args below meth c Z own ws bd T' h k n → Done p l e R s m args below meth c Z own ws bd Q T' (mkF m pc' Ls (v :: st))) : Done p l e R s m args below meth c Z own ws bd Q T (mkF m pc Ls st) := by
  obtain ⟨vm0, k0, hS, hk0, ⟨L, X, N'⟩, eT, b, hZ, hx, ho, r⟩ := id P
  obtain ⟨T', X', e', stp⟩ := getS2 X hx hZ ho w via eT F (g := mkF m pc Ls st) rfl hd
  subst hp
  exact Done.step stp (K T' ⟨vm0, k0, hS, (hk0), ⟨L, X', N'⟩, e', b, hZ, hx, ho, r⟩)
theorem wPut {R0 O nm d host C : String} {index kk : Nat} {ty : FieldType} {a : Addr} {v old : Value} (P : Pos p l e R s m args below meth c Z own ws bd T h k n) (w : (Cond.fieldLink own index R0 nm d).before a0 Z = true ∨ (Cond.fieldLinkNest own index R0 nm d host).before a0 Z = true) (via : Via Z R0 O nm d) (F : Fld Z h a O nm d old) (E : Exa Z h a C)
    (La : (Cond.lays C O nm d).before a0 Z = true ∨ ((Cond.laysFinal C O nm d).before a0 Z = true ∧ own = O ∧ meth.name = "<init>")) (wi : (Cond.instantiable C kk).before a0 Z = true) (hty : parseFieldDescriptor d = some ty) (hn : narrow ty v = v) (hf : fits ty v = true) (hge : a ∈ ws ∨ bd ≤ a)
    (hd : decode c.code pc = .ok (.putfield index, 3)) (hp : pc + 3 = pc') (K : ∀ T' h', Pos p l e R s m args below meth c Z own ws bd T' h' k n → Wr h h' a (Jvm.RoadKit.slotOf Z O nm d) v → Fld Z h' a O nm d v → Done p l e R s m args below meth c Z own ws bd Q T' (mkF m pc' Ls st)) : Done p l e R s m args below meth c Z own ws bd Q T (mkF m pc Ls (v :: .ref a :: st)) := by
  obtain ⟨vm0, k0, hS, hk0, ⟨L, X, N'⟩, eT, b, hZ, hx, ho, r⟩ := id P
  obtain ⟨T', h', X', e', W, stp⟩ := putF X hx hZ ho w via eT F E La wi hty hn hf (g := mkF m pc Ls (v :: .ref a :: st)) rfl rfl hd
  subst hp
  exact Done.step stp (K T' h' ⟨vm0, k0, hS, (by rw [W.size]; exact hk0), ⟨_, X', Fw.snoc N' hge⟩, e', by rw [W.size]; exact b, hZ, hx, ho, r⟩ W (F.same W))
theorem wPutN {R0 O nm d C : String} {index kk : Nat} {ty : FieldType} {a : Addr} {x x' : Int32} {old : Value} (P : Pos p l e R s m args below meth c Z own ws bd T h k n) (w : (Cond.fieldLink own index R0 nm d).before a0 Z = true) (via : Via Z R0 O nm d) (F : Fld Z h a O nm d old) (E : Exa Z h a C)
    (La : (Cond.lays C O nm d).before a0 Z = true ∨ ((Cond.laysFinal C O nm d).before a0 Z = true ∧ own = O ∧ meth.name = "<init>")) (wi : (Cond.instantiable C kk).before a0 Z = true) (hty : parseFieldDescriptor d = some ty) (hn : narrow ty (.int x) = .int x') (hf : fits ty (.int x') = true) (hge : a ∈ ws ∨ bd ≤ a)
    (hd : decode c.code pc = .ok (.putfield index, 3)) (hp : pc + 3 = pc') (K : ∀ T' h', Pos p l e R s m args below meth c Z own ws bd T' h' k n → Wr h h' a (Jvm.RoadKit.slotOf Z O nm d) (.int x') → Fld Z h' a O nm d (.int x') → Done p l e R s m args below meth c Z own ws bd Q T' (mkF m pc' Ls st)) : Done p l e R s m args below meth c Z own ws bd Q T (mkF m pc Ls (.int x :: .ref a :: st)) := by
  obtain ⟨vm0, k0, hS, hk0, ⟨L, X, N'⟩, eT, b, hZ, hx, ho, r⟩ := id P
  obtain ⟨T', h', X', e', W, stp⟩ := putFN X hx hZ ho w via eT F E La wi (v' := .int x') hty hn hf (g := mkF m pc Ls (.int x :: .ref a :: st)) rfl rfl hd
  subst hp
  exact Done.step stp (K T' h' ⟨vm0, k0, hS, (by rw [W.size]; exact hk0), ⟨_, X', Fw.snoc N' hge⟩, e', by rw [W.size]; exact b, hZ, hx, ho, r⟩ W (F.same W))
theorem wNew {C : String} {index nn : Nat} (P : Pos p l e R s m args below meth c Z own ws bd T h k n) (w : (Cond.classLink own index C).before a0 Z = true) (wi : (Cond.instantiable C nn).before a0 Z = true) (wz : (Cond.initialized C).before a0 Z = true)
    (hd : decode c.code pc = .ok (.new index, 3)) (hp : pc + 3 = pc') (hc : k + 1 ≤ R.cells) (hl : n + nn ≤ R.slots) {k' n' : Nat} (hk' : k + 1 = k') (hn' : n + nn = n')
    (K : ∀ T' h' a, a = h.size → h.size < h'.size → Pos p l e R s m args below meth c Z own ws bd T' h' k' n' → Ext h h' → Exa Z h' a C → (∀ {O nm d : String} {ty : FieldType}, Laid Z a0 C O nm d → parseFieldDescriptor d = some ty → Fld Z h' a O nm d (defaultValue ty)) → Done p l e R s m args below meth c Z own ws bd Q T' (mkF m pc' Ls (.ref a :: st))) : Done p l e R s m args below meth c Z own ws bd Q T (mkF m pc Ls st) := by
  obtain ⟨vm0, k0, hS, hk0, ⟨L, X, N'⟩, eT, b, hZ, hx, ho, hlk, _, _⟩ := id P
  obtain ⟨T', h', X', e', E, A, D, -, stp⟩ := newO X hx hZ ho w wi wz eT (g := mkF m pc Ls st) rfl hd hc hl
  subst hp hk' hn'
  exact Done.step stp (K T' h' h.size rfl A.lt ⟨vm0, k0, hS, (Nat.le_trans hk0 E.1), ⟨L, X', N'⟩, e', Nat.le_trans b E.1, hZ, hx, ho, hlk, hc, hl⟩ E A D)
theorem wNewA {aty : ArrayType} {z : Int32} {N cap : Nat} (P : Pos p l e R s m args below meth c Z own ws bd T h k n) (w : (Cond.arrayClass (newarray.typeOf aty)).before a0 Z = true) (hd : decode c.code pc = .ok (.newarray aty, 2)) (hp : pc + 2 = pc') (hz : z.toInt = (N : Int)) (hcap : N ≤ cap) (hb : cap * 8 ≤ 536870912) (hc : k + 1 ≤ R.cells) (hl : n + cap ≤ R.slots)
    {ad : String} (had : "[" ++ (newarray.typeOf aty).toString = ad) {ty : FieldType} {dv : Value} (hty : newarray.typeOf aty = ty) (hdv : defaultValue ty = dv) {k' n' : Nat} (hk' : k + 1 = k') (hn' : n + cap = n')
    (K : ∀ T' h' a, a = h.size → h.size < h'.size → Pos p l e R s m args below meth c Z own ws bd T' h' k' n' → Ext h h' → Ar Z h' a ty N (fun _ => dv) → Exa Z h' a ad → Done p l e R s m args below meth c Z own ws bd Q T' (mkF m pc' Ls (.ref a :: st))) : Done p l e R s m args below meth c Z own ws bd Q T (mkF m pc Ls (.int z :: st)) := by
  obtain ⟨vm0, k0, hS, hk0, ⟨L, X, N'⟩, eT, b, hZ, hx, ho, hlk, _, _⟩ := id P
  have hz0 : ¬ z < 0 := by rw [Int32.lt_iff_toInt_lt, hz, show (0 : Int32).toInt = 0 from rfl]; omega
  have hzn : z.toNatClampNeg = N := by rw [Int32.toNatClampNeg, hz]; omega
  have hN := z.toInt_lt
  obtain ⟨T', h', kA, X', e', E, A, Ex, stp⟩ := newPE X hx hZ w eT (g := mkF m pc Ls (.int z :: st)) rfl hd rfl hz0 (by rw [hzn]; exact hcap) hb hc hl had
  subst hp hk' hn' hty hdv
  refine Done.step stp (K T' h' h.size rfl A.lt ⟨vm0, k0, hS, (Nat.le_trans hk0 E.1), ⟨L, X', N'⟩, e', Nat.le_trans b E.1, hZ, hx, ho, hlk, hc, hl⟩ E ⟨_, A, by rw [sz_new, hzn], by omega, fun i hi => ?_⟩ Ex)
  simp [newA, hzn, hi]
theorem wLen {ty : FieldType} {N : Nat} {f : Nat → Value} {a : Addr} (P : Pos p l e R s m args below meth c Z own ws bd T h k n) (A : Ar Z h a ty N f) {z : Int32} (hz : z.toInt = (N : Int)) (hd : decode c.code pc = .ok (.arraylength, 1)) (hp : pc + 1 = pc')
    (K : Done p l e R s m args below meth c Z own ws bd Q T (mkF m pc' Ls (.int z :: st))) : Done p l e R s m args below meth c Z own ws bd Q T (mkF m pc Ls (.ref a :: st)) := by
  obtain ⟨vm0, k0, hS, hk0, ⟨L, X, N'⟩, eT, b, hZ, hx, ho, hlk, _, _⟩ := id P
  obtain ⟨cl, Ar, S, hN, H⟩ := A
  subst hp
  refine Done.step (fun t kk => X.arraylength hx (by rw [eT]; exact Ar.1) (State.isArrayOf_alike hZ.alike Ar.2.1) (g := mkF m pc Ls (.ref a :: st)) rfl rfl hd t ?_) K
  rw [S, show N.toInt32 = z from Int32.toInt_inj.mp (by rw [toI32 hN, hz])]
  exact kk
theorem wDaload {N i : Nat} {f : Nat → Value} {a : Addr} {j : Int32} (P : Pos p l e R s m args below meth c Z own ws bd T h k n) (A : Ar Z h a .double N f) (hj : j.toInt = (i : Int)) (hi : i < N) {v : Value} (hv : f i = v) (hd : decode c.code pc = .ok (.daload, 1)) (hp : pc + 1 = pc')
    (K : Done p l e R s m args below meth c Z own ws bd Q T (mkF m pc' Ls (v :: st))) : Done p l e R s m args below meth c Z own ws bd Q T (mkF m pc Ls (.int j :: .ref a :: st)) := by
  obtain ⟨vm0, k0, hS, hk0, ⟨L, X, N'⟩, eT, b, hZ, hx, ho, hlk, _, _⟩ := id P
  obtain ⟨cl, Ar, S, hN, H⟩ := A
  obtain ⟨q1, q2⟩ := in_of S hj hi
  subst hp hv
  exact Done.step (fun t kk => X.daload hx (by rw [eT]; exact Ar.1) (State.isArrayOf_alike hZ.alike Ar.2.1) Ar.2.2 q1 (by rw [q2]; exact H i hi) (g := mkF m pc Ls (.int j :: .ref a :: st)) rfl rfl hd t kk) K
theorem wIaload {N i : Nat} {f : Nat → Value} {a : Addr} {j : Int32} (P : Pos p l e R s m args below meth c Z own ws bd T h k n) (A : Ar Z h a .int N f) (hj : j.toInt = (i : Int)) (hi : i < N) {v : Value} (hv : f i = v) (hd : decode c.code pc = .ok (.iaload, 1)) (hp : pc + 1 = pc')
    (K : Done p l e R s m args below meth c Z own ws bd Q T (mkF m pc' Ls (v :: st))) : Done p l e R s m args below meth c Z own ws bd Q T (mkF m pc Ls (.int j :: .ref a :: st)) := by
  obtain ⟨vm0, k0, hS, hk0, ⟨L, X, N'⟩, eT, b, hZ, hx, ho, hlk, _, _⟩ := id P
  obtain ⟨cl, Ar, S, hN, H⟩ := A
  obtain ⟨q1, q2⟩ := in_of S hj hi
  subst hp hv
  exact Done.step (fun t kk => X.iaload hx (by rw [eT]; exact Ar.1) (State.isArrayOf_alike hZ.alike Ar.2.1) Ar.2.2 q1 (by rw [q2]; exact H i hi) (g := mkF m pc Ls (.int j :: .ref a :: st)) rfl rfl hd t kk) K
theorem wCaload {N i : Nat} {f : Nat → Value} {a : Addr} {j : Int32} (P : Pos p l e R s m args below meth c Z own ws bd T h k n) (A : Ar Z h a .char N f) (hj : j.toInt = (i : Int)) (hi : i < N) {v : Value} (hv : f i = v) (hd : decode c.code pc = .ok (.caload, 1)) (hp : pc + 1 = pc')
    (K : Done p l e R s m args below meth c Z own ws bd Q T (mkF m pc' Ls (v :: st))) : Done p l e R s m args below meth c Z own ws bd Q T (mkF m pc Ls (.int j :: .ref a :: st)) := by
  obtain ⟨vm0, k0, hS, hk0, ⟨L, X, N'⟩, eT, b, hZ, hx, ho, hlk, _, _⟩ := id P
  obtain ⟨cl, Ar, S, hN, H⟩ := A
  obtain ⟨q1, q2⟩ := in_of S hj hi
  subst hp hv
  exact Done.step (fun t kk => X.caload hx (by rw [eT]; exact Ar.1) (State.isArrayOf_alike hZ.alike Ar.2.1) Ar.2.2 q1 (by rw [q2]; exact H i hi) (g := mkF m pc Ls (.int j :: .ref a :: st)) rfl rfl hd t kk) K
theorem wAaload {N i : Nat} {f : Nat → Value} {a : Addr} {j : Int32} {ty : FieldType} (P : Pos p l e R s m args below meth c Z own ws bd T h k n) (A : Ar Z h a ty N f) (hty : ty.isReference = true) (hj : j.toInt = (i : Int)) (hi : i < N) {v : Value} (hv : f i = v) (hd : decode c.code pc = .ok (.aaload, 1)) (hp : pc + 1 = pc')
    (K : Done p l e R s m args below meth c Z own ws bd Q T (mkF m pc' Ls (v :: st))) : Done p l e R s m args below meth c Z own ws bd Q T (mkF m pc Ls (.int j :: .ref a :: st)) := by
  obtain ⟨vm0, k0, hS, hk0, ⟨L, X, N'⟩, eT, b, hZ, hx, ho, hlk, _, _⟩ := id P
  obtain ⟨cl, Ar, S, hN, H⟩ := A
  obtain ⟨q1, q2⟩ := in_of S hj hi
  subst hp hv
  exact Done.step (fun t kk => X.aaload hx (by rw [eT]; exact Ar.1) (State.isArrayOf_alike hZ.alike Ar.2.1) hty Ar.2.2 q1 (by rw [q2]; exact H i hi) (g := mkF m pc Ls (.int j :: .ref a :: st)) rfl rfl hd t kk) K
theorem wDastore {N i : Nat} {f : Nat → UInt64} {a : Addr} {j : Int32} {x : UInt64} (P : Pos p l e R s m args below meth c Z own ws bd T h k n) (A : Ar Z h a .double N (fun i => .double (f i))) (hj : j.toInt = (i : Int)) (hi : i < N) (hge : a ∈ ws ∨ bd ≤ a) (hd : decode c.code pc = .ok (.dastore, 1)) (hp : pc + 1 = pc')
    (K : ∀ T' h', Pos p l e R s m args below meth c Z own ws bd T' h' k n → Wr h h' a i (.double x) → Ar Z h' a .double N (fun j => .double (oupd f i x j)) → Done p l e R s m args below meth c Z own ws bd Q T' (mkF m pc' Ls st)) : Done p l e R s m args below meth c Z own ws bd Q T (mkF m pc Ls (.double x :: .int j :: .ref a :: st)) := by
  obtain ⟨vm0, k0, hS, hk0, ⟨L, X, N'⟩, eT, b, hZ, hx, ho, r⟩ := id P
  obtain ⟨cl, Ar', S, hN, H⟩ := A
  obtain ⟨q1, q2⟩ := in_of S hj hi
  obtain ⟨T', h', X', e', W, stp⟩ := stD X hx hZ eT Ar' q1 (g := mkF m pc Ls (.double x :: .int j :: .ref a :: st)) rfl rfl hd
  subst hp
  rw [q2] at W
  refine Done.step stp (K T' h' ⟨vm0, k0, hS, (by rw [W.size]; exact hk0), ⟨_, X', Fw.snoc N' hge⟩, e', by rw [W.size]; exact b, hZ, hx, ho, r⟩ W ((Ar.set Ar' S hN H hi W).congr fun j _ => ?_))
  unfold oupd; split <;> rfl
theorem wIastore {N i : Nat} {f : Nat → Int32} {a : Addr} {j : Int32} {x : Int32} (P : Pos p l e R s m args below meth c Z own ws bd T h k n) (A : Ar Z h a .int N (fun i => .int (f i))) (hj : j.toInt = (i : Int)) (hi : i < N) (hge : a ∈ ws ∨ bd ≤ a) (hd : decode c.code pc = .ok (.iastore, 1)) (hp : pc + 1 = pc')
    (K : ∀ T' h', Pos p l e R s m args below meth c Z own ws bd T' h' k n → Wr h h' a i (.int x) → Ar Z h' a .int N (fun j => .int (oupd f i x j)) → Done p l e R s m args below meth c Z own ws bd Q T' (mkF m pc' Ls st)) : Done p l e R s m args below meth c Z own ws bd Q T (mkF m pc Ls (.int x :: .int j :: .ref a :: st)) := by
  obtain ⟨vm0, k0, hS, hk0, ⟨L, X, N'⟩, eT, b, hZ, hx, ho, r⟩ := id P
  obtain ⟨cl, Ar', S, hN, H⟩ := A
  obtain ⟨q1, q2⟩ := in_of S hj hi
  obtain ⟨T', h', X', e', W, stp⟩ := stI X hx hZ eT Ar' q1 (g := mkF m pc Ls (.int x :: .int j :: .ref a :: st)) rfl rfl hd
  subst hp
  rw [q2] at W
  refine Done.step stp (K T' h' ⟨vm0, k0, hS, (by rw [W.size]; exact hk0), ⟨_, X', Fw.snoc N' hge⟩, e', by rw [W.size]; exact b, hZ, hx, ho, r⟩ W ((Ar.set Ar' S hN H hi W).congr fun j _ => ?_))
  unfold oupd; split <;> rfl
theorem wCastore {N i : Nat} {f : Nat → Int32} {a : Addr} {j : Int32} {x : Int32} (P : Pos p l e R s m args below meth c Z own ws bd T h k n) (A : Ar Z h a .char N (fun i => .int (f i))) (hj : j.toInt = (i : Int)) (hi : i < N) (hge : a ∈ ws ∨ bd ≤ a) (hd : decode c.code pc = .ok (.castore, 1)) (hp : pc + 1 = pc')
    (K : ∀ T' h', Pos p l e R s m args below meth c Z own ws bd T' h' k n → Wr h h' a i (.int (nar .char x)) → Ar Z h' a .char N (fun j => .int (oupd f i (nar .char x) j)) → Done p l e R s m args below meth c Z own ws bd Q T' (mkF m pc' Ls st)) : Done p l e R s m args below meth c Z own ws bd Q T (mkF m pc Ls (.int x :: .int j :: .ref a :: st)) := by
  obtain ⟨vm0, k0, hS, hk0, ⟨L, X, N'⟩, eT, b, hZ, hx, ho, r⟩ := id P
  obtain ⟨cl, Ar', S, hN, H⟩ := A
  obtain ⟨q1, q2⟩ := in_of S hj hi
  obtain ⟨T', h', X', e', W, stp⟩ := stC X hx hZ eT Ar' q1 (g := mkF m pc Ls (.int x :: .int j :: .ref a :: st)) rfl rfl hd
  subst hp
  rw [q2] at W
  refine Done.step stp (K T' h' ⟨vm0, k0, hS, (by rw [W.size]; exact hk0), ⟨_, X', Fw.snoc N' hge⟩, e', by rw [W.size]; exact b, hZ, hx, ho, r⟩ W ((Ar.set Ar' S hN H hi W).congr fun j _ => ?_))
  unfold oupd; split <;> rfl
theorem wBastore {N i : Nat} {f : Nat → Int32} {a : Addr} {j : Int32} {x : Int32} (P : Pos p l e R s m args below meth c Z own ws bd T h k n) (A : Ar Z h a .byte N (fun i => .int (f i))) (hj : j.toInt = (i : Int)) (hi : i < N) (hge : a ∈ ws ∨ bd ≤ a) (hd : decode c.code pc = .ok (.bastore, 1)) (hp : pc + 1 = pc')
    (K : ∀ T' h', Pos p l e R s m args below meth c Z own ws bd T' h' k n → Wr h h' a i (.int (nar .byte x)) → Ar Z h' a .byte N (fun j => .int (oupd f i (nar .byte x) j)) → Done p l e R s m args below meth c Z own ws bd Q T' (mkF m pc' Ls st)) : Done p l e R s m args below meth c Z own ws bd Q T (mkF m pc Ls (.int x :: .int j :: .ref a :: st)) := by
  obtain ⟨vm0, k0, hS, hk0, ⟨L, X, N'⟩, eT, b, hZ, hx, ho, r⟩ := id P
  obtain ⟨cl, Ar', S, hN, H⟩ := A
  obtain ⟨q1, q2⟩ := in_of S hj hi
  obtain ⟨T', h', X', e', W, stp⟩ := stB X hx hZ eT Ar' q1 (g := mkF m pc Ls (.int x :: .int j :: .ref a :: st)) rfl rfl hd
  subst hp
  rw [q2] at W
  refine Done.step stp (K T' h' ⟨vm0, k0, hS, (by rw [W.size]; exact hk0), ⟨_, X', Fw.snoc N' hge⟩, e', by rw [W.size]; exact b, hZ, hx, ho, r⟩ W ((Ar.set Ar' S hN H hi W).congr fun j _ => ?_))
  unfold oupd; split <;> rfl
theorem wZastore {N i : Nat} {f : Nat → Int32} {a : Addr} {j : Int32} {x : Int32} (P : Pos p l e R s m args below meth c Z own ws bd T h k n) (A : Ar Z h a .boolean N (fun i => .int (f i))) (hj : j.toInt = (i : Int)) (hi : i < N) (hge : a ∈ ws ∨ bd ≤ a) (hd : decode c.code pc = .ok (.bastore, 1)) (hp : pc + 1 = pc')
    (K : ∀ T' h', Pos p l e R s m args below meth c Z own ws bd T' h' k n → Wr h h' a i (.int (nar .boolean x)) → Ar Z h' a .boolean N (fun j => .int (oupd f i (nar .boolean x) j)) → Done p l e R s m args below meth c Z own ws bd Q T' (mkF m pc' Ls st)) : Done p l e R s m args below meth c Z own ws bd Q T (mkF m pc Ls (.int x :: .int j :: .ref a :: st)) := by
  obtain ⟨vm0, k0, hS, hk0, ⟨L, X, N'⟩, eT, b, hZ, hx, ho, r⟩ := id P
  obtain ⟨cl, Ar', S, hN, H⟩ := A
  obtain ⟨q1, q2⟩ := in_of S hj hi
  obtain ⟨T', h', X', e', W, stp⟩ := stZ X hx hZ eT Ar' q1 (g := mkF m pc Ls (.int x :: .int j :: .ref a :: st)) rfl rfl hd
  subst hp
  rw [q2] at W
  refine Done.step stp (K T' h' ⟨vm0, k0, hS, (by rw [W.size]; exact hk0), ⟨_, X', Fw.snoc N' hge⟩, e', by rw [W.size]; exact b, hZ, hx, ho, r⟩ W ((Ar.set Ar' S hN H hi W).congr fun j _ => ?_))
  unfold oupd; split <;> rfl
theorem wBaload {N i : Nat} {f : Nat → Value} {a : Addr} {j : Int32} (P : Pos p l e R s m args below meth c Z own ws bd T h k n) (A : Ar Z h a .byte N f) (hj : j.toInt = (i : Int)) (hi : i < N) {v : Value} (hv : f i = v) (hd : decode c.code pc = .ok (.baload, 1)) (hp : pc + 1 = pc')
    (K : Done p l e R s m args below meth c Z own ws bd Q T (mkF m pc' Ls (v :: st))) : Done p l e R s m args below meth c Z own ws bd Q T (mkF m pc Ls (.int j :: .ref a :: st)) := by
  obtain ⟨vm0, k0, hS, hk0, ⟨L, X, N'⟩, eT, b, hZ, hx, ho, hlk, _, _⟩ := id P
  obtain ⟨cl, Ar, S, hN, H⟩ := A
  obtain ⟨q1, q2⟩ := in_of S hj hi
  subst hp hv
  exact Done.step (fun t kk => X.baloadBytes hx (by rw [eT]; exact Ar.1) (State.isArrayOf_alike hZ.alike Ar.2.1) Ar.2.2 q1 (by rw [q2]; exact H i hi) (g := mkF m pc Ls (.int j :: .ref a :: st)) rfl rfl hd t kk) K
theorem wCast {K : String} {index : Nat} {a : Addr} (P : Pos p l e R s m args below meth c Z own ws bd T h k n) (w : (Cond.classLink own index K).before a0 Z = true) (F : Ins Z h a K true) (hd : decode c.code pc = .ok (.checkcast index, 3)) (hp : pc + 3 = pc')
    (K' : ∀ T', Pos p l e R s m args below meth c Z own ws bd T' h k n → Done p l e R s m args below meth c Z own ws bd Q T' (mkF m pc' Ls (.ref a :: st))) : Done p l e R s m args below meth c Z own ws bd Q T (mkF m pc Ls (.ref a :: st)) := by
  obtain ⟨vm0, k0, hS, hk0, ⟨L, X, N'⟩, eT, b, hZ, hx, ho, r⟩ := id P
  obtain ⟨T', X', e', stp⟩ := castY X hx hZ ho w eT F (g := mkF m pc Ls (.ref a :: st)) rfl rfl hd
  subst hp
  exact Done.step stp (K' T' ⟨vm0, k0, hS, (hk0), ⟨L, X', N'⟩, e', b, hZ, hx, ho, r⟩)
theorem wInstY {K : String} {index : Nat} {a : Addr} (P : Pos p l e R s m args below meth c Z own ws bd T h k n) (w : (Cond.classLink own index K).before a0 Z = true) (F : Ins Z h a K true) (hd : decode c.code pc = .ok (.instanceof index, 3)) (hp : pc + 3 = pc')
    (K' : ∀ T', Pos p l e R s m args below meth c Z own ws bd T' h k n → Done p l e R s m args below meth c Z own ws bd Q T' (mkF m pc' Ls (.int 1 :: st))) : Done p l e R s m args below meth c Z own ws bd Q T (mkF m pc Ls (.ref a :: st)) := by
  obtain ⟨vm0, k0, hS, hk0, ⟨L, X, N'⟩, eT, b, hZ, hx, ho, r⟩ := id P
  obtain ⟨T', X', e', stp⟩ := instY X hx hZ ho w eT F (g := mkF m pc Ls (.ref a :: st)) rfl rfl hd
  subst hp
  exact Done.step stp (K' T' ⟨vm0, k0, hS, (hk0), ⟨L, X', N'⟩, e', b, hZ, hx, ho, r⟩)
theorem wInstN {K C : String} {index : Nat} {a : Addr} (P : Pos p l e R s m args below meth c Z own ws bd T h k n) (w : (Cond.classLink own index K).before a0 Z = true) (E : Exa Z h a C) (F : ∃ c t, Z.vm.findClass C = some c ∧ Z.vm.findClass K = some t ∧ Z.vm.assignable c t = false) (hd : decode c.code pc = .ok (.instanceof index, 3)) (hp : pc + 3 = pc')
    (K' : ∀ T', Pos p l e R s m args below meth c Z own ws bd T' h k n → Done p l e R s m args below meth c Z own ws bd Q T' (mkF m pc' Ls (.int 0 :: st))) : Done p l e R s m args below meth c Z own ws bd Q T (mkF m pc Ls (.ref a :: st)) := by
  obtain ⟨vm0, k0, hS, hk0, ⟨L, X, N'⟩, eT, b, hZ, hx, ho, r⟩ := id P
  obtain ⟨T', X', e', stp⟩ := instNo X hx hZ ho w eT E F (g := mkF m pc Ls (.ref a :: st)) rfl rfl hd
  subst hp
  exact Done.step stp (K' T' ⟨vm0, k0, hS, (hk0), ⟨L, X', N'⟩, e', b, hZ, hx, ho, r⟩)
theorem wInst0 {index : Nat} (P : Pos p l e R s m args below meth c Z own ws bd T h k n) (hd : decode c.code pc = .ok (.instanceof index, 3)) (hp : pc + 3 = pc') (D : Done p l e R s m args below meth c Z own ws bd Q T (mkF m pc' Ls (.int 0 :: st))) : Done p l e R s m args below meth c Z own ws bd Q T (mkF m pc Ls (.null :: st)) := by
  obtain ⟨vm0, k0, hS, hk0, ⟨L, X, N'⟩, eT, b, hZ, hx, ho, r⟩ := id P
  subst hp
  exact Done.step (Jvm.Stand.instanceofNull X hx (g := mkF m pc Ls (.null :: st)) rfl rfl hd) D
theorem wInit {index : Nat} {a : Addr} {W : Nat} (P : Pos p l e R s m args below meth c Z own ws bd T h k n) (w1 : (Cond.methodLink own index Lib.objectInit).before a0 Z = true) (w2 : (Cond.instanceMethod Lib.objectInit).before a0 Z = true) (w3 : (Cond.code Lib.objectInit ⟨#[0xb1]⟩ 1 none).before a0 Z = true) (hml : Ls.size = c.maxLocals)
    (hd : decode c.code pc = .ok (.invokespecial index, 3)) (hf : 1 ≤ R.frames) (hW : (st.map fun v => v.category).sum ≤ W) (hl : W + 12 ≤ R.locals) (hp : pc + 3 = pc')
    (K : ∀ T', Pos p l e R s m args below meth c Z own ws bd T' h k n → Done p l e R s m args below meth c Z own ws bd Q T' (mkF m pc' Ls st)) : Done p l e R s m args below meth c Z own ws bd Q T (mkF m pc Ls (.ref a :: st)) := by
  obtain ⟨vm0, k0, hS, hk0, ⟨L, X, N'⟩, eT, b, hZ, hx, ho, r⟩ := id P
  obtain ⟨T', X', e', stp⟩ := initO X hx hZ ho w1 w2 w3 eT (g := mkF m pc Ls (.ref a :: st)) rfl hml rfl hd hf (W := W) (by show 2 * 0 + _ ≤ _; omega) hl
  subst hp
  exact Done.step stp (K T' ⟨vm0, k0, hS, (hk0), ⟨L, X', N'⟩, e', b, hZ, hx, ho, r⟩)
theorem wCallS {y : MethodName} {bytes : ByteArray} {maxL : Nat} {ret : Option FieldType} {rm : Room} {as' : Array Value} {ws' : List Addr} {Q' : Option Value → Heap → Prop} {index W : Nat} {argsL rest stk : List Value} (P : Pos p l e R s m args below meth c Z own ws bd T h k n) (M : Jvm.OwnW.OMet l y bytes maxL ret [] rm Z h ws' as' Q')
    (w1 : (Cond.methodLink own index y).before a0 Z = true) (w2 : (Cond.static y).before a0 Z = true) (w3 : (Cond.initialized y.cls).before a0 Z = true) (w4 : (Cond.code y bytes maxL ret).before a0 Z = true) (hy : y.cls ≠ "java/lang/invoke/MethodHandle" ∧ y.cls ≠ "java/lang/invoke/VarHandle") (hml : Ls.size = c.maxLocals)
    (hlen : ∀ sig, parseMethodDescriptor y.desc = some sig → argsL.length = sig.parameters.length) (has : (argsL).toArray = as') (hst : stk = argsL.reverse ++ rest) (hW : (rest.map fun v => v.category).sum ≤ W) (hf : rm.frames + 1 ≤ R.frames) (hl : W + (maxL + 11) + rm.locals ≤ R.locals) (hc : k + rm.cells ≤ R.cells) (hs : n + rm.slots ≤ R.slots)
    (hws : ∀ x ∈ ws', x ∈ ws ∨ bd ≤ x) (hd : decode c.code pc = .ok (.invokestatic index, 3)) (hp : pc + 3 = pc') {k' n' : Nat} (hk' : k + rm.cells = k') (hn' : n + rm.slots = n')
    (K : ∀ T' h' v, Pos p l e R s m args below meth c Z own ws bd T' h' k' n' → Keep h h' ws' → Q' v h' → Done p l e R s m args below meth c Z own ws bd Q T' (mkF m pc' Ls (v.toList ++ rest))) : Done p l e R s m args below meth c Z own ws bd Q T (mkF m pc Ls stk) := by
  obtain ⟨vm0, k0, hS, hk0, ⟨L, X, N'⟩, eT, b, hZ, hx, ho, hlk, _, _⟩ := id P
  subst hst has hp hk' hn'
  obtain ⟨v, _, ⟨T', L', k1, n1⟩, -, X', ⟨Lc, hq, l', y', z'⟩, stp⟩ := Jvm.LawKit.callS X hx (y := y) ho (mvT hZ w1) (mvT hZ w2) (mvT hZ w3) (mvT hZ w4) hy (backOf (W := W) (Q := fun v h' L => Q' v h' ∧ Fw ws' h.size L ∧ Keep h h' ws') M hZ w4 w3 hf hl) (g := mkF m pc Ls (argsL.reverse ++ rest)) rfl hml (argsL := argsL) (rest := rest) hlen rfl (by show 2 * 0 + _ ≤ _; omega) hd (fun _ _ => ⟨rfl, eT, hc, hs⟩)
  dsimp only [Pt.U, Pt.locs, Pt.cells, Pt.slots] at X' l' y' z' stp hq
  subst l' y' z'
  exact Done.step (stp) (K T' T'.heap v ⟨vm0, k0, hS, (Nat.le_trans hk0 hq.2.2.1), ⟨_, X', N'.app fun y hy => (hq.2.1 y hy).elim (fun q => hws _ q) (fun q => Or.inr (Nat.le_trans b q))⟩, rfl, Nat.le_trans b hq.2.2.1, hZ, hx, ho, hlk, hc, hs⟩ hq.2.2 hq.1)
theorem wCallI {y : MethodName} {bytes : ByteArray} {maxL : Nat} {rm : Room} {as' : Array Value} {ws' : List Addr} {Q' : Option Value → Heap → Prop} {index W : Nat} {argsL rest stk : List Value} {a : Addr} (P : Pos p l e R s m args below meth c Z own ws bd T h k n) (M : Jvm.OwnW.OMet l y bytes maxL none [] rm Z h ws' as' Q')
    (hyn : y.name = "<init>") (w1 : (Cond.methodLink own index y).before a0 Z = true) (w2 : (Cond.instanceMethod y).before a0 Z = true) (w3 : (Cond.initialized y.cls).before a0 Z = true) (w4 : (Cond.code y bytes maxL none).before a0 Z = true) (hy : y.cls ≠ "java/lang/invoke/MethodHandle" ∧ y.cls ≠ "java/lang/invoke/VarHandle") (hml : Ls.size = c.maxLocals)
    (hlen : ∀ sig, parseMethodDescriptor y.desc = some sig → argsL.length = sig.parameters.length) (has : (.ref a :: argsL).toArray = as') (hst : stk = argsL.reverse ++ .ref a :: rest) (hW : (rest.map fun v => v.category).sum ≤ W) (hf : rm.frames + 1 ≤ R.frames) (hl : W + (maxL + 11) + rm.locals ≤ R.locals) (hc : k + rm.cells ≤ R.cells) (hs : n + rm.slots ≤ R.slots)
    (hws : ∀ x ∈ ws', x ∈ ws ∨ bd ≤ x) (hd : decode c.code pc = .ok (.invokespecial index, 3)) (hp : pc + 3 = pc') {k' n' : Nat} (hk' : k + rm.cells = k') (hn' : n + rm.slots = n')
    (K : ∀ T' h' v, Pos p l e R s m args below meth c Z own ws bd T' h' k' n' → Keep h h' ws' → Q' v h' → Done p l e R s m args below meth c Z own ws bd Q T' (mkF m pc' Ls (v.toList ++ rest))) : Done p l e R s m args below meth c Z own ws bd Q T (mkF m pc Ls stk) := by
  obtain ⟨vm0, k0, hS, hk0, ⟨L, X, N'⟩, eT, b, hZ, hx, ho, hlk, _, _⟩ := id P
  subst hst has hp hk' hn'
  obtain ⟨v, _, ⟨T', L', k1, n1⟩, -, X', ⟨Lc, hq, l', y', z'⟩, stp⟩ := X.specialBack hx (y := y) hyn ho (mvT hZ w1) (mvT hZ w2) (mvT hZ w4) hy (backOf (W := W) (Q := fun v h' L => Q' v h' ∧ Fw ws' h.size L ∧ Keep h h' ws') M hZ w4 w3 hf hl) (g := mkF m pc Ls (argsL.reverse ++ .ref a :: rest)) rfl hml (Steps.refl _) (a := a) (argsL := argsL) (rest := rest) hlen rfl (by show 2 * 0 + _ ≤ _; omega) hd (fun _ _ => ⟨rfl, eT, hc, hs⟩)
  dsimp only [Pt.U, Pt.locs, Pt.cells, Pt.slots] at X' l' y' z' stp hq
  subst l' y' z'
  exact Done.step (fun t kk => stp.trans kk) (K T' T'.heap v ⟨vm0, k0, hS, (Nat.le_trans hk0 hq.2.2.1), ⟨_, X', N'.app fun y hy => (hq.2.1 y hy).elim (fun q => hws _ q) (fun q => Or.inr (Nat.le_trans b q))⟩, rfl, Nat.le_trans b hq.2.2.1, hZ, hx, ho, hlk, hc, hs⟩ hq.2.2 hq.1)
theorem wCallV {y : MethodName} {bytes : ByteArray} {maxL : Nat} {ret : Option FieldType} {rm : Room} {as' : Array Value} {ws' : List Addr} {Q' : Option Value → Heap → Prop} {index W : Nat} {argsL rest stk : List Value} {z : MethodName} {C : String} {a : Addr} (P : Pos p l e R s m args below meth c Z own ws bd T h k n) (M : Jvm.OwnW.OMet l z bytes maxL ret [] rm Z h ws' as' Q')
    (w1 : (Cond.methodLink own index y).before a0 Z = true) (w2 : (Cond.declares y).before a0 Z = true) (w5 : (Cond.selects C y z).before a0 Z = true) {D : String} (w7 : (Cond.selects D y y).before a0 Z = true) (w6 : (Cond.instanceMethod z).before a0 Z = true) (w3 : (Cond.initialized z.cls).before a0 Z = true) (w4 : (Cond.code z bytes maxL ret).before a0 Z = true) (hy : y.cls ≠ "java/lang/invoke/MethodHandle" ∧ y.cls ≠ "java/lang/invoke/VarHandle") (E : Exa Z h a C) (hml : Ls.size = c.maxLocals)
    (hlen : ∀ sig, parseMethodDescriptor y.desc = some sig → argsL.length = sig.parameters.length) (has : (.ref a :: argsL).toArray = as') (hst : stk = argsL.reverse ++ .ref a :: rest) (hW : (rest.map fun v => v.category).sum ≤ W) (hf : rm.frames + 1 ≤ R.frames) (hl : W + (maxL + 11) + rm.locals ≤ R.locals) (hc : k + rm.cells ≤ R.cells) (hs : n + rm.slots ≤ R.slots)
    (hws : ∀ x ∈ ws', x ∈ ws ∨ bd ≤ x) (hd : decode c.code pc = .ok (.invokevirtual index, 3)) (hp : pc + 3 = pc') {k' n' : Nat} (hk' : k + rm.cells = k') (hn' : n + rm.slots = n')
    (K : ∀ T' h' v, Pos p l e R s m args below meth c Z own ws bd T' h' k' n' → Keep h h' ws' → Q' v h' → Done p l e R s m args below meth c Z own ws bd Q T' (mkF m pc' Ls (v.toList ++ rest))) : Done p l e R s m args below meth c Z own ws bd Q T (mkF m pc Ls stk) := by
  obtain ⟨vm0, k0, hS, hk0, ⟨L, X, N'⟩, eT, b, hZ, hx, ho, hlk, _, _⟩ := id P
  subst hst has hp hk' hn'
  obtain ⟨cq, kq, qa, qb, qc⟩ := isOf hZ eT E
  obtain ⟨v, _, ⟨T', L', k1, n1⟩, -, X', ⟨Lc, hq, l', y', z'⟩, stp⟩ := X.virtualBack hx (y := y) (z := z) ho (mvT hZ w1) (mvT hZ w2) (notFace_of_selects (args := #[]) (mvT hZ w7)) (mvT hZ w5) (mvT hZ w6) hy (backOf (W := W) (Q := fun v h' L => Q' v h' ∧ Fw ws' h.size L ∧ Keep h h' ws') M hZ w4 w3 hf hl) qa qc (g := mkF m pc Ls (argsL.reverse ++ .ref a :: rest)) rfl hml (Steps.refl _) (argsL := argsL) (rest := rest) hlen rfl (by show 2 * 0 + _ ≤ _; omega) hd (fun _ _ => ⟨rfl, eT, hc, hs⟩)
  dsimp only [Pt.U, Pt.locs, Pt.cells, Pt.slots] at X' l' y' z' stp hq
  subst l' y' z'
  exact Done.step (fun t kk => stp.trans kk) (K T' T'.heap v ⟨vm0, k0, hS, (Nat.le_trans hk0 hq.2.2.1), ⟨_, X', N'.app fun y hy => (hq.2.1 y hy).elim (fun q => hws _ q) (fun q => Or.inr (Nat.le_trans b q))⟩, rfl, Nat.le_trans b hq.2.2.1, hZ, hx, ho, hlk, hc, hs⟩ hq.2.2 hq.1)
theorem wCallP {y : MethodName} {bytes : ByteArray} {maxL : Nat} {ret : Option FieldType} {rm : Room} {as' : Array Value} {ws' : List Addr} {Q' : Option Value → Heap → Prop} {index W kk : Nat} {argsL rest stk : List Value} {a : Addr} {C : String} (P : Pos p l e R s m args below meth c Z own ws bd T h k n) (M : Jvm.OwnW.OMet l y bytes maxL ret [] rm Z h ws' as' Q')
    (w1 : (Cond.methodLink own index y).before a0 Z = true) (w2 : (Cond.instanceMethod y).before a0 Z = true) (w5 : (Cond.privateMethod y).before a0 Z = true) (wi : (Cond.instantiable y.cls kk).before a0 Z = true) (w3 : (Cond.initialized y.cls).before a0 Z = true) (w4 : (Cond.code y bytes maxL ret).before a0 Z = true) (hy : y.cls ≠ "java/lang/invoke/MethodHandle" ∧ y.cls ≠ "java/lang/invoke/VarHandle") (E : Exa Z h a C) (hml : Ls.size = c.maxLocals)
    (hlen : ∀ sig, parseMethodDescriptor y.desc = some sig → argsL.length = sig.parameters.length) (has : (.ref a :: argsL).toArray = as') (hst : stk = argsL.reverse ++ .ref a :: rest) (hW : (rest.map fun v => v.category).sum ≤ W) (hf : rm.frames + 1 ≤ R.frames) (hl : W + (maxL + 11) + rm.locals ≤ R.locals) (hc : k + rm.cells ≤ R.cells) (hs : n + rm.slots ≤ R.slots)
    (hws : ∀ x ∈ ws', x ∈ ws ∨ bd ≤ x) (hd : decode c.code pc = .ok (.invokevirtual index, 3)) (hp : pc + 3 = pc') {k' n' : Nat} (hk' : k + rm.cells = k') (hn' : n + rm.slots = n')
    (K : ∀ T' h' v, Pos p l e R s m args below meth c Z own ws bd T' h' k' n' → Keep h h' ws' → Q' v h' → Done p l e R s m args below meth c Z own ws bd Q T' (mkF m pc' Ls (v.toList ++ rest))) : Done p l e R s m args below meth c Z own ws bd Q T (mkF m pc Ls stk) := by
  obtain ⟨vm0, k0, hS, hk0, ⟨L, X, N'⟩, eT, b, hZ, hx, ho, hlk, _, _⟩ := id P
  subst hst has hp hk' hn'
  obtain ⟨cl, hcl, hst⟩ := E.cell
  have hpr : (s.setVm vm0).PrivateAt y := Cond.privateMethod_at (mvP hZ w5 (args := #[]))
  obtain ⟨ci, ki, hi1, hi2, -, hi3, -⟩ := Cond.instantiable_spec (mvT hZ wi : (Cond.instantiable y.cls kk).before args (s.setVm vm0) = true)
  have hsel : (Cond.selects y.cls y y).before args (s.setVm vm0) = true := selects_self_of_private hi1 hi2 (by simp only [Bool.or_eq_false_iff] at hi3; exact hi3.1) hpr (mvT hZ w2) hy
  obtain ⟨v, _, ⟨T', L', k1, n1⟩, -, X', ⟨Lc, hq, l', y', z'⟩, stp⟩ := X.privateBack hx (y := y) ho (mvT hZ w1) (mvT hZ w2) hsel hpr (mvT hZ w4) hy (backOf (W := W) (Q := fun v h' L => Q' v h' ∧ Fw ws' h.size L ∧ Keep h h' ws') M hZ w4 w3 hf hl) (g := mkF m pc Ls (argsL.reverse ++ .ref a :: rest)) rfl hml (Steps.refl _) (a := a) (by rw [eT]; exact hcl) hst (argsL := argsL) (rest := rest) hlen rfl (by show 2 * 0 + _ ≤ _; omega) hd (fun _ _ => ⟨rfl, eT, hc, hs⟩)
  dsimp only [Pt.U, Pt.locs, Pt.cells, Pt.slots] at X' l' y' z' stp hq
  subst l' y' z'
  exact Done.step (fun t kk => stp.trans kk) (K T' T'.heap v ⟨vm0, k0, hS, (Nat.le_trans hk0 hq.2.2.1), ⟨_, X', N'.app fun y hy => (hq.2.1 y hy).elim (fun q => hws _ q) (fun q => Or.inr (Nat.le_trans b q))⟩, rfl, Nat.le_trans b hq.2.2.1, hZ, hx, ho, hlk, hc, hs⟩ hq.2.2 hq.1)
theorem wNat {y : MethodName} {by0 : ByteArray} {ml : Nat} {rt : Option FieldType} {index W : Nat} {F : Array Value → Prop} {val : Value} {argsL rest stk : List Value} (P : Pos p l e R s m args below meth c Z own ws bd T h k n)
    (w1 : (Cond.methodLink own index y).before a0 Z = true) (w2 : (Cond.static y).before a0 Z = true) (w3 : (Cond.initialized y.cls).before a0 Z = true) (w4 : (Cond.code y by0 ml rt).before a0 Z = true) (hy : y.cls ≠ "java/lang/invoke/MethodHandle" ∧ y.cls ≠ "java/lang/invoke/VarHandle")
    (hK : ∀ s, (Cond.code y by0 ml rt).before args s = true → Back l R p e below s args y 3 W (fun A a' => A.cells ≤ R.cells ∧ A.slots ≤ R.slots ∧ F a') (fun A _ v B => v = some val ∧ B = A)) (hml : Ls.size = c.maxLocals)
    (hlen : ∀ sig, parseMethodDescriptor y.desc = some sig → argsL.length = sig.parameters.length) (hst : stk = argsL.reverse ++ rest) (hW : (rest.map fun v => v.category).sum ≤ W) (hd : decode c.code pc = .ok (.invokestatic index, 3)) (hp : pc + 3 = pc') (hF : F argsL.toArray)
    (K : ∀ T', Pos p l e R s m args below meth c Z own ws bd T' h k n → Done p l e R s m args below meth c Z own ws bd Q T' (mkF m pc' Ls (val :: rest))) : Done p l e R s m args below meth c Z own ws bd Q T (mkF m pc Ls stk) := by
  obtain ⟨vm0, k0, hS, hk0, ⟨L, X, N'⟩, eT, b, hZ, hx, ho, hlk, hc, hs⟩ := id P
  subst hst hp
  obtain ⟨T', X', e', stp⟩ := natS X hx hZ ho w1 w2 w3 w4 hy eT (hK _) (g := mkF m pc Ls (argsL.reverse ++ rest)) rfl hml hlen rfl (by show 2 * 0 + _ ≤ _; omega) hd hc hs hF rfl
  exact Done.step stp (K T' ⟨vm0, k0, hS, (hk0), ⟨L, X', N'⟩, e', b, hZ, hx, ho, hlk, hc, hs⟩)
theorem wClone {N cap index W : Nat} {f : Nat → UInt64} {a : Addr} (P : Pos p l e R s m args below meth c Z own ws bd T h k n) (A : Ar Z h a .double N (fun i => .double (f i))) (E : Exa Z h a "[D")
    (w1 : (Cond.methodLink own index ⟨"[D", "clone", "()Ljava/lang/Object;"⟩).before a0 Z = true) (w2 : (Cond.sameMethod "[D" "java/lang/Object" "clone" "()Ljava/lang/Object;").before a0 Z = true) (w3 : (Cond.native ⟨"java/lang/Object", "clone", "()Ljava/lang/Object;"⟩).before a0 Z = true)
    (w4 : (Cond.instanceMethod ⟨"java/lang/Object", "clone", "()Ljava/lang/Object;"⟩).before a0 Z = true) (w5 : (Cond.selects "[D" ⟨"[D", "clone", "()Ljava/lang/Object;"⟩ ⟨"java/lang/Object", "clone", "()Ljava/lang/Object;"⟩).before a0 Z = true) (w6 : (Cond.castable "[D" "java/lang/Cloneable").before a0 Z = true)
    (hml : Ls.size = c.maxLocals) (hd : decode c.code pc = .ok (.invokevirtual index, 3)) (hp : pc + 3 = pc') (hf : 1 ≤ R.frames) (hW : (st.map fun v => v.category).sum ≤ W) (hl : W + 14 ≤ R.locals) (hcap : N ≤ cap) (hc : k + 1 ≤ R.cells) (hsl : n + cap ≤ R.slots) {k' n' : Nat} (hk' : k + 1 = k') (hn' : n + cap = n')
    (K : ∀ T' h' b, b = h.size → h.size < h'.size → Pos p l e R s m args below meth c Z own ws bd T' h' k' n' → Ext h h' → Ar Z h' b .double N (fun i => .double (f i)) → Exa Z h' b "[D" → Done p l e R s m args below meth c Z own ws bd Q T' (mkF m pc' Ls (.ref b :: st))) : Done p l e R s m args below meth c Z own ws bd Q T (mkF m pc Ls (.ref a :: st)) := by
  obtain ⟨vm0, k0, hS, hk0, ⟨L, X, N'⟩, eT, b, hZ, hx, ho, hlk, _, _⟩ := id P
  obtain ⟨cl, Ar, S, hN, H⟩ := A
  have FC : FitC Z cl := fitC_of Ar fun i hi v hv => by rw [H i (by omega)] at hv; cases hv; rfl
  obtain ⟨T', h', X', e', ex, A', E', stp⟩ := cloneA X hx hZ ho w1 w2 w3 w4 w5 w6 eT Ar E FC (g := mkF m pc Ls (.ref a :: st)) rfl hml rfl hd hf (W := W) (by show 2 * 0 + _ ≤ _; omega) hl (cap := cap) (by omega) hc hsl
  subst hp hk' hn'
  exact Done.step stp (K T' h' h.size rfl A'.lt ⟨vm0, k0, hS, (Nat.le_trans hk0 ex.1), ⟨L, X', N'⟩, e', Nat.le_trans b ex.1, hZ, hx, ho, hlk, hc, hsl⟩ ex ⟨_, A', S, hN, H⟩ E')
theorem wCopyD {N M K0 index W : Nat} {f g : Nat → UInt64} {a b : Addr} {nn : Int32} (P : Pos p l e R s m args below meth c Z own [] bd T h k n) (A : Ar Z h a .double N (fun i => .double (f i))) (B : Ar Z h b .double M (fun i => .double (g i))) (hnn : nn.toInt = (K0 : Int)) (h1 : K0 ≤ N) (h2 : K0 ≤ M) (ge : bd ≤ b)
    (w1 : (Cond.methodLink own index Jvm.Stand.acN).before a0 Z = true) (w2 : (Cond.native Jvm.Stand.acN).before a0 Z = true) (w3 : (Cond.static Jvm.Stand.acN).before a0 Z = true) (w4 : (Cond.initialized "java/lang/System").before a0 Z = true)
    (hml : Ls.size = c.maxLocals) (hd : decode c.code pc = .ok (.invokestatic index, 3)) (hp : pc + 3 = pc') (hf : 1 ≤ R.frames) (hW : (st.map fun v => v.category).sum ≤ W) (hlo : W + (nativeFrameWords "java/lang/System" "arraycopy" 5 + 11) ≤ R.locals)
    (K : ∀ T' h', Pos p l e R s m args below meth c Z own [] bd T' h' k n → Keep h h' [b] → Ar Z h' b .double M (fun i => .double (if i < K0 then f i else g i)) → Done p l e R s m args below meth c Z own [] bd Q T' (mkF m pc' Ls st)) :
    Done p l e R s m args below meth c Z own [] bd Q T (mkF m pc Ls (.int nn :: .int 0 :: .ref b :: .int 0 :: .ref a :: st)) := by
  obtain ⟨vm0, k0, hS, hk0, ⟨L, X, N'⟩, eT, hb', hZ, hx, ho, r⟩ := id P
  have hN := A.len
  have hM := B.len
  obtain ⟨kA, VA⟩ := A.toArv (.double 0) (fun _ => rfl) rfl
  obtain ⟨kB, VB⟩ := B.toArv (.double 0) (fun _ => rfl) rfl
  have z0 : ¬ (0 : Int32) < 0 := by decide
  have z1 : (0 : Int32).toNatClampNeg = 0 := by decide
  have q0 : ¬ nn < 0 := by rw [Int32.lt_iff_toInt_lt, hnn, show (0 : Int32).toInt = 0 from rfl]; omega
  have q1 : nn.toNatClampNeg = K0 := by rw [Int32.toNatClampNeg, hnn]; omega
  obtain ⟨T', h', L', X', e', F', Kp, V', stp⟩ := cpA X hx hZ ho w1 w2 w3 w4 eT VA VB (Or.inl ⟨rfl, rfl⟩) z0 z0 q0 (by rw [z1, q1, (n32 hN).2]; omega) (by rw [z1, q1, (n32 hM).2]; omega) rfl (by rw [z1, q1]; simp; omega) (n0 := bd) N'.toFr ge (g := mkF m pc Ls (.int nn :: .int 0 :: .ref b :: .int 0 :: .ref a :: st)) rfl hml rfl hd hf (W := W) (by show 2 * 0 + _ ≤ _; omega) hlo
  subst hp
  refine Done.step stp (K T' h' ⟨vm0, k0, hS, (Nat.le_trans hk0 Kp.1), ⟨L', X', Fw.ofFr F'⟩, e', Nat.le_trans hb' Kp.1, hZ, hx, ho, r⟩ Kp ((Ar.ofArv hM V').congr fun i hi => ?_))
  rw [z1, q1]
  by_cases q : i < K0
  · rw [if_pos q]
    simp [List.getD_eq_getElem?_getD, List.getElem?_append, q]
    rw [List.getElem?_range (by omega)]
    rfl
  · rw [if_neg q]
    simp [List.getD_eq_getElem?_getD, List.getElem?_append, q]
    have e2 : K0 + (i - K0) = i := by omega
    simp [e2, hi]
theorem pLdcI {index : Nat} {v : Int32} {t : State} (P : Pos p l e R s m args below meth c Z own ws bd T h k n) (w : (Cond.constant own index v).before a0 Z = true) (hd : decode c.code pc = .ok (.ldc index, 2)) (hp : pc + 2 = pc') (kk : Steps p.tables e below (T.setTop (mkF m pc' Ls (.int v :: st))) t) : Steps p.tables e below (T.setTop (mkF m pc Ls st)) t := by
  obtain ⟨vm0, k0, hS, hk0, ⟨L, X, N'⟩, eT, b, hZ, hx, ho, hlk, _, _⟩ := id P
  subst hp
  exact X.ldcI hx ho (mvT hZ w) (g := mkF m pc Ls st) rfl hd kk
theorem pLdcIw {index : Nat} {v : Int32} {t : State} (P : Pos p l e R s m args below meth c Z own ws bd T h k n) (w : (Cond.constant own index v).before a0 Z = true) (hd : decode c.code pc = .ok (.ldc_w index, 3)) (hp : pc + 3 = pc') (kk : Steps p.tables e below (T.setTop (mkF m pc' Ls (.int v :: st))) t) : Steps p.tables e below (T.setTop (mkF m pc Ls st)) t := by
  obtain ⟨vm0, k0, hS, hk0, ⟨L, X, N'⟩, eT, b, hZ, hx, ho, hlk, _, _⟩ := id P
  subst hp
  exact X.ldcWI hx ho (mvT hZ w) (g := mkF m pc Ls st) rfl hd kk
theorem pLdcJ {index : Nat} {v : Int64} {t : State} (P : Pos p l e R s m args below meth c Z own ws bd T h k n) (w : (Cond.constantLong own index v).before a0 Z = true) (hd : decode c.code pc = .ok (.ldc2_w index, 3)) (hp : pc + 3 = pc') (kk : Steps p.tables e below (T.setTop (mkF m pc' Ls (.long v :: st))) t) : Steps p.tables e below (T.setTop (mkF m pc Ls st)) t := by
  obtain ⟨vm0, k0, hS, hk0, ⟨L, X, N'⟩, eT, b, hZ, hx, ho, hlk, _, _⟩ := id P
  subst hp
  exact X.ldc2J hx ho (mvT hZ w) (g := mkF m pc Ls st) rfl hd kk
theorem pLdcD {index : Nat} {v : UInt64} {t : State} (P : Pos p l e R s m args below meth c Z own ws bd T h k n) (w : (Cond.constantDouble own index v).before a0 Z = true) (hd : decode c.code pc = .ok (.ldc2_w index, 3)) (hp : pc + 3 = pc') (kk : Steps p.tables e below (T.setTop (mkF m pc' Ls (.double v :: st))) t) : Steps p.tables e below (T.setTop (mkF m pc Ls st)) t := by
  obtain ⟨vm0, k0, hS, hk0, ⟨L, X, N'⟩, eT, b, hZ, hx, ho, hlk, _, _⟩ := id P
  subst hp
  exact X.ldc2DoubleC hx ho (mvT hZ w) (g := mkF m pc Ls st) rfl hd t kk
theorem pAcmp {cd : ACond} {x y : Value} {rest stk : List Value} {o : Int} {pc0 : Nat} {same : Bool} {t : State} (P : Pos p l e R s m args below meth c Z own ws bd T h k n) (h1 : x.isRef = true) (h2 : y.isRef = true) (hpc : pc = pc0) (hd : decode c.code pc = .ok (.if_acmp cd o, 3)) (hs : stk = y :: x :: rest) (hq : decide (x = y) = same) (ho : 0 ≤ (pc0 : Int) + o)
    (hp : pc' = if acV cd same = true then ((pc0 : Int) + o).toNat else pc0 + 3) (kk : Steps p.tables e below (T.setTop (mkF m pc' Ls rest)) t) : Steps p.tables e below (T.setTop (mkF m pc Ls stk)) t := by
  obtain ⟨vm0, k0, hS, hk0, ⟨L, X, N'⟩, eT, b, hZ, hx, ho', hlk, _, _⟩ := id P
  exact Jvm.RoadKit.acmp (g := mkF m pc Ls stk) X hx rfl h1 h2 (pc0 := pc0) (pc' := pc') (same := same) hpc hd hs hq ho hp kk
/-- ldc of a String constant: a reference, nothing more is told of it -/
theorem wLdcS {text : String} {index N : Nat} (P : Pos p l e R s m args below meth c Z own ws bd T h k n) (w : (Cond.stringLink own index text).before a0 Z = true) (wS : ∀ a ∈ Bundle.stringAtoms, a.before a0 Z = true) (hd : decode c.code pc = .ok (.ldc index, 2)) (hp : pc + 2 = pc') (hn : 4 * text.toList.length ≤ N) (hbig : N ≤ 536870912) (hc : k + 2 ≤ R.cells) (hl : n + (N + 4) ≤ R.slots) {k' n' : Nat} (hk' : k + 2 = k') (hn' : n + (N + 4) = n')
    (K : ∀ T' h' a, Pos p l e R s m args below meth c Z own ws bd T' h' k' n' → Ext h h' → Done p l e R s m args below meth c Z own ws bd Q T' (mkF m pc' Ls (.ref a :: st))) : Done p l e R s m args below meth c Z own ws bd Q T (mkF m pc Ls st) := by
  obtain ⟨vm0, k0, hS, hk0, ⟨L, X, N'⟩, eT, b, hZ, hx, ho, hlk, _, _⟩ := id P
  subst hp hk' hn'
  obtain ⟨a, T', h', k1, X', e', E, S', hk1, hZ', ho', stp⟩ := ldcS X hx hZ ho w wS eT hS hk0 (g := mkF m pc Ls st) rfl hd hn hbig hc hl
  exact Done.step stp (K T' h' a ⟨T'.vm, k1, S', hk1, ⟨L, X', N'⟩, e', Nat.le_trans b E.1, hZ', hx, ho', hlk, hc, hl⟩ E)
/-- a contract out of a walk -/
theorem OMet.of {y : MethodName} {bytes : ByteArray} {maxL : Nat} {ret : Option FieldType} {wd : List Cond} {rm : Room} {as' : Array Value} {nm : String} (hy : plainFor y = true) (hyc : y.cls = own) (hyn : y.name = nm)
    (H : ∀ p e s m below meth c s₁, Pos p l e rm s m as' below meth c Z own ws h.size s₁ h 0 0 → c.code = bytes → c.maxLocals = maxL → meth.sig.returnType = ret → meth.name = nm → Done p l e rm s m as' below meth c Z own ws h.size Q s₁ (entryFrame m as' maxL)) :
    OMet l y bytes maxL ret wd rm Z h ws as' Q := by
  subst hyc hyn
  refine MetFree.of_bodySF hy hisR ?_
  intro p e s m args below meth c s₁ Bd hml hP hK
  obtain ⟨rfl, hZ, hh⟩ := hP
  have hown : s.vm.findClass y.cls = some m.cls := findClass_of_methodNamed Bd.named
  have hnm := (name_of_methodNamed Bd.named Bd.method).1
  have X0 : Stand p l e rm s m args below meth c s₁ [] 0 0 := Stand.of_body Bd
  have e0 : s₁.heap = h := by rw [← hh, Bd.state]; rfl
  obtain ⟨v, T', h', k, n, ⟨vm0, k0, hS, hk0, ⟨L, X, N⟩, eT, _, _, _, _, hlk, hk, hnn⟩, hv, hq, st⟩ := H p e s m below meth c s₁ ⟨s.vm, s.heap.size, (State.WarmedH.refl s).since _, (by rw [← hh]; exact Nat.le_refl _), ⟨[], X0, Fw.nil _ _⟩, e0, Nat.le_refl _, hZ, Bd.exec, hown, Bd.notSynchronized, Nat.zero_le _, Nat.zero_le _⟩ Bd.bytes hml Bd.returns hnm
  obtain ⟨fs, hr, hrun, hended, e1, e2, e3, hsame⟩ := X.leaveW hS (by rw [eT]; exact hk0) (v := v) hv hlk
  refine ⟨_, _, st fs hr, hrun, hended, v, L, rfl, ⟨?_, N, ?_⟩, e1, e2, e3, hsame.mono hk hnn⟩
  · rw [show (T'.setFrames fs).heap = T'.heap from rfl, eT]
    exact hq
  · subst hh
    have q := keepOf hsame N
    exact q
theorem wCallSW {y : MethodName} {bytes : ByteArray} {maxL : Nat} {ret : Option FieldType} {rm : Room} {as' : Array Value} {ws' : List Addr} {Q' : Option Value → Heap → Prop} {index W : Nat} {argsL rest stk : List Value} (P : Pos p l e R s m args below meth c Z own ws bd T h k n) (M : OMet l y bytes maxL ret [] rm Z h ws' as' Q')
    (w1 : (Cond.methodLink own index y).before a0 Z = true) (w2 : (Cond.static y).before a0 Z = true) (w3 : (Cond.initialized y.cls).before a0 Z = true) (w4 : (Cond.code y bytes maxL ret).before a0 Z = true) (hy : y.cls ≠ "java/lang/invoke/MethodHandle" ∧ y.cls ≠ "java/lang/invoke/VarHandle") (hml : Ls.size = c.maxLocals)
    (hlen : ∀ sig, parseMethodDescriptor y.desc = some sig → argsL.length = sig.parameters.length) (has : (argsL).toArray = as') (hst : stk = argsL.reverse ++ rest) (hW : (rest.map fun v => v.category).sum ≤ W) (hf : rm.frames + 1 ≤ R.frames) (hl : W + (maxL + 11) + rm.locals ≤ R.locals) (hc : k + rm.cells ≤ R.cells) (hs : n + rm.slots ≤ R.slots)
    (hws : ∀ x ∈ ws', x ∈ ws ∨ bd ≤ x) (hd : decode c.code pc = .ok (.invokestatic index, 3)) (hp : pc + 3 = pc') {k' n' : Nat} (hk' : k + rm.cells = k') (hn' : n + rm.slots = n')
    (K : ∀ T' h' v, Pos p l e R s m args below meth c Z own ws bd T' h' k' n' → Keep h h' ws' → Q' v h' → Done p l e R s m args below meth c Z own ws bd Q T' (mkF m pc' Ls (v.toList ++ rest))) : Done p l e R s m args below meth c Z own ws bd Q T (mkF m pc Ls stk) := by
  obtain ⟨vm0, k0, hS, hk0, ⟨L, X, N'⟩, eT, b, hZ, hx, ho, hlk, _, _⟩ := id P
  subst hst has hp hk' hn'
  obtain ⟨v, _, ⟨T', L', k1, n1⟩, -, X', hS2, hgr, ⟨Lc, hq, l', y', z'⟩, stp⟩ := Jvm.RoadKit.callSS X hx (y := y) ho (mvT hZ w1) (mvT hZ w2) (mvT hZ w3) (mvT hZ w4) hy (backOfS (W := W) (Q := fun v h' L => Q' v h' ∧ Fw ws' h.size L ∧ Keep h h' ws') M hZ w4 w3 hf hl) (g := mkF m pc Ls (argsL.reverse ++ rest)) rfl hml (argsL := argsL) (rest := rest) hlen rfl (by show 2 * 0 + _ ≤ _; omega) hd (fun _ _ => ⟨rfl, eT, hc, hs⟩)
  dsimp only [Pt.U, Pt.locs, Pt.cells, Pt.slots] at X' hS2 hgr l' y' z' stp hq
  subst l' y' z'
  obtain ⟨X2, S2, Z2, O2⟩ := rebS hS (n1 := h.size) hk0 X' hS2 (by rw [← eT]; exact hgr) hZ ho
  exact Done.step (fun t kk => stp.trans kk) (K T' T'.heap v ⟨_, _, S2, Nat.le_refl _, ⟨_, X2, N'.app fun y hy => (hq.2.1 y hy).elim (fun q => hws _ q) (fun q => Or.inr (Nat.le_trans b q))⟩, rfl, Nat.le_trans b hq.2.2.1, Z2, hx, O2, hlk, hc, hs⟩ hq.2.2 hq.1)
theorem wCallIW {y : MethodName} {bytes : ByteArray} {maxL : Nat} {rm : Room} {as' : Array Value} {ws' : List Addr} {Q' : Option Value → Heap → Prop} {index W : Nat} {argsL rest stk : List Value} {a : Addr} (P : Pos p l e R s m args below meth c Z own ws bd T h k n) (M : OMet l y bytes maxL none [] rm Z h ws' as' Q')
    (hyn : y.name = "<init>") (w1 : (Cond.methodLink own index y).before a0 Z = true) (w2 : (Cond.instanceMethod y).before a0 Z = true) (w3 : (Cond.initialized y.cls).before a0 Z = true) (w4 : (Cond.code y bytes maxL none).before a0 Z = true) (hy : y.cls ≠ "java/lang/invoke/MethodHandle" ∧ y.cls ≠ "java/lang/invoke/VarHandle") (hml : Ls.size = c.maxLocals)
    (hlen : ∀ sig, parseMethodDescriptor y.desc = some sig → argsL.length = sig.parameters.length) (has : (.ref a :: argsL).toArray = as') (hst : stk = argsL.reverse ++ .ref a :: rest) (hW : (rest.map fun v => v.category).sum ≤ W) (hf : rm.frames + 1 ≤ R.frames) (hl : W + (maxL + 11) + rm.locals ≤ R.locals) (hc : k + rm.cells ≤ R.cells) (hs : n + rm.slots ≤ R.slots)
    (hws : ∀ x ∈ ws', x ∈ ws ∨ bd ≤ x) (hd : decode c.code pc = .ok (.invokespecial index, 3)) (hp : pc + 3 = pc') {k' n' : Nat} (hk' : k + rm.cells = k') (hn' : n + rm.slots = n')
    (K : ∀ T' h' v, Pos p l e R s m args below meth c Z own ws bd T' h' k' n' → Keep h h' ws' → Q' v h' → Done p l e R s m args below meth c Z own ws bd Q T' (mkF m pc' Ls (v.toList ++ rest))) : Done p l e R s m args below meth c Z own ws bd Q T (mkF m pc Ls stk) := by
  obtain ⟨vm0, k0, hS, hk0, ⟨L, X, N'⟩, eT, b, hZ, hx, ho, hlk, _, _⟩ := id P
  subst hst has hp hk' hn'
  obtain ⟨v, _, ⟨T', L', k1, n1⟩, -, X', hS2, hgr, ⟨Lc, hq, l', y', z'⟩, stp⟩ := X.specialBackS hx (y := y) hyn ho (mvT hZ w1) (mvT hZ w2) (mvT hZ w4) hy (backOfS (W := W) (Q := fun v h' L => Q' v h' ∧ Fw ws' h.size L ∧ Keep h h' ws') M hZ w4 w3 hf hl) (g := mkF m pc Ls (argsL.reverse ++ .ref a :: rest)) rfl hml (Steps.refl _) (a := a) (argsL := argsL) (rest := rest) hlen rfl (by show 2 * 0 + _ ≤ _; omega) hd (fun _ _ => ⟨rfl, eT, hc, hs⟩)
  dsimp only [Pt.U, Pt.locs, Pt.cells, Pt.slots] at X' hS2 hgr l' y' z' stp hq
  subst l' y' z'
  obtain ⟨X2, S2, Z2, O2⟩ := rebS hS (n1 := h.size) hk0 X' hS2 (by rw [← eT]; exact hgr) hZ ho
  exact Done.step (fun t kk => stp.trans kk) (K T' T'.heap v ⟨_, _, S2, Nat.le_refl _, ⟨_, X2, N'.app fun y hy => (hq.2.1 y hy).elim (fun q => hws _ q) (fun q => Or.inr (Nat.le_trans b q))⟩, rfl, Nat.le_trans b hq.2.2.1, Z2, hx, O2, hlk, hc, hs⟩ hq.2.2 hq.1)
theorem wCallVW {y : MethodName} {bytes : ByteArray} {maxL : Nat} {ret : Option FieldType} {rm : Room} {as' : Array Value} {ws' : List Addr} {Q' : Option Value → Heap → Prop} {index W : Nat} {argsL rest stk : List Value} {z : MethodName} {C : String} {a : Addr} (P : Pos p l e R s m args below meth c Z own ws bd T h k n) (M : OMet l z bytes maxL ret [] rm Z h ws' as' Q')
    (w1 : (Cond.methodLink own index y).before a0 Z = true) (w2 : (Cond.declares y).before a0 Z = true) (w5 : (Cond.selects C y z).before a0 Z = true) {D : String} (w7 : (Cond.selects D y y).before a0 Z = true) (w6 : (Cond.instanceMethod z).before a0 Z = true) (w3 : (Cond.initialized z.cls).before a0 Z = true) (w4 : (Cond.code z bytes maxL ret).before a0 Z = true) (hy : y.cls ≠ "java/lang/invoke/MethodHandle" ∧ y.cls ≠ "java/lang/invoke/VarHandle") (E : Exa Z h a C) (hml : Ls.size = c.maxLocals)
    (hlen : ∀ sig, parseMethodDescriptor y.desc = some sig → argsL.length = sig.parameters.length) (has : (.ref a :: argsL).toArray = as') (hst : stk = argsL.reverse ++ .ref a :: rest) (hW : (rest.map fun v => v.category).sum ≤ W) (hf : rm.frames + 1 ≤ R.frames) (hl : W + (maxL + 11) + rm.locals ≤ R.locals) (hc : k + rm.cells ≤ R.cells) (hs : n + rm.slots ≤ R.slots)
    (hws : ∀ x ∈ ws', x ∈ ws ∨ bd ≤ x) (hd : decode c.code pc = .ok (.invokevirtual index, 3)) (hp : pc + 3 = pc') {k' n' : Nat} (hk' : k + rm.cells = k') (hn' : n + rm.slots = n')
    (K : ∀ T' h' v, Pos p l e R s m args below meth c Z own ws bd T' h' k' n' → Keep h h' ws' → Q' v h' → Done p l e R s m args below meth c Z own ws bd Q T' (mkF m pc' Ls (v.toList ++ rest))) : Done p l e R s m args below meth c Z own ws bd Q T (mkF m pc Ls stk) := by
  obtain ⟨vm0, k0, hS, hk0, ⟨L, X, N'⟩, eT, b, hZ, hx, ho, hlk, _, _⟩ := id P
  subst hst has hp hk' hn'
  obtain ⟨cq, kq, qa, qb, qc⟩ := isOf hZ eT E
  obtain ⟨v, _, ⟨T', L', k1, n1⟩, -, X', hS2, hgr, ⟨Lc, hq, l', y', z'⟩, stp⟩ := X.virtualBackS hx (y := y) (z := z) ho (mvT hZ w1) (mvT hZ w2) (notFace_of_selects (args := #[]) (mvT hZ w7)) (mvT hZ w5) (mvT hZ w6) hy (backOfS (W := W) (Q := fun v h' L => Q' v h' ∧ Fw ws' h.size L ∧ Keep h h' ws') M hZ w4 w3 hf hl) qa qc (g := mkF m pc Ls (argsL.reverse ++ .ref a :: rest)) rfl hml (Steps.refl _) (argsL := argsL) (rest := rest) hlen rfl (by show 2 * 0 + _ ≤ _; omega) hd (fun _ _ => ⟨rfl, eT, hc, hs⟩)
  dsimp only [Pt.U, Pt.locs, Pt.cells, Pt.slots] at X' hS2 hgr l' y' z' stp hq
  subst l' y' z'
  obtain ⟨X2, S2, Z2, O2⟩ := rebS hS (n1 := h.size) hk0 X' hS2 (by rw [← eT]; exact hgr) hZ ho
  exact Done.step (fun t kk => stp.trans kk) (K T' T'.heap v ⟨_, _, S2, Nat.le_refl _, ⟨_, X2, N'.app fun y hy => (hq.2.1 y hy).elim (fun q => hws _ q) (fun q => Or.inr (Nat.le_trans b q))⟩, rfl, Nat.le_trans b hq.2.2.1, Z2, hx, O2, hlk, hc, hs⟩ hq.2.2 hq.1)
end A
end Jvm.OwnX
namespace Jvm.OwnW
section Fp
open Jvm.FP Jvm.FP.Core Jvm.Free.Fl Jvm.ClassFile Jvm.Op
/-- the exponent moved by k -/
def sc (k : Int) : Datum → Datum
  | .fin s c q => .fin s c (q + k)
  | .inf s => .inf s
  | .nan => .nan
/-- the double a is i / 2^k, exactly -/
def DY (i : Int) (k : Int) (a : UInt64) : Prop := Whole i (sc k (val64 a))
theorem sc_zero (d : Datum) : sc 0 d = d := by cases d <;> simp [sc]
theorem DY.of_int {i : Int} {a : UInt64} (h : DInt i a) : DY i 0 a := by unfold DY; rw [sc_zero]; exact h
theorem DY.to_int {i : Int} {a : UInt64} (h : DY i 0 a) : DInt i a := by unfold DY at h; rw [sc_zero] at h; exact h
theorem units_sc (k : Int) (c : Nat) (q e : Int) : inUnits c (q + k) (e + k) = inUnits c q e := by
  unfold inUnits; rw [show q + k - (e + k) = q - e by omega]
theorem sc_sum (k : Int) (x y : Datum) : sc k (exactSum x y) = exactSum (sc k x) (sc k y) := by
  cases x with
  | nan => rfl
  | inf s => cases y with
    | nan => rfl
    | inf t => by_cases z : s = t <;> simp only [exactSum, sc, z, if_true, if_false]
    | fin t d r => rfl
  | fin s c q => cases y with
    | nan => rfl
    | inf t => rfl
    | fin t d r =>
      have e : min (q + k) (r + k) = min q r + k := by omega
      simp only [exactSum, sc, sumUnits]
      rw [e, units_sc, units_sc]
theorem sc_prod (k l : Int) (x y : Datum) : sc (k + l) (exactProduct x y) = exactProduct (sc k x) (sc l y) := by
  cases x with
  | nan => rfl
  | inf s => cases y with
    | nan => rfl
    | inf t => rfl
    | fin t d r => by_cases z : d = 0 <;> simp only [exactProduct, sc, z, if_true, if_false]
  | fin s c q => cases y with
    | nan => rfl
    | inf t => by_cases z : c = 0 <;> simp only [exactProduct, sc, z, if_true, if_false]
    | fin t d r =>
      simp only [exactProduct, sc]
      rw [show q + r + (k + l) = q + k + (r + l) by omega]
theorem sc_negate (k : Int) (x : Datum) : sc k (negate x) = negate (sc k x) := by cases x <;> rfl
theorem sc_order (k : Int) (x y : Datum) : order (sc k x) (sc k y) = order x y := by
  cases x with
  | nan => rfl
  | inf s => cases y <;> rfl
  | fin s c q => cases y with
    | nan => rfl
    | inf t => rfl
    | fin t d r =>
      have e : min (q + k) (r + k) = min q r + k := by omega
      simp only [order, sc]
      rw [e, units_sc, units_sc]
theorem pow_cancel {c n a b : Nat} (h : c * 2 ^ a = n * 2 ^ b) : c * 2 ^ (a - b) = n * 2 ^ (b - a) := by
  rcases Nat.le_total a b with q | q
  · obtain ⟨t, rfl⟩ := Nat.exists_eq_add_of_le q
    rw [Nat.pow_add, show n * (2 ^ a * 2 ^ t) = n * 2 ^ t * 2 ^ a by ac_rfl] at h
    have := Nat.eq_of_mul_eq_mul_right (Nat.two_pow_pos a) h
    rw [show a - (a + t) = 0 by omega, show a + t - a = t by omega, this]; simp
  · obtain ⟨t, rfl⟩ := Nat.exists_eq_add_of_le q
    rw [Nat.pow_add, show c * (2 ^ b * 2 ^ t) = c * 2 ^ t * 2 ^ b by ac_rfl] at h
    have := Nat.eq_of_mul_eq_mul_right (Nat.two_pow_pos b) h
    rw [show b - (b + t) = 0 by omega, show b + t - b = t by omega, this]; simp
theorem signed_of {i : Int} {s : Bool} {c : Nat} {q : Int} (h : Whole i (.fin s c q)) : signed s i.natAbs = i := by
  by_cases hi : i = 0
  · rw [hi]; exact signed_zero s
  · rw [whole_sign h hi]
    unfold signed
    by_cases h : i < 0 <;> simp [h] <;> omega
/-- a rounded datum of the value (-1)^s * n / 2^k is that number, where n has at most 53 digits -/
theorem whole_of_round {s : Bool} {i k : Int} (hs : signed s i.natAbs = i) (hi : i.natAbs < 2 ^ 53) (h1 : k ≤ 1074) (h2 : -971 ≤ k) : Whole i (sc k (round b64 (.fin s i.natAbs (-k)))) := by
  obtain ⟨c', q', e2, e3⟩ := round_exact good_b64 s (c := i.natAbs) (q := -k) hi (by rw [qmin_b64]; omega) (by rw [show b64.qmax = 971 by decide]; omega)
  have hf := round_fits good_b64 (.fin s i.natAbs (-k))
  rw [e2] at hf
  have hq : b64.qmin ≤ q' := hf.2.1
  rw [e2]
  rw [qmin_b64] at hq
  unfold inUnits at e3
  rw [qmin_b64] at e3
  have h3 := pow_cancel e3
  show signed s (c' * 2 ^ (q' + k).toNat) = i * ((2 ^ (-(q' + k)).toNat : Nat) : Int)
  rw [show (q' + k).toNat = (q' - -1074).toNat - (-k - -1074).toNat by omega, show (-(q' + k)).toNat = (-k - -1074).toNat - (q' - -1074).toNat by omega, h3, signed_mul, hs]
theorem sc_round {i k : Int} {d : Datum} (h : Whole i (sc k d)) (hi : i.natAbs < 2 ^ 53) (h1 : k ≤ 1074) (h2 : -971 ≤ k) : Whole i (sc k (round b64 d)) := by
  cases d with
  | nan => exact h.elim
  | inf => exact h.elim
  | fin s c q =>
    have h' : Whole i (.fin s c (q + k)) := h
    have h0 := whole_natAbs h'
    have e1 : round b64 (.fin s c q) = round b64 (.fin s i.natAbs (-k)) := by
      refine roundRatio_congr (by decide) (by decide) ?_
      rw [show (q - -k).toNat = (q + k).toNat by omega, show (-k - q).toNat = (-(q + k)).toNat by omega]
      simpa using h0
    rw [e1]
    exact whole_of_round (signed_of h') hi h1 h2
theorem dadd_dy {i j k : Int} {a b : UInt64} (ha : DY i k a) (hb : DY j k b) (h : (i + j).natAbs < 2 ^ 53) (h1 : k ≤ 1074) (h2 : -971 ≤ k) : DY (i + j) k (FP.dadd a b) := by
  unfold DY at *
  rw [show val64 (FP.dadd a b) = round b64 (exactSum (val64 a) (val64 b)) from val64_dadd a b]
  exact sc_round (by rw [sc_sum]; exact whole_sum ha hb) h h1 h2
theorem dsub_dy {i j k : Int} {a b : UInt64} (ha : DY i k a) (hb : DY j k b) (h : (i - j).natAbs < 2 ^ 53) (h1 : k ≤ 1074) (h2 : -971 ≤ k) : DY (i - j) k (FP.dsub a b) := by
  unfold DY at *
  rw [show val64 (FP.dsub a b) = round b64 (exactSum (val64 a) (negate (val64 b))) from val64_dsub a b]
  exact sc_round (by rw [sc_sum, sc_negate]; exact whole_sum ha (whole_negate hb)) h h1 h2
theorem dmul_dy {i j k l : Int} {a b : UInt64} (ha : DY i k a) (hb : DY j l b) (h : (i * j).natAbs < 2 ^ 53) (h1 : k + l ≤ 1074) (h2 : -971 ≤ k + l) : DY (i * j) (k + l) (FP.dmul a b) := by
  unfold DY at *
  rw [show val64 (FP.dmul a b) = round b64 (exactProduct (val64 a) (val64 b)) from val64_dmul a b]
  exact sc_round (by rw [sc_prod]; exact whole_product ha hb) h h1 h2
theorem dcmp_dy {i j k : Int} {a b : UInt64} (ha : DY i k a) (hb : DY j k b) : FP.dcmp a b = some (compare i j) := by
  show order (val64 a) (val64 b) = _
  rw [← sc_order k]
  exact order_whole ha hb
theorem DY.ne_nan {i k : Int} {a : UInt64} (h : DY i k a) : val64 a ≠ .nan := fun q => by unfold DY at h; rw [q] at h; exact h.elim
theorem DY.nn {i k : Int} {a : UInt64} (h : DY i k a) : NoNaN64 a := val64_no.mpr h.ne_nan
theorem DY.fin {i k : Int} {a : UInt64} (h : DY i k a) : ∃ s c q, val64 a = .fin s c q ∧ Whole i (.fin s c (q + k)) := by
  unfold DY at h
  cases hv : val64 a with
  | nan => rw [hv] at h; exact h.elim
  | inf s => rw [hv] at h; exact h.elim
  | fin s c q => rw [hv] at h; exact ⟨s, c, q, rfl, h⟩
theorem dcmpZ_dy {i j k : Int} {a b : UInt64} (ha : DY i k a) (hb : DY j k b) {o : CmpOp} : cmpValue (FP.dcmp a b) o = cmpZ i j := by
  rw [dcmp_dy ha hb, compare_ite]
  unfold cmpZ
  split
  · rfl
  · split <;> rfl
/-- the magnitude in units of 2^-1074 -/
theorem DY.units {i k : Int} {a : UInt64} (h : DY i k a) (hk : k ≤ 1074) : ∃ s c q, val64 a = .fin s c q ∧ -1074 ≤ q ∧ c * 2 ^ (q + 1074).toNat = i.natAbs * 2 ^ (1074 - k).toNat ∧ signed s i.natAbs = i ∧ (i ≠ 0 → s = decide (i < 0)) ∧ (c = 0 ↔ i = 0) := by
  obtain ⟨s, c, q, e, w⟩ := h.fin
  have hf := val64_fits a
  rw [e] at hf
  have hq := hf.2.1
  rw [qmin_b64] at hq
  refine ⟨s, c, q, e, hq, ?_, signed_of w, fun hi => whole_sign w hi, whole_zero w⟩
  have h1 := whole_units w (e := -1074 + k) (by omega)
  have h2 := congrArg Int.natAbs h1
  rw [Int.natAbs_mul, Int.natAbs_mul, natAbs_signed, Int.natAbs_natCast, Int.natAbs_natCast] at h2
  unfold inUnits at h2
  rw [show (-1074 + k).toNat = 0 by omega, show (-(-1074 + k)).toNat = (1074 - k).toNat by omega, show q + k - (-1074 + k) = q + 1074 by omega, Nat.pow_zero, Nat.mul_one] at h2
  exact h2
theorem DY.zval {i k : Int} {a : UInt64} (h : DY i k a) (hk : k ≤ 1074) : zval b64 (val64 a) = i * ((2 ^ (1074 - k).toNat : Nat) : Int) := by
  obtain ⟨s, c, q, e, hq, h1, h2, -, -⟩ := h.units hk
  rw [e]
  show signed s (inUnits c q b64.qmin) = _
  unfold inUnits
  rw [qmin_b64, show q - -1074 = q + 1074 by omega, h1, signed_mul, h2]
/-- an exact quotient -/
theorem ddiv_dy {i j m : Int} {k l n : Nat} {x y : UInt64} (hx : DY i k x) (hy : DY j l y) (hj : j ≠ 0) (hm : m.natAbs < 2 ^ 53) (hk : k ≤ 1074) (hl : l ≤ 1074) (hn : n ≤ 1074) (he : i * (2 ^ (n + l) : Nat) = m * j * (2 ^ k : Nat)) : DY m n (FP.ddiv x y) := by
  obtain ⟨s, c, q, ex, hq, hx1, hx2, hx3, hx4⟩ := hx.units (by omega)
  obtain ⟨t, d, r, ey, hr, hy1, hy2, hy3, hy4⟩ := hy.units (by omega)
  have hd : d ≠ 0 := fun z => hj (hy4.mp z)
  unfold DY
  rw [show val64 (FP.ddiv x y) = quotient b64 (val64 x) (val64 y) from val64_ddiv x y, ex, ey]
  have hd' : 0 < d := Nat.pos_of_ne_zero hd
  have eq1 : quotient b64 (.fin s c q) (.fin t d r) = roundRatio b64 (s != t) c d (q - r) := by simp only [quotient, if_neg hd]
  have hA := congrArg Int.natAbs he
  rw [Int.natAbs_mul, Int.natAbs_mul, Int.natAbs_mul, Int.natAbs_natCast, Int.natAbs_natCast] at hA
  have eq2 : roundRatio b64 (s != t) c d (q - r) = round b64 (.fin (s != t) m.natAbs (-(n : Int))) := by
    refine roundRatio_congr hd' (by decide) ?_
    have hB : c * 2 ^ ((q + 1074).toNat + n) = m.natAbs * d * 2 ^ (r + 1074).toNat := by
      refine Nat.eq_of_mul_eq_mul_right (Nat.two_pow_pos (k + l)) ?_
      have e1 : (1074 - (k : Int)).toNat + k = 1074 := by omega
      have e2 : (1074 - (l : Int)).toNat + l = 1074 := by omega
      calc c * 2 ^ ((q + 1074).toNat + n) * 2 ^ (k + l) = c * 2 ^ (q + 1074).toNat * 2 ^ n * 2 ^ (k + l) := by rw [Nat.pow_add 2 _ n]; ac_rfl
        _ = i.natAbs * 2 ^ (1074 - (k : Int)).toNat * 2 ^ n * 2 ^ (k + l) := by rw [hx1]
        _ = i.natAbs * 2 ^ (n + l) * 2 ^ ((1074 - (k : Int)).toNat + k) := by simp only [Nat.pow_add]; ac_rfl
        _ = m.natAbs * j.natAbs * 2 ^ k * 2 ^ ((1074 - (l : Int)).toNat + l) := by rw [hA, e1, e2]
        _ = m.natAbs * (j.natAbs * 2 ^ (1074 - (l : Int)).toNat) * 2 ^ (k + l) := by simp only [Nat.pow_add]; ac_rfl
        _ = m.natAbs * d * 2 ^ (r + 1074).toNat * 2 ^ (k + l) := by rw [← hy1]; ac_rfl
    have hC := pow_cancel hB
    rw [show (q - r - -(n : Int)).toNat = (q + 1074).toNat + n - (r + 1074).toNat by omega, show (-(n : Int) - (q - r)).toNat = (r + 1074).toNat - ((q + 1074).toNat + n) by omega, Nat.mul_one]
    exact hC
  rw [eq1, eq2]
  refine whole_of_round ?_ hm (by omega) (by omega)
  by_cases hm0 : m = 0
  · rw [hm0]; exact signed_zero _
  have hs := congrArg Int.sign he
  rw [Int.sign_mul, Int.sign_mul, Int.sign_mul, Int.sign_eq_one_of_pos (a := ((2 ^ (n + l) : Nat) : Int)) (by have := Nat.two_pow_pos (n + l); omega), Int.sign_eq_one_of_pos (a := ((2 ^ k : Nat) : Int)) (by have := Nat.two_pow_pos k; omega), Int.mul_one, Int.mul_one] at hs
  have hi0 : i ≠ 0 := fun z => by
    rw [z, Int.zero_mul] at he
    have h3 := Int.mul_eq_zero.mp he.symm
    have h4 := Nat.two_pow_pos k
    rcases h3 with h3 | h3
    · rcases Int.mul_eq_zero.mp h3 with h5 | h5
      · exact hm0 h5
      · exact hj h5
    · omega
  have e1 := hx3 hi0
  have e2 := hy3 hj
  subst e1 e2
  have si : ∀ z : Int, z ≠ 0 → z.sign = if z < 0 then -1 else 1 := fun z hz => by
    rcases Int.lt_or_gt_of_ne hz with h | h
    · rw [if_pos h, Int.sign_eq_neg_one_of_neg h]
    · rw [if_neg (by omega), Int.sign_eq_one_of_pos h]
  rw [si i hi0, si m hm0, si j hj] at hs
  unfold signed
  by_cases a1 : i < 0 <;> by_cases a2 : j < 0 <;> by_cases a3 : m < 0 <;> simp [a1, a2, a3] at hs ⊢ <;> omega
theorem ddiv_int {i j m : Int} {x y : UInt64} (hx : DInt i x) (hy : DInt j y) (hj : j ≠ 0) (hm : m.natAbs < 2 ^ 53) (he : i = m * j) : DInt m (FP.ddiv x y) :=
  (ddiv_dy (k := 0) (l := 0) (n := 0) (DY.of_int hx) (DY.of_int hy) hj hm (by omega) (by omega) (by omega) (by rw [he]; first | done | simp)).to_int
/-- the same number, over a greater power of two -/
theorem DY.up {i k : Int} {a : UInt64} (h : DY i k a) (t : Nat) : DY (i * (2 ^ t : Nat)) (k + t) a := by
  obtain ⟨s, c, q, e, w⟩ := h.fin
  unfold DY
  rw [e]
  show signed s (c * 2 ^ (q + (k + t)).toNat) = i * (2 ^ t : Nat) * ((2 ^ (-(q + (k + t))).toNat : Nat) : Int)
  have w' : signed s (c * 2 ^ (q + k).toNat) = i * ((2 ^ (-(q + k)).toNat : Nat) : Int) := w
  have p2 : ((2 ^ (-(q + k)).toNat : Nat) : Int) ≠ 0 := by have := Nat.two_pow_pos (-(q + k)).toNat; omega
  refine Int.eq_of_mul_eq_mul_right p2 ?_
  have hx : (q + (k + t)).toNat + (-(q + k)).toNat = (q + k).toNat + t + (-(q + (k + t))).toNat := by omega
  rw [← signed_mul, Nat.mul_assoc c, ← Nat.pow_add, hx, show c * 2 ^ ((q + k).toNat + t + (-(q + (k + t))).toNat) = c * 2 ^ (q + k).toNat * (2 ^ t * 2 ^ (-(q + (k + t))).toNat) by simp only [Nat.pow_add]; ac_rfl, signed_mul, w', Int.natCast_mul]
  ac_rfl

/-- a quotient of whole numbers, the dividend not below 0, the divisor above it: how it is rounded -/
theorem ddiv_shape {i j : Int} {x y : UInt64} (hx : DInt i x) (hy : DInt j y) (hi : 0 ≤ i) (hj : 0 < j) : ∃ s c d q r, val64 (FP.ddiv x y) = roundRatio b64 s c d (q - r) ∧ 0 < d ∧ -1074 ≤ q ∧ -1074 ≤ r ∧ c * 2 ^ (q + 1074).toNat = i.natAbs * 2 ^ 1074 ∧ d * 2 ^ (r + 1074).toNat = j.natAbs * 2 ^ 1074 ∧ (i ≠ 0 → s = false) ∧ (i = 0 → c = 0) := by
  obtain ⟨s, c, q, ex, hq, hx1, hx2, hx3, hx4⟩ := (DY.of_int hx).units (by omega)
  obtain ⟨t, d, r, ey, hr, hy1, hy2, hy3, hy4⟩ := (DY.of_int hy).units (by omega)
  have hd : d ≠ 0 := fun z => by have := hy4.mp z; omega
  refine ⟨s != t, c, d, q, r, ?_, Nat.pos_of_ne_zero hd, hq, hr, hx1, hy1, fun h => ?_, fun h => hx4.mpr h⟩
  · rw [show val64 (FP.ddiv x y) = quotient b64 (val64 x) (val64 y) from val64_ddiv x y, ex, ey]; simp only [quotient, if_neg hd]
  · rw [hx3 h, hy3 (by omega)]; simp; omega
theorem units_le {E c d m q r i j : Nat} {A B : Nat} {n g f : Nat} (h1 : c * 2 ^ A = i * 2 ^ E) (h2 : d * 2 ^ B = j * 2 ^ E) (hn : n ≤ E) (hf : f + B = A + g + E) (h : i * 2 ^ n ≤ m * j) : c * 2 ^ f ≤ m * 2 ^ (E - n) * 2 ^ g * d := by
  refine Nat.le_of_mul_le_mul_right ?_ (Nat.two_pow_pos B)
  calc c * 2 ^ f * 2 ^ B = c * 2 ^ (f + B) := by rw [Nat.pow_add]; ac_rfl
    _ = c * 2 ^ A * 2 ^ g * 2 ^ E := by rw [hf]; simp only [Nat.pow_add]; ac_rfl
    _ = i * 2 ^ (n + (E - n)) * 2 ^ g * 2 ^ E := by rw [h1, show n + (E - n) = E by omega]
    _ = i * 2 ^ n * (2 ^ (E - n) * 2 ^ g * 2 ^ E) := by simp only [Nat.pow_add]; ac_rfl
    _ ≤ m * j * (2 ^ (E - n) * 2 ^ g * 2 ^ E) := Nat.mul_le_mul_right _ h
    _ = m * 2 ^ (E - n) * 2 ^ g * (j * 2 ^ E) := by ac_rfl
    _ = m * 2 ^ (E - n) * 2 ^ g * d * 2 ^ B := by rw [← h2]; ac_rfl
theorem units_ge {E c d m i j : Nat} {A B : Nat} {n g f : Nat} (h1 : c * 2 ^ A = i * 2 ^ E) (h2 : d * 2 ^ B = j * 2 ^ E) (hn : n ≤ E) (hf : f + B = A + g + E) (h : m * j ≤ i * 2 ^ n) : m * 2 ^ (E - n) * 2 ^ g * d ≤ c * 2 ^ f := by
  refine Nat.le_of_mul_le_mul_right ?_ (Nat.two_pow_pos B)
  calc m * 2 ^ (E - n) * 2 ^ g * d * 2 ^ B = m * 2 ^ (E - n) * 2 ^ g * (d * 2 ^ B) := by ac_rfl
    _ = m * j * (2 ^ (E - n) * 2 ^ g * 2 ^ E) := by rw [h2]; ac_rfl
    _ ≤ i * 2 ^ n * (2 ^ (E - n) * 2 ^ g * 2 ^ E) := Nat.mul_le_mul_right _ h
    _ = i * 2 ^ (n + (E - n)) * 2 ^ g * 2 ^ E := by simp only [Nat.pow_add]; ac_rfl
    _ = c * 2 ^ A * 2 ^ g * 2 ^ E := by rw [h1, show n + (E - n) = E by omega]
    _ = c * 2 ^ (f + B) := by rw [hf]; simp only [Nat.pow_add]; ac_rfl
    _ = c * 2 ^ f * 2 ^ B := by rw [Nat.pow_add]; ac_rfl
theorem units_one {E c d A B F G : Nat} (h : d * 2 ^ B ≤ c * 2 ^ A) (hf : F + B = A + G + E) : 2 ^ E * 2 ^ G * d ≤ c * 2 ^ F := by
  refine Nat.le_of_mul_le_mul_right ?_ (Nat.two_pow_pos B)
  calc 2 ^ E * 2 ^ G * d * 2 ^ B = d * 2 ^ B * (2 ^ G * 2 ^ E) := by ac_rfl
    _ ≤ c * 2 ^ A * (2 ^ G * 2 ^ E) := Nat.mul_le_mul_right _ h
    _ = c * 2 ^ F * 2 ^ B := by rw [Nat.mul_assoc c, Nat.mul_assoc c, ← Nat.pow_add 2 F, hf]; simp only [Nat.pow_add]; ac_rfl
theorem ddiv_le {i j m : Int} {n : Nat} {x y V : UInt64} (hx : DInt i x) (hy : DInt j y) (hV : DY m n V) (hi : 0 ≤ i) (hj : 0 < j) (hm : 0 ≤ m) (hn : n ≤ 1074) (h : i * (2 ^ n : Nat) ≤ m * j) : zval b64 (val64 (FP.ddiv x y)) ≤ zval b64 (val64 V) := by
  have zV := hV.zval (by omega)
  obtain ⟨s, c, d, q, r, e, hd, hq, hr, h1, h2, h3, h4⟩ := ddiv_shape hx hy hi hj
  rw [e, zV]
  by_cases h0 : i = 0
  · have : roundRatio b64 s c d (q - r) = .fin s 0 b64.qmin := by rw [h4 h0]; rfl
    rw [this]
    have z : zval b64 (.fin s 0 b64.qmin) = 0 := by show signed s (inUnits 0 _ _) = 0; unfold inUnits; rw [Nat.zero_mul]; exact signed_zero s
    rw [z]
    exact Int.mul_nonneg hm (Int.natCast_nonneg _)
  · rw [h3 h0]
    have hle : zmag b64 (roundRatio b64 false c d (q - r)) ≤ zmag b64 (val64 V) := by
      refine zmag_roundRatio_le good_b64 (e0 := min b64.qmin (q - r)) hd (val64_fits V) hV.ne_nan (by omega) (by omega) ?_
      have zm : zmag b64 (val64 V) = m.natAbs * 2 ^ (1074 - n) := by
        have := congrArg Int.natAbs zV
        rw [show zval b64 (val64 V) = signed (sgn (val64 V)) (zmag b64 (val64 V)) from rfl, natAbs_signed, Int.natAbs_mul, Int.natAbs_natCast, show (1074 - (n : Int)).toNat = 1074 - n by omega] at this
        exact this
      rw [zm]
      unfold inUnits
      refine units_le (q := 0) (r := 0) h1 h2 hn ?_ ?_
      · rw [qmin_b64]; omega
      · have := congrArg Int.toNat (show ((i.natAbs * 2 ^ n : Nat) : Int) = i * (2 ^ n : Nat) by rw [Int.natCast_mul]; congr 1; omega)
        have hh : ((i.natAbs * 2 ^ n : Nat) : Int) ≤ ((m.natAbs * j.natAbs : Nat) : Int) := by
          rw [Int.natCast_mul, Int.natCast_mul, show (i.natAbs : Int) = i by omega, show (m.natAbs : Int) = m by omega, show (j.natAbs : Int) = j by omega]; exact h
        omega
    have zs : ∀ D : Datum, zval b64 D = signed (sgn D) (zmag b64 D) := fun _ => rfl
    rw [zs, sgn_roundRatio]
    rw [zs] at zV
    show ((zmag b64 (roundRatio b64 false c d (q - r)) : Nat) : Int) ≤ _
    have : ((zmag b64 (val64 V) : Nat) : Int) = m * ((2 ^ (1074 - (n : Int)).toNat : Nat) : Int) := by
      have := congrArg Int.natAbs zV
      rw [natAbs_signed, Int.natAbs_mul, Int.natAbs_natCast] at this
      rw [this, Int.natCast_mul, show (m.natAbs : Int) = m by omega]
    omega
theorem ddiv_ge {i j m : Int} {n : Nat} {x y V : UInt64} (hx : DInt i x) (hy : DInt j y) (hV : DY m n V) (hi : 0 ≤ i) (hj : 0 < j) (hm : 0 ≤ m) (hn : n ≤ 1074) (h : m * j ≤ i * (2 ^ n : Nat)) : zval b64 (val64 V) ≤ zval b64 (val64 (FP.ddiv x y)) := by
  have zV := hV.zval (by omega)
  obtain ⟨s, c, d, q, r, e, hd, hq, hr, h1, h2, h3, h4⟩ := ddiv_shape hx hy hi hj
  rw [e, zV]
  by_cases h0 : i = 0
  · have : roundRatio b64 s c d (q - r) = .fin s 0 b64.qmin := by rw [h4 h0]; rfl
    rw [this]
    have z : zval b64 (.fin s 0 b64.qmin) = 0 := by show signed s (inUnits 0 _ _) = 0; unfold inUnits; rw [Nat.zero_mul]; exact signed_zero s
    rw [z]
    rw [h0, Int.zero_mul] at h
    have hm0 : m = 0 := by
      rcases Int.lt_or_eq_of_le hm with a | a
      · have := Int.mul_pos a hj; omega
      · omega
    rw [hm0]; simp
  · rw [h3 h0]
    have hle : zmag b64 (val64 V) ≤ zmag b64 (roundRatio b64 false c d (q - r)) := by
      refine zmag_roundRatio_ge good_b64 (e0 := min b64.qmin (q - r)) hd (val64_fits V) (by omega) (by omega) ?_
      have zm : zmag b64 (val64 V) = m.natAbs * 2 ^ (1074 - n) := by
        have := congrArg Int.natAbs zV
        rw [show zval b64 (val64 V) = signed (sgn (val64 V)) (zmag b64 (val64 V)) from rfl, natAbs_signed, Int.natAbs_mul, Int.natAbs_natCast, show (1074 - (n : Int)).toNat = 1074 - n by omega] at this
        exact this
      rw [zm]
      unfold inUnits
      refine units_ge h1 h2 hn ?_ ?_
      · rw [qmin_b64]; omega
      · have hh : ((m.natAbs * j.natAbs : Nat) : Int) ≤ ((i.natAbs * 2 ^ n : Nat) : Int) := by
          rw [Int.natCast_mul, Int.natCast_mul, show (i.natAbs : Int) = i by omega, show (m.natAbs : Int) = m by omega, show (j.natAbs : Int) = j by omega]; exact h
        omega
    have zs : ∀ D : Datum, zval b64 D = signed (sgn D) (zmag b64 D) := fun _ => rfl
    rw [zs, sgn_roundRatio]
    rw [zs] at zV
    show _ ≤ ((zmag b64 (roundRatio b64 false c d (q - r)) : Nat) : Int)
    have : ((zmag b64 (val64 V) : Nat) : Int) = m * ((2 ^ (1074 - (n : Int)).toNat : Nat) : Int) := by
      have := congrArg Int.natAbs zV
      rw [natAbs_signed, Int.natAbs_mul, Int.natAbs_natCast] at this
      rw [this, Int.natCast_mul, show (m.natAbs : Int) = m by omega]
    omega
theorem ddiv_nn {i j : Int} {x y : UInt64} (hx : DInt i x) (hy : DInt j y) (hj : j ≠ 0) : NoNaN64 (FP.ddiv x y) := by
  obtain ⟨s, c, q, ex, -, -, -, -, -⟩ := (DY.of_int hx).units (by omega)
  obtain ⟨t, d, r, ey, hr, hy1, hy2, hy3, hy4⟩ := (DY.of_int hy).units (by omega)
  have hd : d ≠ 0 := fun z => hj (hy4.mp z)
  refine val64_no.mpr ?_
  rw [show val64 (FP.ddiv x y) = quotient b64 (val64 x) (val64 y) from val64_ddiv x y, ex, ey]
  simp only [quotient, if_neg hd]
  exact roundRatio_ne_nan _ _ _ _ _
theorem DY.cast {i i' k k' : Int} {a : UInt64} (h : DY i k a) (hi : i = i') (hk : k = k') : DY i' k' a := by subst hi hk; exact h
theorem pow_i (t e : Nat) : ((2 ^ (t + e) : Nat) : Int) = ((2 ^ t : Nat) : Int) * ((2 ^ e : Nat) : Int) := by rw [Nat.pow_add, Int.natCast_mul]
theorem min_dy {i j k : Int} {x y : UInt64} (hx : DY i k x) (hy : DY j k y) : DY (if j < i then j else i) k (Jvm.Native.java_lang_Math.nans.pick64 false x y) := by
  have h := dcmp_dy hx hy
  rw [compare_ite] at h
  unfold Jvm.Native.java_lang_Math.nans.pick64
  rw [h]
  by_cases a : i < j
  · rw [if_pos a, if_neg (by omega)]; exact hx
  · by_cases b : i = j
    · subst b
      rw [if_neg a, if_pos rfl, if_neg a]
      simp only
      split <;> assumption
    · rw [if_neg a, if_neg b, if_pos (by omega)]; exact hy
theorem lit_dy {n : Int32} {b : UInt64} (h : Core.i2d n = b) : DInt n.toInt b := h ▸ i2d_int n
/-- a long not below 0, as a double -/
theorem l2d_pos {a : Int64} (h : 0 ≤ a.toInt) : ∃ c q, val64 (FP.l2d a) = .fin false c q ∧ -1074 ≤ q := by
  obtain ⟨c, q, e⟩ := l2d_shape a
  rw [show decide (a.toInt < 0) = false by simp; omega] at e
  have hf := val64_fits (FP.l2d a)
  rw [show FP.l2d a = Core.l2d a from rfl, e] at hf
  exact ⟨c, q, e, by have := hf.2.1; rw [qmin_b64] at this; exact this⟩
theorem zval_fin {c : Nat} {q : Int} (s : Bool) : zval b64 (.fin s c q) = signed s (c * 2 ^ (q + 1074).toNat) := by
  show signed s (inUnits c q b64.qmin) = _
  unfold inUnits
  rw [qmin_b64, show q - -1074 = q + 1074 by omega]
theorem l2d_mono {a b : Int64} (h : a.toInt ≤ b.toInt) (ha : 0 ≤ a.toInt) : zval b64 (val64 (FP.l2d a)) ≤ zval b64 (val64 (FP.l2d b)) := by
  rcases Int.lt_or_eq_of_le h with hlt | heq
  · obtain ⟨c, q, e1, hq⟩ := l2d_pos ha
    obtain ⟨c', q', e2, hq'⟩ := l2d_pos (a := b) (by omega)
    have f1 := val64_fits (FP.l2d a)
    have f2 := val64_fits (FP.l2d b)
    rw [e1] at f1
    rw [e2] at f2
    have r1 : roundRatio b64 false a.toInt.natAbs 1 0 = .fin false c q := by
      rw [← e1, show val64 (FP.l2d a) = round b64 (ofInt a.toInt) from val64_l2d a]
      unfold ofInt
      rw [show decide (a.toInt < 0) = false by simp; omega]; rfl
    have r2 : roundRatio b64 false b.toInt.natAbs 1 0 = .fin false c' q' := by
      rw [← e2, show val64 (FP.l2d b) = round b64 (ofInt b.toInt) from val64_l2d b]
      unfold ofInt
      rw [show decide (b.toInt < 0) = false by simp; omega]; rfl
    have n1 := roundRatio_nearest good_b64 (e0 := b64.qmin) (by decide) r1 f2.1 f2.2.1 (by omega) (by rw [qmin_b64]; omega)
    have n2 := roundRatio_nearest good_b64 (e0 := b64.qmin) (by decide) r2 f1.1 f1.2.1 (by omega) (by rw [qmin_b64]; omega)
    rw [e1, e2]
    show signed false (inUnits c q b64.qmin) ≤ signed false (inUnits c' q' b64.qmin)
    show ((inUnits c q b64.qmin : Nat) : Int) ≤ ((inUnits c' q' b64.qmin : Nat) : Int)
    have hs : inUnits a.toInt.natAbs 0 b64.qmin < inUnits b.toInt.natAbs 0 b64.qmin := by
      unfold inUnits
      exact Nat.mul_lt_mul_of_pos_right (by omega) (Nat.two_pow_pos _)
    unfold distance at n1 n2
    generalize inUnits a.toInt.natAbs 0 b64.qmin = A at *
    generalize inUnits b.toInt.natAbs 0 b64.qmin = B at *
    generalize inUnits c q b64.qmin = X at *
    generalize inUnits c' q' b64.qmin = Y at *
    omega
  · rw [show a = b from Int64.toInt_inj.mp heq]; exact Int.le_refl _
theorem quo_shape {x y : UInt64} {c d : Nat} {q r : Int} (hx : val64 x = .fin false c q) (hy : val64 y = .fin false d r) (hd : d ≠ 0) : val64 (FP.ddiv x y) = roundRatio b64 false c d (q - r) := by
  rw [show val64 (FP.ddiv x y) = quotient b64 (val64 x) (val64 y) from val64_ddiv x y, hx, hy]; simp only [quotient, if_neg hd]; rfl
theorem quo_nn {x y : UInt64} {c d : Nat} {q r : Int} (hx : val64 x = .fin false c q) (hy : val64 y = .fin false d r) (hd : d ≠ 0) : NoNaN64 (FP.ddiv x y) := by
  refine val64_no.mpr ?_; rw [quo_shape hx hy hd]; exact roundRatio_ne_nan _ _ _ _ _
theorem quo_ge0 {x y : UInt64} {c d : Nat} {q r : Int} (hx : val64 x = .fin false c q) (hy : val64 y = .fin false d r) (hd : d ≠ 0) : 0 ≤ zval b64 (val64 (FP.ddiv x y)) := by
  rw [quo_shape hx hy hd]
  show 0 ≤ signed (sgn _) _
  rw [sgn_roundRatio]
  exact Int.natCast_nonneg _
theorem quo_ge1 {x y : UInt64} {c d : Nat} {q r : Int} (hx : val64 x = .fin false c q) (hy : val64 y = .fin false d r) (hd : d ≠ 0) (hq : -1074 ≤ q) (hr : -1074 ≤ r) (h : d * 2 ^ (r + 1074).toNat ≤ c * 2 ^ (q + 1074).toNat) : zval b64 (val64 FP.dconst1) ≤ zval b64 (val64 (FP.ddiv x y)) := by
  have z1 : zval b64 (val64 FP.dconst1) = 1 * ((2 ^ (1074 - (0 : Int)).toNat : Nat) : Int) := (DY.of_int dint_c1).zval (by omega)
  have m1 : zmag b64 (val64 FP.dconst1) = 2 ^ 1074 := by
    have := congrArg Int.natAbs z1
    rw [show zval b64 (val64 FP.dconst1) = signed (sgn (val64 FP.dconst1)) (zmag b64 (val64 FP.dconst1)) from rfl, natAbs_signed, Int.one_mul, Int.natAbs_natCast] at this
    exact this
  rw [quo_shape hx hy hd]
  have hle : zmag b64 (val64 FP.dconst1) ≤ zmag b64 (roundRatio b64 false c d (q - r)) := by
    refine zmag_roundRatio_ge good_b64 (e0 := min b64.qmin (q - r)) (Nat.pos_of_ne_zero hd) (val64_fits _) (by omega) (by omega) ?_
    rw [m1]
    unfold inUnits
    have hf : (q - r - min b64.qmin (q - r)).toNat + (r + 1074).toNat = (q + 1074).toNat + (b64.qmin - min b64.qmin (q - r)).toNat + 1074 := by rw [qmin_b64]; omega
    exact units_one h hf
  show signed (sgn (val64 FP.dconst1)) (zmag b64 (val64 FP.dconst1)) ≤ signed (sgn _) _
  rw [sgn_roundRatio, show sgn (val64 FP.dconst1) = false by decide +kernel]
  show ((zmag b64 (val64 FP.dconst1) : Nat) : Int) ≤ ((zmag b64 (roundRatio b64 false c d (q - r)) : Nat) : Int)
  omega
/-- the quotient of a whole number by one above 0 is no greater, in magnitude, than m / 2^n, where the numbers are so -/
theorem ddiv_abs {i j m : Int} {n : Nat} {x y V : UInt64} (hx : DInt i x) (hy : DInt j y) (hV : DY m n V) (hj : 0 < j) (hm : 0 ≤ m) (hn : n ≤ 1074) (h : (i.natAbs : Int) * (2 ^ n : Nat) ≤ m * j) : zmag b64 (val64 (FP.ddiv x y)) ≤ zmag b64 (val64 V) ∧ val64 (FP.ddiv x y) ≠ .nan ∧ (0 < i → sgn (val64 (FP.ddiv x y)) = false) ∧ (i = 0 → zmag b64 (val64 (FP.ddiv x y)) = 0) := by
  have zV := hV.zval (by omega)
  obtain ⟨s, c, q, ex, hq, h1, hx2, hx3, hx4⟩ := (DY.of_int hx).units (by omega)
  obtain ⟨t, d, r, ey, hr, h2, hy2, hy3, hy4⟩ := (DY.of_int hy).units (by omega)
  have hd : d ≠ 0 := fun z => by have := hy4.mp z; omega
  have e : val64 (FP.ddiv x y) = roundRatio b64 (s != t) c d (q - r) := by rw [show val64 (FP.ddiv x y) = quotient b64 (val64 x) (val64 y) from val64_ddiv x y, ex, ey]; simp only [quotient, if_neg hd]
  rw [e]
  refine ⟨?_, roundRatio_ne_nan _ _ _ _ _, fun hi => ?_, fun hi => ?_⟩
  · refine zmag_roundRatio_le good_b64 (e0 := min b64.qmin (q - r)) (Nat.pos_of_ne_zero hd) (val64_fits V) hV.ne_nan (by omega) (by omega) ?_
    have zm : zmag b64 (val64 V) = m.natAbs * 2 ^ (1074 - n) := by
      have := congrArg Int.natAbs zV
      rw [show zval b64 (val64 V) = signed (sgn (val64 V)) (zmag b64 (val64 V)) from rfl, natAbs_signed, Int.natAbs_mul, Int.natAbs_natCast, show (1074 - (n : Int)).toNat = 1074 - n by omega] at this
      exact this
    rw [zm]
    unfold inUnits
    refine units_le (q := 0) (r := 0) h1 h2 hn ?_ ?_
    · rw [qmin_b64]; omega
    · have hh : ((i.natAbs * 2 ^ n : Nat) : Int) ≤ ((m.natAbs * j.natAbs : Nat) : Int) := by
        rw [Int.natCast_mul, Int.natCast_mul, show (m.natAbs : Int) = m by omega, show (j.natAbs : Int) = j by omega]; exact h
      omega
  · rw [sgn_roundRatio, hx3 (by omega), hy3 (by omega)]; simp; omega
  · rw [hx4.mpr hi]; show inUnits 0 _ _ = 0; unfold inUnits; exact Nat.zero_mul _
theorem fin_of_zmag {x V : UInt64} (hn : val64 x ≠ .nan) (hV : ∃ i k, DY i k V) (h : zmag b64 (val64 x) ≤ zmag b64 (val64 V)) : Fin64 x := by
  obtain ⟨i, k, hV⟩ := hV
  refine fin64_core.mpr ?_
  obtain ⟨s, c, q, e, -⟩ := hV.fin
  have h2 := zmag_lt_top good_b64 (e ▸ val64_fits V)
  rw [e] at h
  cases hx : val64 x with
  | nan => exact absurd hx hn
  | inf s' => rw [hx] at h; simp only [zmag] at h h2; omega
  | fin s' c' q' => exact ⟨s', c', q', hx⟩
theorem infin_no {v : UInt64} (h : Fin64 v) : ¬ ((0 : Int32) < cmpValue (FP.dcmp (v &&& 0x7fffffffffffffff) 9218868437227405311) .l) := by
  rcases (le_max (fin64_core.mp h).notNaN).mpr (fin64_core.mp h) with q | q
  · rw [show FP.dcmp (v &&& 0x7fffffffffffffff) 9218868437227405311 = some .lt from q]; decide
  · rw [show FP.dcmp (v &&& 0x7fffffffffffffff) 9218868437227405311 = some .eq from q]; decide
theorem cmpZv {x y : UInt64} (hx : NoNaN64 x) (hy : NoNaN64 y) (o : CmpOp) : cmpValue (FP.dcmp x y) o = cmpZ (zval b64 (val64 x)) (zval b64 (val64 y)) := by
  rw [show FP.dcmp x y = _ from dcmp_zval (val64_no.mp hx) (val64_no.mp hy), compare_ite]
  unfold cmpZ
  split
  · rfl
  · split <;> rfl
/-- a product of two doubles that are not below 0 is not below 0 -/
theorem dmul_ge0 {x y : UInt64} {c d : Nat} {q r : Int} (hx : val64 x = .fin false c q) (hy : val64 y = .fin false d r) : 0 ≤ zval b64 (val64 (FP.dmul x y)) := by
  rw [show val64 (FP.dmul x y) = round b64 (exactProduct (val64 x) (val64 y)) from val64_dmul x y, hx, hy]
  show 0 ≤ signed (sgn (roundRatio b64 (false != false) (c * d) 1 (q + r))) _
  rw [sgn_roundRatio]
  exact Int.natCast_nonneg _
theorem dneg_dy {i k : Int} {a : UInt64} (h : DY i k a) : DY (-i) k (FP.dneg a) := by
  have hn : Core.dIsNaN a = false := (notNaN_iff a).mpr h.ne_nan
  rw [Jvm.FP.dneg_core hn]
  unfold DY at *
  rw [show val64 (Core.dneg a) = negate (val64 a) from val64_dneg a, sc_negate]
  exact whole_negate h
theorem DY.fin64 {i k : Int} {a : UInt64} (h : DY i k a) : Fin64 a := by
  obtain ⟨s, c, q, e, -⟩ := h.fin
  exact fin64_core.mpr ⟨s, c, q, e⟩
end Fp
end Jvm.OwnW
namespace Jvm.Pilot.@@N@@
open Jvm Jvm.ClassFile Sem Op Lib Jvm.Free Jvm.Stand Jvm.LawKit Jvm.RoadKit Jvm.OwnW Bundle Jvm.Pilot.@@N@@.Jvm.D
open Jvm.FP.Core (DInt i2d_int l2d_int dadd_int dsub_int dmul_int dneg_int zval b64 val64 dcmp_zval compare_ite i2d_ne_zero DInt_ne_nan dcmp_int dcmp_l2d)

theorem own_av (p : Int32) : 1 ≤ ((p &&& (1048575 : Int32)).toInt64 + (1 : Int64)).toInt ∧ ((p &&& (1048575 : Int32)).toInt64 + (1 : Int64)).toInt ≤ 1048576 := by
  have h1 := c_and p 1048575 (by decide)
  have h2 := c_i2l (p &&& 1048575)
  have h3 := c_ladd (p &&& 1048575).toInt64 1
  have h4 := rng64 ((p &&& 1048575).toInt64 + 1)
  have e1 : (1 : Int64).toInt = 1 := by decide
  have e2 : (1048575 : Int32).toInt = 1048575 := by decide
  omega
theorem own_bv (p : Int32) : 0 ≤ ((p &&& (1048575 : Int32)).toInt64).toInt ∧ ((p &&& (1048575 : Int32)).toInt64).toInt ≤ 1048575 := by
  have h1 := c_and p 1048575 (by decide)
  have h2 := c_i2l (p &&& 1048575)
  have e2 : (1048575 : Int32).toInt = 1048575 := by decide
  omega
theorem own_kv (p : Int32) : 0 ≤ ((p &&& (2147483647 : Int32)) - ((p &&& (2147483647 : Int32)) / (257 : Int32)) * (257 : Int32)).toInt ∧ ((p &&& (2147483647 : Int32)) - ((p &&& (2147483647 : Int32)) / (257 : Int32)) * (257 : Int32)).toInt ≤ 256 := by
  rw [irem_eq_mod]
  have h1 := c_and p 2147483647 (by decide)
  have h2 := (c_irem (p &&& 2147483647) 257 257 (by decide)).1 h1.1
  omega
theorem own_lm2 {x y : Int64} {A B : Nat} (hx : x.toInt.natAbs ≤ A) (hy : y.toInt.natAbs ≤ B) (h : A * B ≤ 4611686018427387904) : (x * y).toInt = x.toInt * y.toInt ∧ (x * y).toInt.natAbs ≤ A * B := by
  have m1 := c_lmul x y
  have m2 := rng64 (x * y)
  have m3 := nab_mul hx hy
  have e : (x * y).toInt = x.toInt * y.toInt := by
    generalize A * B = C at *
    omega
  exact ⟨e, by rw [e]; exact m3⟩
theorem own_ex (av bv : Int64) (kv : Int32) (hav : 1 ≤ av.toInt ∧ av.toInt ≤ 1048576) (hbv : 0 ≤ bv.toInt ∧ bv.toInt ≤ 1048575) (hkv : 0 ≤ kv.toInt ∧ kv.toInt ≤ 256) : ((av * bv) * ((256 : Int32) - kv).toInt64).toInt = av.toInt * bv.toInt * (256 - kv.toInt) ∧ (av.toInt * bv.toInt).natAbs ≤ 1099511627776 ∧ (av.toInt * bv.toInt * (256 - kv.toInt)).natAbs ≤ 281474976710656 := by
  have a1 := own_lm2 (x := av) (y := bv) (A := 1048576) (B := 1048576) (by omega) (by omega) (by decide)
  have k1 := c_isub 256 kv
  have k2 := rng32 (256 - kv)
  have e2 : (256 : Int32).toInt = 256 := by decide
  have k3 := c_i2l (256 - kv)
  have k4 : ((256 : Int32) - kv).toInt64.toInt = 256 - kv.toInt := by omega
  have a2 := own_lm2 (x := av * bv) (y := ((256 : Int32) - kv).toInt64) (A := 1099511627776) (B := 256) a1.2 (by omega) (by decide)
  have b1 := a1.2
  rw [a1.1] at b1
  have b2 := a2.2
  rw [a2.1, a1.1, k4] at b2
  exact ⟨by rw [a2.1, a1.1, k4], b1, b2⟩
theorem own_l (bv : Int64) (hbv : 0 ≤ bv.toInt ∧ bv.toInt ≤ 1048575) : DY bv.toInt (4 : Nat) (FP.ddiv (FP.l2d bv) (4625196817309499392 : UInt64)) := by
  have e1 : ((2 ^ (4 + 0) : Nat) : Int) = 16 := by decide
  have e2 : ((2 ^ 0 : Nat) : Int) = 1 := by decide
  have d : DInt 16 4625196817309499392 := lit_dy (n := 16) (by decide +kernel)
  exact ddiv_dy (k := 0) (l := 0) (n := 4) (m := bv.toInt) (DY.of_int (l2d_int (by omega))) (DY.of_int d) (by decide) (by omega) (by omega) (by omega) (by omega) (by rw [e1, e2, Int.mul_one])
theorem own_u (kv : Int32) (hkv : 0 ≤ kv.toInt ∧ kv.toInt ≤ 256) : DY kv.toInt (8 : Nat) (FP.ddiv (FP.i2d kv) (4643211215818981376 : UInt64)) := by
  have e1 : ((2 ^ (8 + 0) : Nat) : Int) = 256 := by decide
  have e2 : ((2 ^ 0 : Nat) : Int) = 1 := by decide
  have d : DInt 256 4643211215818981376 := lit_dy (n := 256) (by decide +kernel)
  exact ddiv_dy (k := 0) (l := 0) (n := 8) (m := kv.toInt) (DY.of_int (i2d_int kv)) (DY.of_int d) (by decide) (by omega) (by omega) (by omega) (by omega) (by rw [e1, e2, Int.mul_one])
theorem own_one : DY 256 8 FP.dconst1 := ((DY.of_int dint_c1).up 8).cast (by decide) (by decide)
theorem own_z4 : DY 0 4 FP.dconst0 := ((DY.of_int dint_c0).up 4).cast (by decide) (by decide)
theorem own_z8 : DY 0 8 FP.dconst0 := ((DY.of_int dint_c0).up 8).cast (by decide) (by decide)
theorem own_d4 : DY 1 (-12) 4661225614328463360 := by
  have e : Jvm.FP.Core.val64 4661225614328463360 = .fin false 4503599627370496 (-40) := by first | rfl | decide +kernel
  unfold DY
  rw [e]
  first | rfl | decide +kernel | (show Jvm.FP.Core.signed false _ = _; decide +kernel)
theorem own_p53 : (2 : Nat) ^ 53 = 9007199254740992 := by decide
theorem own_all (av bv : Int64) (kv : Int32) (hav : 1 ≤ av.toInt ∧ av.toInt ≤ 1048576) (hbv : 0 ≤ bv.toInt ∧ bv.toInt ≤ 1048575) (hkv : 0 ≤ kv.toInt ∧ kv.toInt ≤ 256) : (Jvm.Free.Fl.NoNaN64 (FP.ddiv (FP.l2d bv) (4625196817309499392 : UInt64))) ∧ (Jvm.Free.Fl.NoNaN64 (FP.ddiv (FP.i2d kv) (4643211215818981376 : UInt64))) ∧ (Jvm.Free.Fl.Fin64 (FP.l2d av)) ∧ ((0 : Int32) < cmpValue (FP.dcmp (FP.l2d av) FP.dconst0) .l) ∧ (Jvm.Free.Fl.Fin64 (FP.ddiv (FP.l2d bv) (4625196817309499392 : UInt64))) ∧ (¬ (cmpValue (FP.dcmp (FP.ddiv (FP.l2d bv) (4625196817309499392 : UInt64)) FP.dconst0) .l < (0 : Int32))) ∧ (Jvm.Free.Fl.Fin64 (FP.ddiv (FP.i2d kv) (4643211215818981376 : UInt64))) ∧ (¬ (cmpValue (FP.dcmp (FP.ddiv (FP.i2d kv) (4643211215818981376 : UInt64)) FP.dconst0) .l < (0 : Int32))) ∧ (¬ ((0 : Int32) < cmpValue (FP.dcmp (FP.ddiv (FP.i2d kv) (4643211215818981376 : UInt64)) FP.dconst1) .l)) ∧ (Jvm.Free.Fl.NoNaN64 (FP.dmul (FP.l2d av) (FP.ddiv (FP.l2d bv) (4625196817309499392 : UInt64)))) ∧ (Jvm.Free.Fl.NoNaN64 (FP.dsub FP.dconst1 (FP.ddiv (FP.i2d kv) (4643211215818981376 : UInt64)))) ∧ (Jvm.Free.Fl.NoNaN64 (FP.dmul (FP.dmul (FP.l2d av) (FP.ddiv (FP.l2d bv) (4625196817309499392 : UInt64))) (FP.dsub FP.dconst1 (FP.ddiv (FP.i2d kv) (4643211215818981376 : UInt64))))) ∧ (Jvm.Free.Fl.NoNaN64 (FP.dmul (FP.dmul (FP.dmul (FP.l2d av) (FP.ddiv (FP.l2d bv) (4625196817309499392 : UInt64))) (FP.dsub FP.dconst1 (FP.ddiv (FP.i2d kv) (4643211215818981376 : UInt64)))) (4661225614328463360 : UInt64))) ∧ (cmpValue (FP.dcmp (FP.dmul (FP.dmul (FP.dmul (FP.l2d av) (FP.ddiv (FP.l2d bv) (4625196817309499392 : UInt64))) (FP.dsub FP.dconst1 (FP.ddiv (FP.i2d kv) (4643211215818981376 : UInt64)))) (4661225614328463360 : UInt64)) (FP.l2d ((av * bv) * ((256 : Int32) - kv).toInt64))) .l = (0 : Int32)) := by
  have dV : DInt av.toInt (FP.l2d av) := l2d_int (by omega)
  have dL : DY bv.toInt 4 (FP.ddiv (FP.l2d bv) (4625196817309499392 : UInt64)) := own_l bv hbv
  have dU : DY kv.toInt 8 (FP.ddiv (FP.i2d kv) (4643211215818981376 : UInt64)) := own_u kv hkv
  obtain ⟨x1, x2, x3⟩ := own_ex av bv kv hav hbv hkv
  have dA : DY (av.toInt * bv.toInt) 4 (FP.dmul (FP.l2d av) (FP.ddiv (FP.l2d bv) (4625196817309499392 : UInt64))) := (dmul_dy (DY.of_int dV) dL (by rw [own_p53]; omega) (by decide) (by decide)).cast rfl (by decide)
  have dS : DY (256 - kv.toInt) 8 (FP.dsub FP.dconst1 (FP.ddiv (FP.i2d kv) (4643211215818981376 : UInt64))) := dsub_dy own_one dU (by rw [own_p53]; omega) (by decide) (by decide)
  have dN : DY (av.toInt * bv.toInt * (256 - kv.toInt)) 12 (FP.dmul (FP.dmul (FP.l2d av) (FP.ddiv (FP.l2d bv) (4625196817309499392 : UInt64))) (FP.dsub FP.dconst1 (FP.ddiv (FP.i2d kv) (4643211215818981376 : UInt64)))) := (dmul_dy dA dS (by rw [own_p53]; omega) (by decide) (by decide)).cast rfl (by decide)
  have dE : DInt (av.toInt * bv.toInt * (256 - kv.toInt)) (FP.l2d ((av * bv) * ((256 : Int32) - kv).toInt64)) := by
    have q := l2d_int (a := ((av * bv) * ((256 : Int32) - kv).toInt64)) (by rw [x1]; omega)
    rwa [x1] at q
  have dM : DInt (av.toInt * bv.toInt * (256 - kv.toInt)) (FP.dmul (FP.dmul (FP.dmul (FP.l2d av) (FP.ddiv (FP.l2d bv) (4625196817309499392 : UInt64))) (FP.dsub FP.dconst1 (FP.ddiv (FP.i2d kv) (4643211215818981376 : UInt64)))) (4661225614328463360 : UInt64)) := ((dmul_dy dN own_d4 (by rw [Int.mul_one, own_p53]; omega) (by decide) (by decide)).cast (Int.mul_one _) (by decide)).to_int
  exact ⟨dL.nn, dU.nn, (DY.of_int dV).fin64, (by rw [dcmpZ dV dint_c0, cmpZ_gt]; omega), dL.fin64, (by rw [dcmpZ_dy dL own_z4, cmpZ_lt]; omega), dU.fin64, (by rw [dcmpZ_dy dU own_z8, cmpZ_lt]; omega), (by rw [dcmpZ_dy dU own_one, cmpZ_gt]; omega), dA.nn, dS.nn, dN.nn, nnD dM, (by rw [dcmpZ dM dE]; exact (cmpZ_eq _ _).mpr rfl)⟩
theorem tw0 {a0 : Array Value} {Z : State} (hw : ∀ d ∈ tables_1, d.before a0 Z = true) : (Jvm.Cond.constant "com/example/late_harvest/lateharvest/pricing/PrincipalLimitNetAmountPinLaw" (7 : Nat) (1048575 : Int32)).before a0 Z = true := hw _ (List.mem_of_getElem? (i := 0) rfl)
theorem tw1 {a0 : Array Value} {Z : State} (hw : ∀ d ∈ tables_1, d.before a0 Z = true) : (Jvm.Cond.constant "com/example/late_harvest/lateharvest/pricing/PrincipalLimitNetAmountPinLaw" (8 : Nat) (2147483647 : Int32)).before a0 Z = true := hw _ (List.mem_of_getElem? (i := 1) rfl)
theorem tw2 {a0 : Array Value} {Z : State} (hw : ∀ d ∈ tables_1, d.before a0 Z = true) : (Jvm.Cond.constantDouble "com/example/late_harvest/lateharvest/pricing/PrincipalLimitNetAmountPinLaw" (9 : Nat) (4625196817309499392 : UInt64)).before a0 Z = true := hw _ (List.mem_of_getElem? (i := 2) rfl)
theorem tw3 {a0 : Array Value} {Z : State} (hw : ∀ d ∈ tables_1, d.before a0 Z = true) : (Jvm.Cond.constantDouble "com/example/late_harvest/lateharvest/pricing/PrincipalLimitNetAmountPinLaw" (11 : Nat) (4643211215818981376 : UInt64)).before a0 Z = true := hw _ (List.mem_of_getElem? (i := 3) rfl)
theorem tw4 {a0 : Array Value} {Z : State} (hw : ∀ d ∈ tables_1, d.before a0 Z = true) : (Jvm.Cond.classLink "com/example/late_harvest/lateharvest/pricing/PrincipalLimitNetAmountPinLaw" (13 : Nat) "com/example/late_harvest/lateharvest/pricing/PrincipalLimit").before a0 Z = true := hw _ (List.mem_of_getElem? (i := 4) rfl)
theorem tw5 {a0 : Array Value} {Z : State} (hw : ∀ d ∈ tables_1, d.before a0 Z = true) : (Jvm.Cond.instantiable "com/example/late_harvest/lateharvest/pricing/PrincipalLimit" (3 : Nat)).before a0 Z = true := hw _ (List.mem_of_getElem? (i := 5) rfl)
theorem tw6 {a0 : Array Value} {Z : State} (hw : ∀ d ∈ tables_1, d.before a0 Z = true) : (Jvm.Cond.initialized "com/example/late_harvest/lateharvest/pricing/PrincipalLimit").before a0 Z = true := hw _ (List.mem_of_getElem? (i := 6) rfl)
theorem tw7 {a0 : Array Value} {Z : State} (hw : ∀ d ∈ tables_1, d.before a0 Z = true) : (Jvm.Cond.methodLink "com/example/late_harvest/lateharvest/pricing/PrincipalLimitNetAmountPinLaw" (15 : Nat) ({ cls := "com/example/late_harvest/lateharvest/pricing/PrincipalLimit", name := "<init>", desc := "(DDD)V" } : Jvm.MethodName)).before a0 Z = true := hw _ (List.mem_of_getElem? (i := 7) rfl)
theorem tw8 {a0 : Array Value} {Z : State} (hw : ∀ d ∈ tables_1, d.before a0 Z = true) : (Jvm.Cond.instanceMethod ({ cls := "com/example/late_harvest/lateharvest/pricing/PrincipalLimit", name := "<init>", desc := "(DDD)V" } : Jvm.MethodName)).before a0 Z = true := hw _ (List.mem_of_getElem? (i := 8) rfl)
theorem tw9 {a0 : Array Value} {Z : State} (hw : ∀ d ∈ tables_1, d.before a0 Z = true) : (Jvm.Cond.code ({ cls := "com/example/late_harvest/lateharvest/pricing/PrincipalLimit", name := "<init>", desc := "(DDD)V" } : Jvm.MethodName) prog_20_method_1_code (7 : Nat) (Option.none : Option Jvm.ClassFile.FieldType)).before a0 Z = true := hw _ (List.mem_of_getElem? (i := 9) rfl)
theorem tw10 {a0 : Array Value} {Z : State} (hw : ∀ d ∈ tables_1, d.before a0 Z = true) : (Jvm.Cond.methodLink "com/example/late_harvest/lateharvest/pricing/PrincipalLimit" (1 : Nat) ({ cls := "java/lang/Record", name := "<init>", desc := "()V" } : Jvm.MethodName)).before a0 Z = true := hw _ (List.mem_of_getElem? (i := 10) rfl)
theorem tw11 {a0 : Array Value} {Z : State} (hw : ∀ d ∈ tables_1, d.before a0 Z = true) : (Jvm.Cond.instanceMethod ({ cls := "java/lang/Record", name := "<init>", desc := "()V" } : Jvm.MethodName)).before a0 Z = true := hw _ (List.mem_of_getElem? (i := 11) rfl)
theorem tw13 {a0 : Array Value} {Z : State} (hw : ∀ d ∈ tables_1, d.before a0 Z = true) : (Jvm.Cond.initialized "java/lang/Record").before a0 Z = true := hw _ (List.mem_of_getElem? (i := 13) rfl)
theorem tw14 {a0 : Array Value} {Z : State} (hw : ∀ d ∈ tables_1, d.before a0 Z = true) : (Jvm.Cond.code ({ cls := "java/lang/Record", name := "<init>", desc := "()V" } : Jvm.MethodName) jdk_30_method_1_code (1 : Nat) (Option.none : Option Jvm.ClassFile.FieldType)).before a0 Z = true := hw _ (List.mem_of_getElem? (i := 14) rfl)
theorem tw15 {a0 : Array Value} {Z : State} (hw : ∀ d ∈ tables_1, d.before a0 Z = true) : (Jvm.Cond.methodLink "java/lang/Record" (1 : Nat) ({ cls := "java/lang/Object", name := "<init>", desc := "()V" } : Jvm.MethodName)).before a0 Z = true := hw _ (List.mem_of_getElem? (i := 15) rfl)
theorem tw16 {a0 : Array Value} {Z : State} (hw : ∀ d ∈ tables_1, d.before a0 Z = true) : (Jvm.Cond.instanceMethod ({ cls := "java/lang/Object", name := "<init>", desc := "()V" } : Jvm.MethodName)).before a0 Z = true := hw _ (List.mem_of_getElem? (i := 16) rfl)
theorem tw17 {a0 : Array Value} {Z : State} (hw : ∀ d ∈ tables_1, d.before a0 Z = true) : (Jvm.Cond.code ({ cls := "java/lang/Object", name := "<init>", desc := "()V" } : Jvm.MethodName) object_method_1_code (1 : Nat) (Option.none : Option Jvm.ClassFile.FieldType)).before a0 Z = true := hw _ (List.mem_of_getElem? (i := 17) rfl)
theorem tw18 {a0 : Array Value} {Z : State} (hw : ∀ d ∈ tables_1, d.before a0 Z = true) : (Jvm.Cond.stringLink "com/example/late_harvest/lateharvest/pricing/PrincipalLimit" (7 : Nat) "property value").before a0 Z = true := hw _ (List.mem_of_getElem? (i := 18) rfl)
theorem tw19 {a0 : Array Value} {Z : State} (hw : ∀ d ∈ tables_1, d.before a0 Z = true) : (Jvm.Cond.initialized "java/lang/String").before a0 Z = true := hw _ (List.mem_of_getElem? (i := 19) rfl)
theorem tw20 {a0 : Array Value} {Z : State} (hw : ∀ d ∈ tables_1, d.before a0 Z = true) : (Jvm.Cond.instantiable "java/lang/String" (4 : Nat)).before a0 Z = true := hw _ (List.mem_of_getElem? (i := 20) rfl)
theorem tw21 {a0 : Array Value} {Z : State} (hw : ∀ d ∈ tables_1, d.before a0 Z = true) : (Jvm.Cond.arrayClass Jvm.ClassFile.FieldType.byte).before a0 Z = true := hw _ (List.mem_of_getElem? (i := 21) rfl)
theorem tw22 {a0 : Array Value} {Z : State} (hw : ∀ d ∈ tables_1, d.before a0 Z = true) : (Jvm.Cond.laysFinal "java/lang/String" "java/lang/String" "value" "[B").before a0 Z = true := hw _ (List.mem_of_getElem? (i := 22) rfl)
theorem tw23 {a0 : Array Value} {Z : State} (hw : ∀ d ∈ tables_1, d.before a0 Z = true) : (Jvm.Cond.laysFinal "java/lang/String" "java/lang/String" "coder" "B").before a0 Z = true := hw _ (List.mem_of_getElem? (i := 23) rfl)
theorem tw24 {a0 : Array Value} {Z : State} (hw : ∀ d ∈ tables_1, d.before a0 Z = true) : (Jvm.Cond.soleField "java/lang/String" "value").before a0 Z = true := hw _ (List.mem_of_getElem? (i := 24) rfl)
theorem tw25 {a0 : Array Value} {Z : State} (hw : ∀ d ∈ tables_1, d.before a0 Z = true) : (Jvm.Cond.soleField "java/lang/String" "coder").before a0 Z = true := hw _ (List.mem_of_getElem? (i := 25) rfl)
theorem tw26 {a0 : Array Value} {Z : State} (hw : ∀ d ∈ tables_1, d.before a0 Z = true) : (Jvm.Cond.methodLink "com/example/late_harvest/lateharvest/pricing/PrincipalLimit" (9 : Nat) ({ cls := "com/example/late_harvest/lateharvest/pricing/Loan", name := "requirePositive", desc := "(Ljava/lang/String;D)V" } : Jvm.MethodName)).before a0 Z = true := hw _ (List.mem_of_getElem? (i := 26) rfl)
theorem tw27 {a0 : Array Value} {Z : State} (hw : ∀ d ∈ tables_1, d.before a0 Z = true) : (Jvm.Cond.static ({ cls := "com/example/late_harvest/lateharvest/pricing/Loan", name := "requirePositive", desc := "(Ljava/lang/String;D)V" } : Jvm.MethodName)).before a0 Z = true := hw _ (List.mem_of_getElem? (i := 27) rfl)
theorem tw28 {a0 : Array Value} {Z : State} (hw : ∀ d ∈ tables_1, d.before a0 Z = true) : (Jvm.Cond.initialized "com/example/late_harvest/lateharvest/pricing/Loan").before a0 Z = true := hw _ (List.mem_of_getElem? (i := 28) rfl)
theorem tw29 {a0 : Array Value} {Z : State} (hw : ∀ d ∈ tables_1, d.before a0 Z = true) : (Jvm.Cond.code ({ cls := "com/example/late_harvest/lateharvest/pricing/Loan", name := "requirePositive", desc := "(Ljava/lang/String;D)V" } : Jvm.MethodName) prog_14_method_7_code (3 : Nat) (Option.none : Option Jvm.ClassFile.FieldType)).before a0 Z = true := hw _ (List.mem_of_getElem? (i := 29) rfl)
theorem tw30 {a0 : Array Value} {Z : State} (hw : ∀ d ∈ tables_1, d.before a0 Z = true) : (Jvm.Cond.methodLink "com/example/late_harvest/lateharvest/pricing/Loan" (55 : Nat) ({ cls := "java/lang/Double", name := "isInfinite", desc := "(D)Z" } : Jvm.MethodName)).before a0 Z = true := hw _ (List.mem_of_getElem? (i := 30) rfl)
theorem tw31 {a0 : Array Value} {Z : State} (hw : ∀ d ∈ tables_1, d.before a0 Z = true) : (Jvm.Cond.static ({ cls := "java/lang/Double", name := "isInfinite", desc := "(D)Z" } : Jvm.MethodName)).before a0 Z = true := hw _ (List.mem_of_getElem? (i := 31) rfl)
theorem tw32 {a0 : Array Value} {Z : State} (hw : ∀ d ∈ tables_1, d.before a0 Z = true) : (Jvm.Cond.initialized "java/lang/Double").before a0 Z = true := hw _ (List.mem_of_getElem? (i := 32) rfl)
theorem tw33 {a0 : Array Value} {Z : State} (hw : ∀ d ∈ tables_1, d.before a0 Z = true) : (Jvm.Cond.code ({ cls := "java/lang/Double", name := "isInfinite", desc := "(D)Z" } : Jvm.MethodName) jdk_117_method_7_code (2 : Nat) (Option.some Jvm.ClassFile.FieldType.boolean)).before a0 Z = true := hw _ (List.mem_of_getElem? (i := 33) rfl)
theorem tw34 {a0 : Array Value} {Z : State} (hw : ∀ d ∈ tables_1, d.before a0 Z = true) : (Jvm.Cond.methodLink "java/lang/Double" (38 : Nat) ({ cls := "java/lang/Math", name := "abs", desc := "(D)D" } : Jvm.MethodName)).before a0 Z = true := hw _ (List.mem_of_getElem? (i := 34) rfl)
theorem tw35 {a0 : Array Value} {Z : State} (hw : ∀ d ∈ tables_1, d.before a0 Z = true) : (Jvm.Cond.static ({ cls := "java/lang/Math", name := "abs", desc := "(D)D" } : Jvm.MethodName)).before a0 Z = true := hw _ (List.mem_of_getElem? (i := 35) rfl)
theorem tw36 {a0 : Array Value} {Z : State} (hw : ∀ d ∈ tables_1, d.before a0 Z = true) : (Jvm.Cond.initialized "java/lang/Math").before a0 Z = true := hw _ (List.mem_of_getElem? (i := 36) rfl)
theorem tw37 {a0 : Array Value} {Z : State} (hw : ∀ d ∈ tables_1, d.before a0 Z = true) : (Jvm.Cond.code ({ cls := "java/lang/Math", name := "abs", desc := "(D)D" } : Jvm.MethodName) jdk_29_method_64_code (2 : Nat) (Option.some Jvm.ClassFile.FieldType.double)).before a0 Z = true := hw _ (List.mem_of_getElem? (i := 37) rfl)
theorem tw38 {a0 : Array Value} {Z : State} (hw : ∀ d ∈ tables_1, d.before a0 Z = true) : (Jvm.Cond.constantDouble "java/lang/Double" (111 : Nat) (9218868437227405311 : UInt64)).before a0 Z = true := hw _ (List.mem_of_getElem? (i := 38) rfl)
theorem tw39 {a0 : Array Value} {Z : State} (hw : ∀ d ∈ tables_1, d.before a0 Z = true) : (Jvm.Cond.stringLink "com/example/late_harvest/lateharvest/pricing/PrincipalLimit" (15 : Nat) "loan-to-value ratio").before a0 Z = true := hw _ (List.mem_of_getElem? (i := 39) rfl)
theorem tw40 {a0 : Array Value} {Z : State} (hw : ∀ d ∈ tables_1, d.before a0 Z = true) : (Jvm.Cond.methodLink "com/example/late_harvest/lateharvest/pricing/PrincipalLimit" (17 : Nat) ({ cls := "com/example/late_harvest/lateharvest/pricing/Loan", name := "requireNonNegative", desc := "(Ljava/lang/String;D)V" } : Jvm.MethodName)).before a0 Z = true := hw _ (List.mem_of_getElem? (i := 40) rfl)
theorem tw41 {a0 : Array Value} {Z : State} (hw : ∀ d ∈ tables_1, d.before a0 Z = true) : (Jvm.Cond.static ({ cls := "com/example/late_harvest/lateharvest/pricing/Loan", name := "requireNonNegative", desc := "(Ljava/lang/String;D)V" } : Jvm.MethodName)).before a0 Z = true := hw _ (List.mem_of_getElem? (i := 41) rfl)
theorem tw42 {a0 : Array Value} {Z : State} (hw : ∀ d ∈ tables_1, d.before a0 Z = true) : (Jvm.Cond.code ({ cls := "com/example/late_harvest/lateharvest/pricing/Loan", name := "requireNonNegative", desc := "(Ljava/lang/String;D)V" } : Jvm.MethodName) prog_14_method_8_code (3 : Nat) (Option.none : Option Jvm.ClassFile.FieldType)).before a0 Z = true := hw _ (List.mem_of_getElem? (i := 42) rfl)
theorem tw43 {a0 : Array Value} {Z : State} (hw : ∀ d ∈ tables_1, d.before a0 Z = true) : (Jvm.Cond.stringLink "com/example/late_harvest/lateharvest/pricing/PrincipalLimit" (20 : Nat) "up-front premium").before a0 Z = true := hw _ (List.mem_of_getElem? (i := 43) rfl)
theorem tw44 {a0 : Array Value} {Z : State} (hw : ∀ d ∈ tables_1, d.before a0 Z = true) : (Jvm.Cond.fieldLink "com/example/late_harvest/lateharvest/pricing/PrincipalLimit" (31 : Nat) "com/example/late_harvest/lateharvest/pricing/PrincipalLimit" "propertyValue" "D").before a0 Z = true := hw _ (List.mem_of_getElem? (i := 44) rfl)
theorem tw45 {a0 : Array Value} {Z : State} (hw : ∀ d ∈ tables_1, d.before a0 Z = true) : (Jvm.Cond.laysFinal "com/example/late_harvest/lateharvest/pricing/PrincipalLimit" "com/example/late_harvest/lateharvest/pricing/PrincipalLimit" "propertyValue" "D").before a0 Z = true := hw _ (List.mem_of_getElem? (i := 45) rfl)
theorem tw46 {a0 : Array Value} {Z : State} (hw : ∀ d ∈ tables_1, d.before a0 Z = true) : (Jvm.Cond.fieldLink "com/example/late_harvest/lateharvest/pricing/PrincipalLimit" (37 : Nat) "com/example/late_harvest/lateharvest/pricing/PrincipalLimit" "loanToValue" "D").before a0 Z = true := hw _ (List.mem_of_getElem? (i := 46) rfl)
theorem tw47 {a0 : Array Value} {Z : State} (hw : ∀ d ∈ tables_1, d.before a0 Z = true) : (Jvm.Cond.laysFinal "com/example/late_harvest/lateharvest/pricing/PrincipalLimit" "com/example/late_harvest/lateharvest/pricing/PrincipalLimit" "loanToValue" "D").before a0 Z = true := hw _ (List.mem_of_getElem? (i := 47) rfl)
theorem tw48 {a0 : Array Value} {Z : State} (hw : ∀ d ∈ tables_1, d.before a0 Z = true) : (Jvm.Cond.fieldLink "com/example/late_harvest/lateharvest/pricing/PrincipalLimit" (40 : Nat) "com/example/late_harvest/lateharvest/pricing/PrincipalLimit" "upfrontPremium" "D").before a0 Z = true := hw _ (List.mem_of_getElem? (i := 48) rfl)
theorem tw49 {a0 : Array Value} {Z : State} (hw : ∀ d ∈ tables_1, d.before a0 Z = true) : (Jvm.Cond.laysFinal "com/example/late_harvest/lateharvest/pricing/PrincipalLimit" "com/example/late_harvest/lateharvest/pricing/PrincipalLimit" "upfrontPremium" "D").before a0 Z = true := hw _ (List.mem_of_getElem? (i := 49) rfl)
theorem tw50 {a0 : Array Value} {Z : State} (hw : ∀ d ∈ tables_1, d.before a0 Z = true) : (Jvm.Cond.methodLink "com/example/late_harvest/lateharvest/pricing/PrincipalLimitNetAmountPinLaw" (18 : Nat) ({ cls := "com/example/late_harvest/lateharvest/pricing/PrincipalLimit", name := "netAmount", desc := "()D" } : Jvm.MethodName)).before a0 Z = true := hw _ (List.mem_of_getElem? (i := 50) rfl)
theorem tw51 {a0 : Array Value} {Z : State} (hw : ∀ d ∈ tables_1, d.before a0 Z = true) : (Jvm.Cond.declares ({ cls := "com/example/late_harvest/lateharvest/pricing/PrincipalLimit", name := "netAmount", desc := "()D" } : Jvm.MethodName)).before a0 Z = true := hw _ (List.mem_of_getElem? (i := 51) rfl)
theorem tw52 {a0 : Array Value} {Z : State} (hw : ∀ d ∈ tables_1, d.before a0 Z = true) : (Jvm.Cond.instanceMethod ({ cls := "com/example/late_harvest/lateharvest/pricing/PrincipalLimit", name := "netAmount", desc := "()D" } : Jvm.MethodName)).before a0 Z = true := hw _ (List.mem_of_getElem? (i := 52) rfl)
theorem tw53 {a0 : Array Value} {Z : State} (hw : ∀ d ∈ tables_1, d.before a0 Z = true) : (Jvm.Cond.selects "com/example/late_harvest/lateharvest/pricing/PrincipalLimit" ({ cls := "com/example/late_harvest/lateharvest/pricing/PrincipalLimit", name := "netAmount", desc := "()D" } : Jvm.MethodName) ({ cls := "com/example/late_harvest/lateharvest/pricing/PrincipalLimit", name := "netAmount", desc := "()D" } : Jvm.MethodName)).before a0 Z = true := hw _ (List.mem_of_getElem? (i := 53) rfl)
theorem tw54 {a0 : Array Value} {Z : State} (hw : ∀ d ∈ tables_1, d.before a0 Z = true) : (Jvm.Cond.code ({ cls := "com/example/late_harvest/lateharvest/pricing/PrincipalLimit", name := "netAmount", desc := "()D" } : Jvm.MethodName) prog_20_method_7_code (1 : Nat) (Option.some Jvm.ClassFile.FieldType.double)).before a0 Z = true := hw _ (List.mem_of_getElem? (i := 54) rfl)
theorem tw55 {a0 : Array Value} {Z : State} (hw : ∀ d ∈ tables_1, d.before a0 Z = true) : (Jvm.Cond.methodLink "com/example/late_harvest/lateharvest/pricing/PrincipalLimit" (94 : Nat) ({ cls := "com/example/late_harvest/lateharvest/pricing/PrincipalLimit", name := "amount", desc := "()D" } : Jvm.MethodName)).before a0 Z = true := hw _ (List.mem_of_getElem? (i := 55) rfl)
theorem tw56 {a0 : Array Value} {Z : State} (hw : ∀ d ∈ tables_1, d.before a0 Z = true) : (Jvm.Cond.declares ({ cls := "com/example/late_harvest/lateharvest/pricing/PrincipalLimit", name := "amount", desc := "()D" } : Jvm.MethodName)).before a0 Z = true := hw _ (List.mem_of_getElem? (i := 56) rfl)
theorem tw57 {a0 : Array Value} {Z : State} (hw : ∀ d ∈ tables_1, d.before a0 Z = true) : (Jvm.Cond.instanceMethod ({ cls := "com/example/late_harvest/lateharvest/pricing/PrincipalLimit", name := "amount", desc := "()D" } : Jvm.MethodName)).before a0 Z = true := hw _ (List.mem_of_getElem? (i := 57) rfl)
theorem tw58 {a0 : Array Value} {Z : State} (hw : ∀ d ∈ tables_1, d.before a0 Z = true) : (Jvm.Cond.selects "com/example/late_harvest/lateharvest/pricing/PrincipalLimit" ({ cls := "com/example/late_harvest/lateharvest/pricing/PrincipalLimit", name := "amount", desc := "()D" } : Jvm.MethodName) ({ cls := "com/example/late_harvest/lateharvest/pricing/PrincipalLimit", name := "amount", desc := "()D" } : Jvm.MethodName)).before a0 Z = true := hw _ (List.mem_of_getElem? (i := 58) rfl)
theorem tw59 {a0 : Array Value} {Z : State} (hw : ∀ d ∈ tables_1, d.before a0 Z = true) : (Jvm.Cond.code ({ cls := "com/example/late_harvest/lateharvest/pricing/PrincipalLimit", name := "amount", desc := "()D" } : Jvm.MethodName) prog_20_method_6_code (1 : Nat) (Option.some Jvm.ClassFile.FieldType.double)).before a0 Z = true := hw _ (List.mem_of_getElem? (i := 59) rfl)
theorem tw60 {a0 : Array Value} {Z : State} (hw : ∀ d ∈ tables_1, d.before a0 Z = true) : (Jvm.Cond.constantDouble "com/example/late_harvest/lateharvest/pricing/PrincipalLimitNetAmountPinLaw" (22 : Nat) (4661225614328463360 : UInt64)).before a0 Z = true := hw _ (List.mem_of_getElem? (i := 60) rfl)
theorem pn_0 : plainName "java/lang/Record" = true := by first | (simp [plainName, overriddenIn]; done) | decide +kernel
theorem pd_0 : parseMethodDescriptor "(D)D" = some ⟨[.double], some .double⟩ := by decide +kernel
theorem pn_1 : plainFor (⟨"java/lang/Double", "isInfinite", "(D)Z"⟩ : MethodName) = true := by first | exact plainFor_of_name (by first | (simp [plainName, overriddenIn]; done) | decide +kernel) | decide +kernel
theorem pd_1 : parseMethodDescriptor "(D)Z" = some ⟨[.double], some .boolean⟩ := by decide +kernel
theorem pn_2 : plainName "com/example/late_harvest/lateharvest/pricing/Loan" = true := by first | (simp [plainName, overriddenIn]; done) | decide +kernel
theorem pd_2 : parseMethodDescriptor "()V" = some ⟨[], none⟩ := by decide +kernel
theorem own_c0 {P : Cond → Prop} : ∀ y ∈ ([] : List Cond), P y := fun _ h => absurd h List.not_mem_nil
theorem own_cS {P : Cond → Prop} {x : Cond} {xs : List Cond} (h : P x) (q : ∀ y ∈ xs, P y) : ∀ y ∈ x :: xs, P y := List.forall_mem_cons.mpr ⟨h, q⟩
theorem own_wS {a0 : Array Value} {Z : State} (hw : ∀ d ∈ tables_1, d.before a0 Z = true) : ∀ a ∈ Bundle.stringAtoms, a.before a0 Z = true := by
  show ∀ a ∈ ([Jvm.Cond.initialized "java/lang/String", Jvm.Cond.instantiable "java/lang/String" (4 : Nat), Jvm.Cond.arrayClass Jvm.ClassFile.FieldType.byte, Jvm.Cond.laysFinal "java/lang/String" "java/lang/String" "value" "[B", Jvm.Cond.laysFinal "java/lang/String" "java/lang/String" "coder" "B", Jvm.Cond.soleField "java/lang/String" "value", Jvm.Cond.soleField "java/lang/String" "coder"] : List Cond), a.before a0 Z = true
  exact (own_cS (P := fun a => a.before a0 Z = true) (tw19 hw) (own_cS (P := fun a => a.before a0 Z = true) (tw20 hw) (own_cS (P := fun a => a.before a0 Z = true) (tw21 hw) (own_cS (P := fun a => a.before a0 Z = true) (tw22 hw) (own_cS (P := fun a => a.before a0 Z = true) (tw23 hw) (own_cS (P := fun a => a.before a0 Z = true) (tw24 hw) (own_cS (P := fun a => a.before a0 Z = true) (tw25 hw) own_c0)))))))
theorem pd_3 : parseMethodDescriptor "(Ljava/lang/String;D)V" = some ⟨[(.object "java/lang/String"), .double], none⟩ := by decide +kernel
theorem pn_3 : plainName "com/example/late_harvest/lateharvest/pricing/PrincipalLimit" = true := by first | (simp [plainName, overriddenIn]; done) | decide +kernel
theorem pd_4 : parseMethodDescriptor "()D" = some ⟨[], some .double⟩ := by decide +kernel
theorem pd_5 : parseMethodDescriptor "(DDD)V" = some ⟨[.double, .double, .double], none⟩ := by decide +kernel
theorem pn_4 : plainName "com/example/late_harvest/lateharvest/pricing/PrincipalLimitNetAmountPinLaw" = true := by first | (simp [plainName, overriddenIn]; done) | decide +kernel
theorem ef_rec (m : MethodId) (x0 : Addr) : entryFrame m #[(.ref x0)] 1 = mkF m 0 #[.val (.ref x0)] [] := by first | (simp [entryFrame, mkF, argsToLocals, Value.category]; done) | rfl
theorem d_rec_0 : decode jdk_30_method_1_code 0 = .ok (.aload_n 0, 1) := by decide +kernel
theorem d_rec_1 : decode jdk_30_method_1_code 1 = .ok (.invokespecial 1, 3) := by decide +kernel
theorem d_rec_4 : decode jdk_30_method_1_code 4 = .ok (.return_, 1) := by decide +kernel
set_option maxRecDepth 65536 in
set_option maxHeartbeats 4000000 in
theorem m_rec (l : Launch) (Z : State) (a0 : Array Value) (hw : ∀ d ∈ tables_1, d.before a0 Z = true) (a : Addr) (h0 : Heap)  :
    OMet l (⟨"java/lang/Record", "<init>", "()V"⟩ : MethodName) jdk_30_method_1_code 1 (Option.none : Option FieldType) [] ({ frames := 1, cells := 0, slots := 0, locals := 12 } : Room) Z h0 [] #[(.ref a)] (fun v h' => v = none ∧ h0 = h') := by
  refine OMet.of (own := "java/lang/Record") (nm := "<init>") (plainFor_of_name pn_0) rfl rfl ?_
  intro p e s m below meth c T0 P0 hby hml hret hnm
  refine Done.step (T' := T0) (g' := (mkF m 0 #[.val (.ref a)] [])) (fun t kk => castTop (ef_rec m a) kk) ?_
  refine Done.stepL (pc' := 1) (st' := [(.ref a)]) (fun t kk => ?_) ?_
  · show Steps p.tables e below (T0.setTop (mkF m 0 _ [])) t
    refine XS.aloadN P0.here P0.x rfl (hb hby d_rec_0) rfl rfl ?_
    exact kk
  refine wInit P0 (tw15 hw) (tw16 hw) (tw17 hw) (by rw [hml]; rfl) (hb hby d_rec_1) (by decide) (W := 0) (Nat.le_of_eq rfl) (by decide) rfl (fun T1 P2 => ?_)
  show Done _ _ _ _ _ _ _ _ _ _ _ _ _ _ _ T1 (mkF m 4 _ [])
  exact wRetV P2 hret (hb hby d_rec_4) ⟨rfl, rfl⟩
theorem ef_isInfinite (m : MethodId) (x0 : UInt64) : entryFrame m #[(.double x0)] 2 = mkF m 0 #[.val (.double x0), .second] [] := by first | (simp [entryFrame, mkF, argsToLocals, Value.category]; done) | rfl
theorem d_isInfinite_0 : decode jdk_117_method_7_code 0 = .ok (.dload_n 0, 1) := by decide +kernel
theorem d_isInfinite_1 : decode jdk_117_method_7_code 1 = .ok (.invokestatic 38, 3) := by decide +kernel
theorem d_isInfinite_4 : decode jdk_117_method_7_code 4 = .ok (.ldc2_w 111, 3) := by decide +kernel
theorem d_isInfinite_7 : decode jdk_117_method_7_code 7 = .ok (.dcmp .l, 1) := by decide +kernel
theorem d_isInfinite_8 : decode jdk_117_method_7_code 8 = .ok (.ifCond .le 7, 3) := by decide +kernel
theorem d_isInfinite_15 : decode jdk_117_method_7_code 15 = .ok (.iconst 0, 1) := by decide +kernel
theorem d_isInfinite_16 : decode jdk_117_method_7_code 16 = .ok (.ireturn, 1) := by decide +kernel
set_option maxRecDepth 65536 in
set_option maxHeartbeats 4000000 in
theorem m_isInfinite (l : Launch) (Z : State) (a0 : Array Value) (hw : ∀ d ∈ tables_1, d.before a0 Z = true) (x0 : UInt64) (h0 : Heap) (hf : Jvm.Free.Fl.Fin64 x0) :
    OMet l (⟨"java/lang/Double", "isInfinite", "(D)Z"⟩ : MethodName) jdk_117_method_7_code 2 (Option.some FieldType.boolean) [] ({ frames := 1, cells := 0, slots := 0, locals := 13 } : Room) Z h0 [] #[(.double x0)] (fun v h' => v = some (.int 0) ∧ h0 = h') := by
  refine OMet.of (own := "java/lang/Double") (nm := "isInfinite") pn_1 rfl rfl ?_
  intro p e s m below meth c T0 P0 hby hml hret hnm
  refine Done.step (T' := T0) (g' := (mkF m 0 #[.val (.double x0), .second] [])) (fun t kk => castTop (ef_isInfinite m x0) kk) ?_
  refine Done.stepL (pc' := 1) (st' := [(.double x0)]) (fun t kk => ?_) ?_
  · show Steps p.tables e below (T0.setTop (mkF m 0 _ [])) t
    refine XS.dloadN P0.here P0.x rfl (hb hby d_isInfinite_0) rfl ?_
    exact kk
  refine wNat P0 (y := (⟨"java/lang/Math", "abs", "(D)D"⟩ : MethodName)) (by0 := Jvm.Free.Fl.Abs.absDCode) (ml := 2) (rt := (Option.some FieldType.double)) (tw34 hw) (tw35 hw) (tw36 hw) (tw37 hw) (by decide) (F := (fun a' => a' = #[.double x0] ∧ Jvm.Free.Fl.NoNaN64 x0)) (val := (.double (x0 &&& 0x7fffffffffffffff))) (fun hcw_ => Jvm.Free.Fl.Abs.absD_pays x0 hcw_ (by decide) (by decide)) (by rw [hml]; rfl) (lenOf pd_0 rfl) (argsL := [(.double x0)]) (rest := []) rfl (W := 0) (Nat.le_of_eq rfl) (hb hby d_isInfinite_1) rfl ⟨rfl, hf.noNaN⟩ (fun T1 P2 => ?_)
  show Done _ _ _ _ _ _ _ _ _ _ _ _ _ _ _ T1 (mkF m 4 _ [(.double (x0 &&& 0x7fffffffffffffff))])
  refine Done.stepL (pc' := 16) (st' := [(.int (0 : Int32))]) (fun t kk => ?_) ?_
  · show Steps p.tables e below (T1.setTop (mkF m 4 _ [(.double (x0 &&& 0x7fffffffffffffff))])) t
    refine pLdcD P2 (tw38 hw) (hb hby d_isInfinite_4) rfl ?_
    show Steps p.tables e below (T1.setTop (mkF m 7 _ [(.double (9218868437227405311 : UInt64)), (.double (x0 &&& 0x7fffffffffffffff))])) t
    refine XS.dcmpS P2.here P2.x rfl (hb hby d_isInfinite_7) rfl rfl ?_
    show Steps p.tables e below (T1.setTop (mkF m 8 _ [(.int (cmpValue (FP.dcmp (x0 &&& 0x7fffffffffffffff) (9218868437227405311 : UInt64)) .l))])) t
    refine XS.ifYes P2.here P2.x rfl (pc0 := 8) (pc' := 15) rfl (hb hby d_isInfinite_8) rfl (i0W_le_t (infin_no hf)) (by decide) (by decide) ?_
    show Steps p.tables e below (T1.setTop (mkF m 15 _ [])) t
    refine XS.iconst P2.here P2.x rfl (hb hby d_isInfinite_15) ?_
    exact kk
  exact wRet P2 (t := .boolean) hret (narrow_01 (Or.inl rfl)) (Or.inl ⟨rfl, Or.inr (Or.inl rfl), _, rfl⟩) (hb hby d_isInfinite_16) ⟨rfl, rfl⟩
theorem ef_reqP (m : MethodId) (x0 : Addr) (x1 : UInt64) : entryFrame m #[(.ref x0), (.double x1)] 3 = mkF m 0 #[.val (.ref x0), .val (.double x1), .second] [] := by first | (simp [entryFrame, mkF, argsToLocals, Value.category]; done) | rfl
theorem d_reqP_0 : decode prog_14_method_7_code 0 = .ok (.dload_n 1, 1) := by decide +kernel
theorem d_reqP_1 : decode prog_14_method_7_code 1 = .ok (.dconst 0, 1) := by decide +kernel
theorem d_reqP_2 : decode prog_14_method_7_code 2 = .ok (.dcmp .l, 1) := by decide +kernel
theorem d_reqP_3 : decode prog_14_method_7_code 3 = .ok (.ifCond .le 10, 3) := by decide +kernel
theorem d_reqP_6 : decode prog_14_method_7_code 6 = .ok (.dload_n 1, 1) := by decide +kernel
theorem d_reqP_7 : decode prog_14_method_7_code 7 = .ok (.invokestatic 55, 3) := by decide +kernel
theorem d_reqP_10 : decode prog_14_method_7_code 10 = .ok (.ifCond .eq 18, 3) := by decide +kernel
theorem d_reqP_28 : decode prog_14_method_7_code 28 = .ok (.return_, 1) := by decide +kernel
set_option maxRecDepth 65536 in
set_option maxHeartbeats 4000000 in
theorem m_reqP (l : Launch) (Z : State) (a0 : Array Value) (hw : ∀ d ∈ tables_1, d.before a0 Z = true) (sa : Addr) (x0 : UInt64) (h0 : Heap) (hf : Jvm.Free.Fl.Fin64 x0) (hg : (0 : Int32) < cmpValue (FP.dcmp x0 FP.dconst0) .l) :
    OMet l (⟨"com/example/late_harvest/lateharvest/pricing/Loan", "requirePositive", "(Ljava/lang/String;D)V"⟩ : MethodName) prog_14_method_7_code 3 (Option.none : Option FieldType) [] ({ frames := 2, cells := 0, slots := 0, locals := 26 } : Room) Z h0 [] #[(.ref sa), (.double x0)] (fun v h' => v = none ∧ h0 = h') := by
  refine OMet.of (own := "com/example/late_harvest/lateharvest/pricing/Loan") (nm := "requirePositive") (plainFor_of_name pn_2) rfl rfl ?_
  intro p e s m below meth c T0 P0 hby hml hret hnm
  refine Done.step (T' := T0) (g' := (mkF m 0 #[.val (.ref sa), .val (.double x0), .second] [])) (fun t kk => castTop (ef_reqP m sa x0) kk) ?_
  refine Done.stepL (pc' := 7) (st' := [(.double x0)]) (fun t kk => ?_) ?_
  · show Steps p.tables e below (T0.setTop (mkF m 0 _ [])) t
    refine XS.dloadN P0.here P0.x rfl (hb hby d_reqP_0) rfl ?_
    show Steps p.tables e below (T0.setTop (mkF m 1 _ [(.double x0)])) t
    refine XS.dconst0 P0.here P0.x rfl (hb hby d_reqP_1) rfl ?_
    show Steps p.tables e below (T0.setTop (mkF m 2 _ [(.double FP.dconst0), (.double x0)])) t
    refine XS.dcmpS P0.here P0.x rfl (hb hby d_reqP_2) rfl rfl ?_
    show Steps p.tables e below (T0.setTop (mkF m 3 _ [(.int (cmpValue (FP.dcmp x0 FP.dconst0) .l))])) t
    refine XS.ifNo P0.here P0.x rfl (hb hby d_reqP_3) rfl (i0W_le_f (not_not_intro hg)) ?_
    show Steps p.tables e below (T0.setTop (mkF m 6 _ [])) t
    refine XS.dloadN P0.here P0.x rfl (hb hby d_reqP_6) rfl ?_
    exact kk
  refine wCallS P0 (m_isInfinite l Z a0 hw x0 h0 hf) (tw30 hw) (tw31 hw) (tw32 hw) (tw33 hw) (by decide) (by rw [hml]; rfl) (lenOf pd_1 rfl) (argsL := [(.double x0)]) (rest := []) rfl rfl (W := 0) (Nat.le_of_eq rfl) (by decide) (by decide) (by decide) (by decide) (by simp) (hb hby d_reqP_7) rfl (k' := 0) (n' := 0) rfl rfl ?_
  rintro T1 _ _ P2 - ⟨rfl, rfl⟩
  show Done _ _ _ _ _ _ _ _ _ _ _ _ _ _ _ T1 (mkF m 10 _ [(.int (0 : Int32))])
  refine Done.stepL (pc' := 28) (st' := []) (fun t kk => ?_) ?_
  · show Steps p.tables e below (T1.setTop (mkF m 10 _ [(.int (0 : Int32))])) t
    refine XS.ifYes P2.here P2.x rfl (pc0 := 10) (pc' := 28) rfl (hb hby d_reqP_10) rfl (i0W_eq_t (by decide)) (by decide) (by decide) ?_
    exact kk
  exact wRetV P2 hret (hb hby d_reqP_28) ⟨rfl, rfl⟩
theorem ef_reqN (m : MethodId) (x0 : Addr) (x1 : UInt64) : entryFrame m #[(.ref x0), (.double x1)] 3 = mkF m 0 #[.val (.ref x0), .val (.double x1), .second] [] := by first | (simp [entryFrame, mkF, argsToLocals, Value.category]; done) | rfl
theorem d_reqN_0 : decode prog_14_method_8_code 0 = .ok (.dload_n 1, 1) := by decide +kernel
theorem d_reqN_1 : decode prog_14_method_8_code 1 = .ok (.dconst 0, 1) := by decide +kernel
theorem d_reqN_2 : decode prog_14_method_8_code 2 = .ok (.dcmp .l, 1) := by decide +kernel
theorem d_reqN_3 : decode prog_14_method_8_code 3 = .ok (.ifCond .lt 10, 3) := by decide +kernel
theorem d_reqN_6 : decode prog_14_method_8_code 6 = .ok (.dload_n 1, 1) := by decide +kernel
theorem d_reqN_7 : decode prog_14_method_8_code 7 = .ok (.invokestatic 55, 3) := by decide +kernel
theorem d_reqN_10 : decode prog_14_method_8_code 10 = .ok (.ifCond .eq 18, 3) := by decide +kernel
theorem d_reqN_28 : decode prog_14_method_8_code 28 = .ok (.return_, 1) := by decide +kernel
set_option maxRecDepth 65536 in
set_option maxHeartbeats 4000000 in
theorem m_reqN (l : Launch) (Z : State) (a0 : Array Value) (hw : ∀ d ∈ tables_1, d.before a0 Z = true) (sa : Addr) (x0 : UInt64) (h0 : Heap) (hf : Jvm.Free.Fl.Fin64 x0) (hg : ¬ (cmpValue (FP.dcmp x0 FP.dconst0) .l < (0 : Int32))) :
    OMet l (⟨"com/example/late_harvest/lateharvest/pricing/Loan", "requireNonNegative", "(Ljava/lang/String;D)V"⟩ : MethodName) prog_14_method_8_code 3 (Option.none : Option FieldType) [] ({ frames := 2, cells := 0, slots := 0, locals := 26 } : Room) Z h0 [] #[(.ref sa), (.double x0)] (fun v h' => v = none ∧ h0 = h') := by
  refine OMet.of (own := "com/example/late_harvest/lateharvest/pricing/Loan") (nm := "requireNonNegative") (plainFor_of_name pn_2) rfl rfl ?_
  intro p e s m below meth c T0 P0 hby hml hret hnm
  refine Done.step (T' := T0) (g' := (mkF m 0 #[.val (.ref sa), .val (.double x0), .second] [])) (fun t kk => castTop (ef_reqN m sa x0) kk) ?_
  refine Done.stepL (pc' := 7) (st' := [(.double x0)]) (fun t kk => ?_) ?_
  · show Steps p.tables e below (T0.setTop (mkF m 0 _ [])) t
    refine XS.dloadN P0.here P0.x rfl (hb hby d_reqN_0) rfl ?_
    show Steps p.tables e below (T0.setTop (mkF m 1 _ [(.double x0)])) t
    refine XS.dconst0 P0.here P0.x rfl (hb hby d_reqN_1) rfl ?_
    show Steps p.tables e below (T0.setTop (mkF m 2 _ [(.double FP.dconst0), (.double x0)])) t
    refine XS.dcmpS P0.here P0.x rfl (hb hby d_reqN_2) rfl rfl ?_
    show Steps p.tables e below (T0.setTop (mkF m 3 _ [(.int (cmpValue (FP.dcmp x0 FP.dconst0) .l))])) t
    refine XS.ifNo P0.here P0.x rfl (hb hby d_reqN_3) rfl (i0W_lt_f hg) ?_
    show Steps p.tables e below (T0.setTop (mkF m 6 _ [])) t
    refine XS.dloadN P0.here P0.x rfl (hb hby d_reqN_6) rfl ?_
    exact kk
  refine wCallS P0 (m_isInfinite l Z a0 hw x0 h0 hf) (tw30 hw) (tw31 hw) (tw32 hw) (tw33 hw) (by decide) (by rw [hml]; rfl) (lenOf pd_1 rfl) (argsL := [(.double x0)]) (rest := []) rfl rfl (W := 0) (Nat.le_of_eq rfl) (by decide) (by decide) (by decide) (by decide) (by simp) (hb hby d_reqN_7) rfl (k' := 0) (n' := 0) rfl rfl ?_
  rintro T1 _ _ P2 - ⟨rfl, rfl⟩
  show Done _ _ _ _ _ _ _ _ _ _ _ _ _ _ _ T1 (mkF m 10 _ [(.int (0 : Int32))])
  refine Done.stepL (pc' := 28) (st' := []) (fun t kk => ?_) ?_
  · show Steps p.tables e below (T1.setTop (mkF m 10 _ [(.int (0 : Int32))])) t
    refine XS.ifYes P2.here P2.x rfl (pc0 := 10) (pc' := 28) rfl (hb hby d_reqN_10) rfl (i0W_eq_t (by decide)) (by decide) (by decide) ?_
    exact kk
  exact wRetV P2 hret (hb hby d_reqN_28) ⟨rfl, rfl⟩
theorem ef_init (m : MethodId) (x0 : Addr) (x1 : UInt64) (x2 : UInt64) (x3 : UInt64) : entryFrame m #[(.ref x0), (.double x1), (.double x2), (.double x3)] 7 = mkF m 0 #[.val (.ref x0), .val (.double x1), .second, .val (.double x2), .second, .val (.double x3), .second] [] := by first | (simp [entryFrame, mkF, argsToLocals, Value.category]; done) | rfl
theorem d_init_0 : decode prog_20_method_1_code 0 = .ok (.aload_n 0, 1) := by decide +kernel
theorem d_init_1 : decode prog_20_method_1_code 1 = .ok (.invokespecial 1, 3) := by decide +kernel
theorem d_init_4 : decode prog_20_method_1_code 4 = .ok (.ldc 7, 2) := by decide +kernel
theorem d_init_6 : decode prog_20_method_1_code 6 = .ok (.dload_n 1, 1) := by decide +kernel
theorem d_init_7 : decode prog_20_method_1_code 7 = .ok (.invokestatic 9, 3) := by decide +kernel
theorem d_init_10 : decode prog_20_method_1_code 10 = .ok (.ldc 15, 2) := by decide +kernel
theorem d_init_12 : decode prog_20_method_1_code 12 = .ok (.dload_n 3, 1) := by decide +kernel
theorem d_init_13 : decode prog_20_method_1_code 13 = .ok (.invokestatic 17, 3) := by decide +kernel
theorem d_init_16 : decode prog_20_method_1_code 16 = .ok (.ldc 20, 2) := by decide +kernel
theorem d_init_18 : decode prog_20_method_1_code 18 = .ok (.dload 5, 2) := by decide +kernel
theorem d_init_20 : decode prog_20_method_1_code 20 = .ok (.invokestatic 17, 3) := by decide +kernel
theorem d_init_23 : decode prog_20_method_1_code 23 = .ok (.dload 5, 2) := by decide +kernel
theorem d_init_25 : decode prog_20_method_1_code 25 = .ok (.dconst 1, 1) := by decide +kernel
theorem d_init_26 : decode prog_20_method_1_code 26 = .ok (.dcmp .l, 1) := by decide +kernel
theorem d_init_27 : decode prog_20_method_1_code 27 = .ok (.ifCond .le 18, 3) := by decide +kernel
theorem d_init_45 : decode prog_20_method_1_code 45 = .ok (.aload_n 0, 1) := by decide +kernel
theorem d_init_46 : decode prog_20_method_1_code 46 = .ok (.dload_n 1, 1) := by decide +kernel
theorem d_init_47 : decode prog_20_method_1_code 47 = .ok (.putfield 31, 3) := by decide +kernel
theorem d_init_50 : decode prog_20_method_1_code 50 = .ok (.aload_n 0, 1) := by decide +kernel
theorem d_init_51 : decode prog_20_method_1_code 51 = .ok (.dload_n 3, 1) := by decide +kernel
theorem d_init_52 : decode prog_20_method_1_code 52 = .ok (.putfield 37, 3) := by decide +kernel
theorem d_init_55 : decode prog_20_method_1_code 55 = .ok (.aload_n 0, 1) := by decide +kernel
theorem d_init_56 : decode prog_20_method_1_code 56 = .ok (.dload 5, 2) := by decide +kernel
theorem d_init_58 : decode prog_20_method_1_code 58 = .ok (.putfield 40, 3) := by decide +kernel
theorem d_init_61 : decode prog_20_method_1_code 61 = .ok (.return_, 1) := by decide +kernel
set_option maxRecDepth 65536 in
set_option maxHeartbeats 4000000 in
theorem m_init (l : Launch) (Z : State) (a0 : Array Value) (hw : ∀ d ∈ tables_1, d.before a0 Z = true) (a : Addr) (p0 : UInt64) (p1 : UInt64) (p2 : UInt64) (h0 : Heap) (E0 : Exa Z h0 a "com/example/late_harvest/lateharvest/pricing/PrincipalLimit") (F_propertyValue : Fld Z h0 a "com/example/late_harvest/lateharvest/pricing/PrincipalLimit" "propertyValue" "D" (.double (0 : UInt64))) (F_loanToValue : Fld Z h0 a "com/example/late_harvest/lateharvest/pricing/PrincipalLimit" "loanToValue" "D" (.double (0 : UInt64))) (F_upfrontPremium : Fld Z h0 a "com/example/late_harvest/lateharvest/pricing/PrincipalLimit" "upfrontPremium" "D" (.double (0 : UInt64))) (f1 : Jvm.Free.Fl.Fin64 p0) (g1 : (0 : Int32) < cmpValue (FP.dcmp p0 FP.dconst0) .l) (f2 : Jvm.Free.Fl.Fin64 p1) (g2 : ¬ (cmpValue (FP.dcmp p1 FP.dconst0) .l < (0 : Int32))) (f3 : Jvm.Free.Fl.Fin64 p2) (g3 : ¬ (cmpValue (FP.dcmp p2 FP.dconst0) .l < (0 : Int32))) (hle : ¬ ((0 : Int32) < cmpValue (FP.dcmp p2 FP.dconst1) .l)) :
    OwnX.OMet l (⟨"com/example/late_harvest/lateharvest/pricing/PrincipalLimit", "<init>", "(DDD)V"⟩ : MethodName) prog_20_method_1_code 7 (Option.none : Option FieldType) [] ({ frames := 3, cells := 6, slots := 208, locals := 40 } : Room) Z h0 [a] #[(.ref a), (.double p0), (.double p1), (.double p2)] (fun v h' => v = none ∧ Fld Z h' a "com/example/late_harvest/lateharvest/pricing/PrincipalLimit" "propertyValue" "D" (.double p0) ∧ Fld Z h' a "com/example/late_harvest/lateharvest/pricing/PrincipalLimit" "loanToValue" "D" (.double p1) ∧ Fld Z h' a "com/example/late_harvest/lateharvest/pricing/PrincipalLimit" "upfrontPremium" "D" (.double p2)) := by
  refine OwnX.OMet.of (own := "com/example/late_harvest/lateharvest/pricing/PrincipalLimit") (nm := "<init>") (plainFor_of_name pn_3) rfl rfl ?_
  intro p e s m below meth c T0 P0 hby hml hret hnm
  refine OwnX.Done.step (T' := T0) (g' := (mkF m 0 #[.val (.ref a), .val (.double p0), .second, .val (.double p1), .second, .val (.double p2), .second] [])) (fun t kk => castTop (ef_init m a p0 p1 p2) kk) ?_
  refine OwnX.Done.stepL (pc' := 1) (st' := [(.ref a)]) (fun t kk => ?_) ?_
  · show Steps p.tables e below (T0.setTop (mkF m 0 _ [])) t
    refine XS.aloadN P0.here P0.x rfl (hb hby d_init_0) rfl rfl ?_
    exact kk
  refine OwnX.wCallI P0 (m_rec l Z a0 hw a h0) rfl (tw10 hw) (tw11 hw) (tw13 hw) (tw14 hw) (by decide) (a := a) (by rw [hml]; rfl) (lenOf pd_2 rfl) (argsL := []) (rest := []) rfl rfl (W := 0) (Nat.le_of_eq rfl) (by decide) (by decide) (by decide) (by decide) (by simp) (hb hby d_init_1) rfl (k' := 0) (n' := 0) rfl rfl ?_
  rintro T1 _ _ P2 - ⟨rfl, rfl⟩
  show OwnX.Done _ _ _ _ _ _ _ _ _ _ _ _ _ _ _ T1 (mkF m 4 _ [])
  refine OwnX.wLdcS P2 (tw18 hw) (own_wS hw) (hb hby d_init_4) rfl (N := 56) (by first | decide | decide +kernel | simp) (by decide) (by decide) (by decide) (k' := 2) (n' := 60) rfl rfl (fun T3 h5 b6 P4 E7 => ?_)
  have szh5 : h0.size ≤ h5.size := E7.1
  show OwnX.Done _ _ _ _ _ _ _ _ _ _ _ _ _ _ _ T3 (mkF m 6 _ [(.ref b6)])
  refine OwnX.Done.stepL (pc' := 7) (st' := [(.double p0), (.ref b6)]) (fun t kk => ?_) ?_
  · show Steps p.tables e below (T3.setTop (mkF m 6 _ [(.ref b6)])) t
    refine XS.dloadN P4.here P4.x rfl (hb hby d_init_6) rfl ?_
    exact kk
  refine OwnX.wCallS P4 (m_reqP l Z a0 hw b6 p0 h5 f1 g1) (tw26 hw) (tw27 hw) (tw28 hw) (tw29 hw) (by decide) (by rw [hml]; rfl) (lenOf pd_3 rfl) (argsL := [(.ref b6), (.double p0)]) (rest := []) rfl rfl (W := 0) (Nat.le_of_eq rfl) (by decide) (by decide) (by decide) (by decide) (by simp) (hb hby d_init_7) rfl (k' := 2) (n' := 60) rfl rfl ?_
  rintro T8 _ _ P9 - ⟨rfl, rfl⟩
  show OwnX.Done _ _ _ _ _ _ _ _ _ _ _ _ _ _ _ T8 (mkF m 10 _ [])
  refine OwnX.wLdcS P9 (tw39 hw) (own_wS hw) (hb hby d_init_10) rfl (N := 76) (by first | decide | decide +kernel | simp) (by decide) (by decide) (by decide) (k' := 4) (n' := 140) rfl rfl (fun T10 h12 b13 P11 E14 => ?_)
  have szh12 : h5.size ≤ h12.size := E14.1
  show OwnX.Done _ _ _ _ _ _ _ _ _ _ _ _ _ _ _ T10 (mkF m 12 _ [(.ref b13)])
  refine OwnX.Done.stepL (pc' := 13) (st' := [(.double p1), (.ref b13)]) (fun t kk => ?_) ?_
  · show Steps p.tables e below (T10.setTop (mkF m 12 _ [(.ref b13)])) t
    refine XS.dloadN P11.here P11.x rfl (hb hby d_init_12) rfl ?_
    exact kk
  refine OwnX.wCallS P11 (m_reqN l Z a0 hw b13 p1 h12 f2 g2) (tw40 hw) (tw41 hw) (tw28 hw) (tw42 hw) (by decide) (by rw [hml]; rfl) (lenOf pd_3 rfl) (argsL := [(.ref b13), (.double p1)]) (rest := []) rfl rfl (W := 0) (Nat.le_of_eq rfl) (by decide) (by decide) (by decide) (by decide) (by simp) (hb hby d_init_13) rfl (k' := 4) (n' := 140) rfl rfl ?_
  rintro T15 _ _ P16 - ⟨rfl, rfl⟩
  show OwnX.Done _ _ _ _ _ _ _ _ _ _ _ _ _ _ _ T15 (mkF m 16 _ [])
  refine OwnX.wLdcS P16 (tw43 hw) (own_wS hw) (hb hby d_init_16) rfl (N := 64) (by first | decide | decide +kernel | simp) (by decide) (by decide) (by decide) (k' := 6) (n' := 208) rfl rfl (fun T17 h19 b20 P18 E21 => ?_)
  have szh19 : h12.size ≤ h19.size := E21.1
  show OwnX.Done _ _ _ _ _ _ _ _ _ _ _ _ _ _ _ T17 (mkF m 18 _ [(.ref b20)])
  refine OwnX.Done.stepL (pc' := 20) (st' := [(.double p2), (.ref b20)]) (fun t kk => ?_) ?_
  · show Steps p.tables e below (T17.setTop (mkF m 18 _ [(.ref b20)])) t
    refine XS.dload P18.here P18.x rfl (hb hby d_init_18) rfl ?_
    exact kk
  refine OwnX.wCallS P18 (m_reqN l Z a0 hw b20 p2 h19 f3 g3) (tw40 hw) (tw41 hw) (tw28 hw) (tw42 hw) (by decide) (by rw [hml]; rfl) (lenOf pd_3 rfl) (argsL := [(.ref b20), (.double p2)]) (rest := []) rfl rfl (W := 0) (Nat.le_of_eq rfl) (by decide) (by decide) (by decide) (by decide) (by simp) (hb hby d_init_20) rfl (k' := 6) (n' := 208) rfl rfl ?_
  rintro T22 _ _ P23 - ⟨rfl, rfl⟩
  show OwnX.Done _ _ _ _ _ _ _ _ _ _ _ _ _ _ _ T22 (mkF m 23 _ [])
  refine OwnX.Done.stepL (pc' := 47) (st' := [(.double p0), (.ref a)]) (fun t kk => ?_) ?_
  · show Steps p.tables e below (T22.setTop (mkF m 23 _ [])) t
    refine XS.dload P23.here P23.x rfl (hb hby d_init_23) rfl ?_
    show Steps p.tables e below (T22.setTop (mkF m 25 _ [(.double p2)])) t
    refine XS.dconst1 P23.here P23.x rfl (hb hby d_init_25) rfl ?_
    show Steps p.tables e below (T22.setTop (mkF m 26 _ [(.double FP.dconst1), (.double p2)])) t
    refine XS.dcmpS P23.here P23.x rfl (hb hby d_init_26) rfl rfl ?_
    show Steps p.tables e below (T22.setTop (mkF m 27 _ [(.int (cmpValue (FP.dcmp p2 FP.dconst1) .l))])) t
    refine XS.ifYes P23.here P23.x rfl (pc0 := 27) (pc' := 45) rfl (hb hby d_init_27) rfl (i0W_le_t hle) (by decide) (by decide) ?_
    show Steps p.tables e below (T22.setTop (mkF m 45 _ [])) t
    refine XS.aloadN P23.here P23.x rfl (hb hby d_init_45) rfl rfl ?_
    show Steps p.tables e below (T22.setTop (mkF m 46 _ [(.ref a)])) t
    refine XS.dloadN P23.here P23.x rfl (hb hby d_init_46) rfl ?_
    exact kk
  have f24 := (((F_propertyValue.ext E7).ext E14).ext E21)
  have f25 := (((E0.ext E7).ext E14).ext E21)
  refine OwnX.wPut P23 (host := "") (Or.inl (tw44 hw)) Via.refl f24 f25 (Or.inr ⟨(tw45 hw), rfl, hnm⟩) (tw5 hw) (ty := .double) (by decide) rfl rfl (Or.inl (by simp)) (hb hby d_init_47) rfl (fun T26 h28 P27 W29 F30 => ?_)
  have szh28 : h28.size = h19.size := W29.size
  show OwnX.Done _ _ _ _ _ _ _ _ _ _ _ _ _ _ _ T26 (mkF m 50 _ [])
  refine OwnX.Done.stepL (pc' := 52) (st' := [(.double p1), (.ref a)]) (fun t kk => ?_) ?_
  · show Steps p.tables e below (T26.setTop (mkF m 50 _ [])) t
    refine XS.aloadN P27.here P27.x rfl (hb hby d_init_50) rfl rfl ?_
    show Steps p.tables e below (T26.setTop (mkF m 51 _ [(.ref a)])) t
    refine XS.dloadN P27.here P27.x rfl (hb hby d_init_51) rfl ?_
    exact kk
  have f31 := ((((F_loanToValue.ext E7).ext E14).ext E21).other W29 (Or.inr (slot_ne (Or.inr (tw47 hw)) (Or.inr (tw45 hw)) (by decide) (t := .double) (t' := .double) (by decide) (by decide))))
  have f32 := (f25.wr W29)
  refine OwnX.wPut P27 (host := "") (Or.inl (tw46 hw)) Via.refl f31 f32 (Or.inr ⟨(tw47 hw), rfl, hnm⟩) (tw5 hw) (ty := .double) (by decide) rfl rfl (Or.inl (by simp)) (hb hby d_init_52) rfl (fun T33 h35 P34 W36 F37 => ?_)
  have szh35 : h35.size = h28.size := W36.size
  show OwnX.Done _ _ _ _ _ _ _ _ _ _ _ _ _ _ _ T33 (mkF m 55 _ [])
  refine OwnX.Done.stepL (pc' := 58) (st' := [(.double p2), (.ref a)]) (fun t kk => ?_) ?_
  · show Steps p.tables e below (T33.setTop (mkF m 55 _ [])) t
    refine XS.aloadN P34.here P34.x rfl (hb hby d_init_55) rfl rfl ?_
    show Steps p.tables e below (T33.setTop (mkF m 56 _ [(.ref a)])) t
    refine XS.dload P34.here P34.x rfl (hb hby d_init_56) rfl ?_
    exact kk
  have f38 := (((((F_upfrontPremium.ext E7).ext E14).ext E21).other W29 (Or.inr (slot_ne (Or.inr (tw49 hw)) (Or.inr (tw45 hw)) (by decide) (t := .double) (t' := .double) (by decide) (by decide)))).other W36 (Or.inr (slot_ne (Or.inr (tw49 hw)) (Or.inr (tw47 hw)) (by decide) (t := .double) (t' := .double) (by decide) (by decide))))
  have f39 := (f32.wr W36)
  refine OwnX.wPut P34 (host := "") (Or.inl (tw48 hw)) Via.refl f38 f39 (Or.inr ⟨(tw49 hw), rfl, hnm⟩) (tw5 hw) (ty := .double) (by decide) rfl rfl (Or.inl (by simp)) (hb hby d_init_58) rfl (fun T40 h42 P41 W43 F44 => ?_)
  have szh42 : h42.size = h35.size := W43.size
  show OwnX.Done _ _ _ _ _ _ _ _ _ _ _ _ _ _ _ T40 (mkF m 61 _ [])
  have f45 := ((F30.other W36 (Or.inr (slot_ne (Or.inr (tw45 hw)) (Or.inr (tw47 hw)) (by decide) (t := .double) (t' := .double) (by decide) (by decide)))).other W43 (Or.inr (slot_ne (Or.inr (tw45 hw)) (Or.inr (tw49 hw)) (by decide) (t := .double) (t' := .double) (by decide) (by decide))))
  have f46 := (F37.other W43 (Or.inr (slot_ne (Or.inr (tw47 hw)) (Or.inr (tw49 hw)) (by decide) (t := .double) (t' := .double) (by decide) (by decide))))
  exact OwnX.wRetV P41 hret (hb hby d_init_61) ⟨rfl, f45, f46, F44⟩
theorem ef_amount (m : MethodId) (x0 : Addr) : entryFrame m #[(.ref x0)] 1 = mkF m 0 #[.val (.ref x0)] [] := by first | (simp [entryFrame, mkF, argsToLocals, Value.category]; done) | rfl
theorem d_amount_0 : decode prog_20_method_6_code 0 = .ok (.aload_n 0, 1) := by decide +kernel
theorem d_amount_1 : decode prog_20_method_6_code 1 = .ok (.getfield 31, 3) := by decide +kernel
theorem d_amount_4 : decode prog_20_method_6_code 4 = .ok (.aload_n 0, 1) := by decide +kernel
theorem d_amount_5 : decode prog_20_method_6_code 5 = .ok (.getfield 37, 3) := by decide +kernel
theorem d_amount_8 : decode prog_20_method_6_code 8 = .ok (.dmul, 1) := by decide +kernel
theorem d_amount_9 : decode prog_20_method_6_code 9 = .ok (.dreturn, 1) := by decide +kernel
set_option maxRecDepth 65536 in
set_option maxHeartbeats 4000000 in
theorem m_amount (l : Launch) (Z : State) (a0 : Array Value) (hw : ∀ d ∈ tables_1, d.before a0 Z = true) (a : Addr) (x y : UInt64) (h0 : Heap) (F1 : Fld Z h0 a "com/example/late_harvest/lateharvest/pricing/PrincipalLimit" "propertyValue" "D" (.double x)) (F2 : Fld Z h0 a "com/example/late_harvest/lateharvest/pricing/PrincipalLimit" "loanToValue" "D" (.double y)) (n1 : Jvm.Free.Fl.NoNaN64 (FP.dmul x y)) :
    OMet l (⟨"com/example/late_harvest/lateharvest/pricing/PrincipalLimit", "amount", "()D"⟩ : MethodName) prog_20_method_6_code 1 (Option.some FieldType.double) [] ({ frames := 0, cells := 0, slots := 0, locals := 0 } : Room) Z h0 [] #[(.ref a)] (fun v h' => v = some (.double (FP.dmul x y)) ∧ h0 = h') := by
  refine OMet.of (own := "com/example/late_harvest/lateharvest/pricing/PrincipalLimit") (nm := "amount") (plainFor_of_name pn_3) rfl rfl ?_
  intro p e s m below meth c T0 P0 hby hml hret hnm
  refine Done.step (T' := T0) (g' := (mkF m 0 #[.val (.ref a)] [])) (fun t kk => castTop (ef_amount m a) kk) ?_
  refine Done.stepL (pc' := 1) (st' := [(.ref a)]) (fun t kk => ?_) ?_
  · show Steps p.tables e below (T0.setTop (mkF m 0 _ [])) t
    refine XS.aloadN P0.here P0.x rfl (hb hby d_amount_0) rfl rfl ?_
    exact kk
  refine wGet P0 (host := "") (Or.inl (tw44 hw)) Via.refl F1 (hb hby d_amount_1) rfl (fun T1 P2 => ?_)
  show Done _ _ _ _ _ _ _ _ _ _ _ _ _ _ _ T1 (mkF m 4 _ [(.double x)])
  refine Done.stepL (pc' := 5) (st' := [(.ref a), (.double x)]) (fun t kk => ?_) ?_
  · show Steps p.tables e below (T1.setTop (mkF m 4 _ [(.double x)])) t
    refine XS.aloadN P2.here P2.x rfl (hb hby d_amount_4) rfl rfl ?_
    exact kk
  refine wGet P2 (host := "") (Or.inl (tw46 hw)) Via.refl F2 (hb hby d_amount_5) rfl (fun T3 P4 => ?_)
  show Done _ _ _ _ _ _ _ _ _ _ _ _ _ _ _ T3 (mkF m 8 _ [(.double y), (.double x)])
  refine Done.stepL (pc' := 9) (st' := [(.double (FP.dmul x y))]) (fun t kk => ?_) ?_
  · show Steps p.tables e below (T3.setTop (mkF m 8 _ [(.double y), (.double x)])) t
    refine XS.dmulS P4.here P4.x rfl (hb hby d_amount_8) rfl n1 rfl ?_
    exact kk
  exact wRetD P4 hret (hb hby d_amount_9) ⟨rfl, rfl⟩
theorem ef_net (m : MethodId) (x0 : Addr) : entryFrame m #[(.ref x0)] 1 = mkF m 0 #[.val (.ref x0)] [] := by first | (simp [entryFrame, mkF, argsToLocals, Value.category]; done) | rfl
theorem d_net_0 : decode prog_20_method_7_code 0 = .ok (.aload_n 0, 1) := by decide +kernel
theorem d_net_1 : decode prog_20_method_7_code 1 = .ok (.invokevirtual 94, 3) := by decide +kernel
theorem d_net_4 : decode prog_20_method_7_code 4 = .ok (.dconst 1, 1) := by decide +kernel
theorem d_net_5 : decode prog_20_method_7_code 5 = .ok (.aload_n 0, 1) := by decide +kernel
theorem d_net_6 : decode prog_20_method_7_code 6 = .ok (.getfield 40, 3) := by decide +kernel
theorem d_net_9 : decode prog_20_method_7_code 9 = .ok (.dsub, 1) := by decide +kernel
theorem d_net_10 : decode prog_20_method_7_code 10 = .ok (.dmul, 1) := by decide +kernel
theorem d_net_11 : decode prog_20_method_7_code 11 = .ok (.dreturn, 1) := by decide +kernel
set_option maxRecDepth 65536 in
set_option maxHeartbeats 4000000 in
theorem m_net (l : Launch) (Z : State) (a0 : Array Value) (hw : ∀ d ∈ tables_1, d.before a0 Z = true) (a : Addr) (x y z : UInt64) (h0 : Heap) (E0 : Exa Z h0 a "com/example/late_harvest/lateharvest/pricing/PrincipalLimit") (F1 : Fld Z h0 a "com/example/late_harvest/lateharvest/pricing/PrincipalLimit" "propertyValue" "D" (.double x)) (F2 : Fld Z h0 a "com/example/late_harvest/lateharvest/pricing/PrincipalLimit" "loanToValue" "D" (.double y)) (F3 : Fld Z h0 a "com/example/late_harvest/lateharvest/pricing/PrincipalLimit" "upfrontPremium" "D" (.double z)) (n1 : Jvm.Free.Fl.NoNaN64 (FP.dmul x y)) (n2 : Jvm.Free.Fl.NoNaN64 (FP.dsub FP.dconst1 z)) (n3 : Jvm.Free.Fl.NoNaN64 (FP.dmul (FP.dmul x y) (FP.dsub FP.dconst1 z))) :
    OMet l (⟨"com/example/late_harvest/lateharvest/pricing/PrincipalLimit", "netAmount", "()D"⟩ : MethodName) prog_20_method_7_code 1 (Option.some FieldType.double) [] ({ frames := 1, cells := 0, slots := 0, locals := 12 } : Room) Z h0 [] #[(.ref a)] (fun v h' => v = some (.double (FP.dmul (FP.dmul x y) (FP.dsub FP.dconst1 z))) ∧ h0 = h') := by
  refine OMet.of (own := "com/example/late_harvest/lateharvest/pricing/PrincipalLimit") (nm := "netAmount") (plainFor_of_name pn_3) rfl rfl ?_
  intro p e s m below meth c T0 P0 hby hml hret hnm
  refine Done.step (T' := T0) (g' := (mkF m 0 #[.val (.ref a)] [])) (fun t kk => castTop (ef_net m a) kk) ?_
  refine Done.stepL (pc' := 1) (st' := [(.ref a)]) (fun t kk => ?_) ?_
  · show Steps p.tables e below (T0.setTop (mkF m 0 _ [])) t
    refine XS.aloadN P0.here P0.x rfl (hb hby d_net_0) rfl rfl ?_
    exact kk
  refine wCallV P0 (m_amount l Z a0 hw a x y h0 F1 F2 n1) (tw55 hw) (tw56 hw) (tw58 hw) (tw58 hw) (tw57 hw) (tw6 hw) (tw59 hw) (by decide) E0 (by rw [hml]; rfl) (lenOf pd_4 rfl) (argsL := []) (rest := []) rfl rfl (W := 0) (Nat.le_of_eq rfl) (by decide) (by decide) (by decide) (by decide) (by simp) (hb hby d_net_1) rfl (k' := 0) (n' := 0) rfl rfl ?_
  rintro T1 _ _ P2 - ⟨rfl, rfl⟩
  show Done _ _ _ _ _ _ _ _ _ _ _ _ _ _ _ T1 (mkF m 4 _ [(.double (FP.dmul x y))])
  refine Done.stepL (pc' := 6) (st' := [(.ref a), (.double FP.dconst1), (.double (FP.dmul x y))]) (fun t kk => ?_) ?_
  · show Steps p.tables e below (T1.setTop (mkF m 4 _ [(.double (FP.dmul x y))])) t
    refine XS.dconst1 P2.here P2.x rfl (hb hby d_net_4) rfl ?_
    show Steps p.tables e below (T1.setTop (mkF m 5 _ [(.double FP.dconst1), (.double (FP.dmul x y))])) t
    refine XS.aloadN P2.here P2.x rfl (hb hby d_net_5) rfl rfl ?_
    exact kk
  refine wGet P2 (host := "") (Or.inl (tw48 hw)) Via.refl F3 (hb hby d_net_6) rfl (fun T3 P4 => ?_)
  show Done _ _ _ _ _ _ _ _ _ _ _ _ _ _ _ T3 (mkF m 9 _ [(.double z), (.double FP.dconst1), (.double (FP.dmul x y))])
  refine Done.stepL (pc' := 11) (st' := [(.double (FP.dmul (FP.dmul x y) (FP.dsub FP.dconst1 z)))]) (fun t kk => ?_) ?_
  · show Steps p.tables e below (T3.setTop (mkF m 9 _ [(.double z), (.double FP.dconst1), (.double (FP.dmul x y))])) t
    refine XS.dsubS P4.here P4.x rfl (hb hby d_net_9) rfl n2 rfl ?_
    show Steps p.tables e below (T3.setTop (mkF m 10 _ [(.double (FP.dsub FP.dconst1 z)), (.double (FP.dmul x y))])) t
    refine XS.dmulS P4.here P4.x rfl (hb hby d_net_10) rfl n3 rfl ?_
    exact kk
  exact wRetD P4 hret (hb hby d_net_11) ⟨rfl, rfl⟩
theorem ef_law (m : MethodId) (x0 : Int32) (x1 : Int32) (x2 : Int32) : entryFrame m #[(.int x0), (.int x1), (.int x2)] maxLocals = mkF m 0 #[.val (.int x0), .val (.int x1), .val (.int x2), .unset, .unset, .unset, .unset, .unset, .unset, .unset, .unset, .unset, .unset, .unset, .unset, .unset, .unset, .unset, .unset] [] := by first | (simp [entryFrame, mkF, argsToLocals, Value.category, maxLocals]; done) | rfl
set_option maxRecDepth 65536 in
set_option maxHeartbeats 4000000 in
theorem m_law (l : Launch) (Z : State) (a0 : Array Value) (hw : ∀ d ∈ tables_1, d.before a0 Z = true) (p0 p1 p2 : Int32) (h0 : Heap)  :
    OwnX.OMet l x code maxLocals ret tables_1 room_1 Z h0 [] #[(.int p0), (.int p1), (.int p2)] (fun v h' => v = some (.int 1)) := by
  refine OwnX.OMet.of (own := "com/example/late_harvest/lateharvest/pricing/PrincipalLimitNetAmountPinLaw") (nm := "law") (plainFor_of_name pn_4) rfl rfl ?_
  intro p e s m below meth c T0 P0 hby hml hret hnm
  refine OwnX.Done.step (T' := T0) (g' := (mkF m 0 #[.val (.int p0), .val (.int p1), .val (.int p2), .unset, .unset, .unset, .unset, .unset, .unset, .unset, .unset, .unset, .unset, .unset, .unset, .unset, .unset, .unset, .unset] [])) (fun t kk => castTop (ef_law m p0 p1 p2) kk) ?_
  refine OwnX.Done.step (T' := T0) (g' := (mkF m 25 #[.val (.int p0), .val (.int p1), .val (.int p2), .val (.long ((p0 &&& (1048575 : Int32)).toInt64 + (1 : Int64))), .second, .val (.long (p1 &&& (1048575 : Int32)).toInt64), .second, .val (.int ((p2 &&& (2147483647 : Int32)) - ((p2 &&& (2147483647 : Int32)) / (257 : Int32)) * (257 : Int32))), .unset, .unset, .unset, .unset, .unset, .unset, .unset, .unset, .unset, .unset, .unset] [])) (fun t kk => ?_) ?_
  · show Steps p.tables e below (T0.setTop (mkF m 0 _ [])) t
    refine XS.iloadN P0.here P0.x rfl (hb hby at_0) rfl ?_
    show Steps p.tables e below (T0.setTop (mkF m 1 _ [(.int p0)])) t
    refine OwnX.pLdcI P0 (tw0 hw) (hb hby at_1) rfl ?_
    show Steps p.tables e below (T0.setTop (mkF m 3 _ [(.int (1048575 : Int32)), (.int p0)])) t
    refine XS.iand P0.here P0.x rfl (hb hby at_3) rfl ?_
    show Steps p.tables e below (T0.setTop (mkF m 4 _ [(.int (p0 &&& (1048575 : Int32)))])) t
    refine XS.i2l P0.here P0.x rfl (hb hby at_4) rfl ?_
    show Steps p.tables e below (T0.setTop (mkF m 5 _ [(.long (p0 &&& (1048575 : Int32)).toInt64)])) t
    refine XS.lconst P0.here P0.x rfl (hb hby at_5) ?_
    show Steps p.tables e below (T0.setTop (mkF m 6 _ [(.long (1 : Int64)), (.long (p0 &&& (1048575 : Int32)).toInt64)])) t
    refine XS.ladd P0.here P0.x rfl (hb hby at_6) rfl ?_
    show Steps p.tables e below (T0.setTop (mkF m 7 _ [(.long ((p0 &&& (1048575 : Int32)).toInt64 + (1 : Int64)))])) t
    refine XS.lstoreN P0.here P0.x rfl (hb hby at_7) rfl (l' := #[.val (.int p0), .val (.int p1), .val (.int p2), .val (.long ((p0 &&& (1048575 : Int32)).toInt64 + (1 : Int64))), .second, .unset, .unset, .unset, .unset, .unset, .unset, .unset, .unset, .unset, .unset, .unset, .unset, .unset, .unset]) rfl ?_
    show Steps p.tables e below (T0.setTop (mkF m 8 _ [])) t
    refine XS.iloadN P0.here P0.x rfl (hb hby at_8) rfl ?_
    show Steps p.tables e below (T0.setTop (mkF m 9 _ [(.int p1)])) t
    refine OwnX.pLdcI P0 (tw0 hw) (hb hby at_9) rfl ?_
    show Steps p.tables e below (T0.setTop (mkF m 11 _ [(.int (1048575 : Int32)), (.int p1)])) t
    refine XS.iand P0.here P0.x rfl (hb hby at_11) rfl ?_
    show Steps p.tables e below (T0.setTop (mkF m 12 _ [(.int (p1 &&& (1048575 : Int32)))])) t
    refine XS.i2l P0.here P0.x rfl (hb hby at_12) rfl ?_
    show Steps p.tables e below (T0.setTop (mkF m 13 _ [(.long (p1 &&& (1048575 : Int32)).toInt64)])) t
    refine XS.lstore P0.here P0.x rfl (hb hby at_13) rfl (l' := #[.val (.int p0), .val (.int p1), .val (.int p2), .val (.long ((p0 &&& (1048575 : Int32)).toInt64 + (1 : Int64))), .second, .val (.long (p1 &&& (1048575 : Int32)).toInt64), .second, .unset, .unset, .unset, .unset, .unset, .unset, .unset, .unset, .unset, .unset, .unset, .unset]) rfl ?_
    show Steps p.tables e below (T0.setTop (mkF m 15 _ [])) t
    refine XS.iloadN P0.here P0.x rfl (hb hby at_15) rfl ?_
    show Steps p.tables e below (T0.setTop (mkF m 16 _ [(.int p2)])) t
    refine OwnX.pLdcI P0 (tw1 hw) (hb hby at_16) rfl ?_
    show Steps p.tables e below (T0.setTop (mkF m 18 _ [(.int (2147483647 : Int32)), (.int p2)])) t
    refine XS.iand P0.here P0.x rfl (hb hby at_18) rfl ?_
    show Steps p.tables e below (T0.setTop (mkF m 19 _ [(.int (p2 &&& (2147483647 : Int32)))])) t
    refine XS.sipush P0.here P0.x rfl (hb hby at_19) ?_
    show Steps p.tables e below (T0.setTop (mkF m 22 _ [(.int (257 : Int32)), (.int (p2 &&& (2147483647 : Int32)))])) t
    refine XS.irem P0.here P0.x rfl (hb hby at_22) rfl (by decide) ?_
    show Steps p.tables e below (T0.setTop (mkF m 23 _ [(.int ((p2 &&& (2147483647 : Int32)) - ((p2 &&& (2147483647 : Int32)) / (257 : Int32)) * (257 : Int32)))])) t
    refine XS.istore P0.here P0.x rfl (hb hby at_23) rfl (l' := #[.val (.int p0), .val (.int p1), .val (.int p2), .val (.long ((p0 &&& (1048575 : Int32)).toInt64 + (1 : Int64))), .second, .val (.long (p1 &&& (1048575 : Int32)).toInt64), .second, .val (.int ((p2 &&& (2147483647 : Int32)) - ((p2 &&& (2147483647 : Int32)) / (257 : Int32)) * (257 : Int32))), .unset, .unset, .unset, .unset, .unset, .unset, .unset, .unset, .unset, .unset, .unset]) rfl ?_
    exact kk
  generalize g_av : ((p0 &&& (1048575 : Int32)).toInt64 + (1 : Int64)) = av
  have hav : 1 ≤ av.toInt ∧ av.toInt ≤ 1048576 := by rw [← g_av]; exact own_av p0
  show OwnX.Done _ _ _ _ _ _ _ _ _ _ _ _ _ _ _ T0 (mkF m 25 _ [])
  generalize g_bv : (p1 &&& (1048575 : Int32)).toInt64 = bv
  have hbv : 0 ≤ bv.toInt ∧ bv.toInt ≤ 1048575 := by rw [← g_bv]; exact own_bv p1
  show OwnX.Done _ _ _ _ _ _ _ _ _ _ _ _ _ _ _ T0 (mkF m 25 _ [])
  generalize g_kv : ((p2 &&& (2147483647 : Int32)) - ((p2 &&& (2147483647 : Int32)) / (257 : Int32)) * (257 : Int32)) = kv
  have hkv : 0 ≤ kv.toInt ∧ kv.toInt ≤ 256 := by rw [← g_kv]; exact own_kv p2
  show OwnX.Done _ _ _ _ _ _ _ _ _ _ _ _ _ _ _ T0 (mkF m 25 _ [])
  obtain ⟨nL, nU, f1, g1, f2, g2, f3, g3, hle, n1, n2, n3, nM, hcmp⟩ := own_all av bv kv hav hbv hkv
  refine OwnX.Done.step (T' := T0) (g' := (mkF m 47 #[.val (.int p0), .val (.int p1), .val (.int p2), .val (.long av), .second, .val (.long bv), .second, .val (.int kv), .val (.double (FP.l2d av)), .second, .val (.double (FP.ddiv (FP.l2d bv) (4625196817309499392 : UInt64))), .second, .val (.double (FP.ddiv (FP.i2d kv) (4643211215818981376 : UInt64))), .second, .unset, .unset, .unset, .unset, .unset] [])) (fun t kk => ?_) ?_
  · show Steps p.tables e below (T0.setTop (mkF m 25 _ [])) t
    refine XS.lloadN P0.here P0.x rfl (hb hby at_25) rfl ?_
    show Steps p.tables e below (T0.setTop (mkF m 26 _ [(.long av)])) t
    refine XS.l2dS P0.here P0.x rfl (hb hby at_26) rfl rfl ?_
    show Steps p.tables e below (T0.setTop (mkF m 27 _ [(.double (FP.l2d av))])) t
    refine XS.dstore P0.here P0.x rfl (hb hby at_27) rfl (l' := #[.val (.int p0), .val (.int p1), .val (.int p2), .val (.long av), .second, .val (.long bv), .second, .val (.int kv), .val (.double (FP.l2d av)), .second, .unset, .unset, .unset, .unset, .unset, .unset, .unset, .unset, .unset]) rfl ?_
    show Steps p.tables e below (T0.setTop (mkF m 29 _ [])) t
    refine XS.lload P0.here P0.x rfl (hb hby at_29) rfl ?_
    show Steps p.tables e below (T0.setTop (mkF m 31 _ [(.long bv)])) t
    refine XS.l2dS P0.here P0.x rfl (hb hby at_31) rfl rfl ?_
    show Steps p.tables e below (T0.setTop (mkF m 32 _ [(.double (FP.l2d bv))])) t
    refine OwnX.pLdcD P0 (tw2 hw) (hb hby at_32) rfl ?_
    show Steps p.tables e below (T0.setTop (mkF m 35 _ [(.double (4625196817309499392 : UInt64)), (.double (FP.l2d bv))])) t
    refine XS.ddivS P0.here P0.x rfl (hb hby at_35) rfl nL rfl ?_
    show Steps p.tables e below (T0.setTop (mkF m 36 _ [(.double (FP.ddiv (FP.l2d bv) (4625196817309499392 : UInt64)))])) t
    refine XS.dstore P0.here P0.x rfl (hb hby at_36) rfl (l' := #[.val (.int p0), .val (.int p1), .val (.int p2), .val (.long av), .second, .val (.long bv), .second, .val (.int kv), .val (.double (FP.l2d av)), .second, .val (.double (FP.ddiv (FP.l2d bv) (4625196817309499392 : UInt64))), .second, .unset, .unset, .unset, .unset, .unset, .unset, .unset]) rfl ?_
    show Steps p.tables e below (T0.setTop (mkF m 38 _ [])) t
    refine XS.iload P0.here P0.x rfl (hb hby at_38) rfl ?_
    show Steps p.tables e below (T0.setTop (mkF m 40 _ [(.int kv)])) t
    refine XS.i2dS P0.here P0.x rfl (hb hby at_40) rfl rfl ?_
    show Steps p.tables e below (T0.setTop (mkF m 41 _ [(.double (FP.i2d kv))])) t
    refine OwnX.pLdcD P0 (tw3 hw) (hb hby at_41) rfl ?_
    show Steps p.tables e below (T0.setTop (mkF m 44 _ [(.double (4643211215818981376 : UInt64)), (.double (FP.i2d kv))])) t
    refine XS.ddivS P0.here P0.x rfl (hb hby at_44) rfl nU rfl ?_
    show Steps p.tables e below (T0.setTop (mkF m 45 _ [(.double (FP.ddiv (FP.i2d kv) (4643211215818981376 : UInt64)))])) t
    refine XS.dstore P0.here P0.x rfl (hb hby at_45) rfl (l' := #[.val (.int p0), .val (.int p1), .val (.int p2), .val (.long av), .second, .val (.long bv), .second, .val (.int kv), .val (.double (FP.l2d av)), .second, .val (.double (FP.ddiv (FP.l2d bv) (4625196817309499392 : UInt64))), .second, .val (.double (FP.ddiv (FP.i2d kv) (4643211215818981376 : UInt64))), .second, .unset, .unset, .unset, .unset, .unset]) rfl ?_
    exact kk
  refine OwnX.wNew P0 (tw4 hw) (tw5 hw) (tw6 hw) (hb hby at_47) rfl (by decide) (by decide) (k' := 1) (n' := 3) rfl rfl (fun T1 h3 b4 g5 lt6 P2 E7 X8 D9 => ?_)
  have ge_b4 : h0.size ≤ b4 := by have := P0.ge; omega
  have F10 : Fld Z h3 b4 "com/example/late_harvest/lateharvest/pricing/PrincipalLimit" "propertyValue" "D" (.double (0 : UInt64)) := D9 (Or.inr (tw45 hw)) (ty := .double) (by decide)
  have F11 : Fld Z h3 b4 "com/example/late_harvest/lateharvest/pricing/PrincipalLimit" "loanToValue" "D" (.double (0 : UInt64)) := D9 (Or.inr (tw47 hw)) (ty := .double) (by decide)
  have F12 : Fld Z h3 b4 "com/example/late_harvest/lateharvest/pricing/PrincipalLimit" "upfrontPremium" "D" (.double (0 : UInt64)) := D9 (Or.inr (tw49 hw)) (ty := .double) (by decide)
  show OwnX.Done _ _ _ _ _ _ _ _ _ _ _ _ _ _ _ T1 (mkF m 50 _ [(.ref b4)])
  refine OwnX.Done.stepL (pc' := 57) (st' := [(.double (FP.ddiv (FP.i2d kv) (4643211215818981376 : UInt64))), (.double (FP.ddiv (FP.l2d bv) (4625196817309499392 : UInt64))), (.double (FP.l2d av)), (.ref b4), (.ref b4)]) (fun t kk => ?_) ?_
  · show Steps p.tables e below (T1.setTop (mkF m 50 _ [(.ref b4)])) t
    refine XS.dup P2.here P2.x rfl (hb hby at_50) rfl rfl ?_
    show Steps p.tables e below (T1.setTop (mkF m 51 _ [(.ref b4), (.ref b4)])) t
    refine XS.dload P2.here P2.x rfl (hb hby at_51) rfl ?_
    show Steps p.tables e below (T1.setTop (mkF m 53 _ [(.double (FP.l2d av)), (.ref b4), (.ref b4)])) t
    refine XS.dload P2.here P2.x rfl (hb hby at_53) rfl ?_
    show Steps p.tables e below (T1.setTop (mkF m 55 _ [(.double (FP.ddiv (FP.l2d bv) (4625196817309499392 : UInt64))), (.double (FP.l2d av)), (.ref b4), (.ref b4)])) t
    refine XS.dload P2.here P2.x rfl (hb hby at_55) rfl ?_
    exact kk
  refine OwnX.wCallIW P2 (m_init l Z a0 hw b4 (FP.l2d av) (FP.ddiv (FP.l2d bv) (4625196817309499392 : UInt64)) (FP.ddiv (FP.i2d kv) (4643211215818981376 : UInt64)) h3 X8  F10 F11 F12 f1 g1 f2 g2 f3 g3 hle) rfl (tw7 hw) (tw8 hw) (tw6 hw) (tw9 hw) (by decide) (a := b4) (by rw [hml]; rfl) (lenOf pd_5 rfl) (argsL := [(.double (FP.l2d av)), (.double (FP.ddiv (FP.l2d bv) (4625196817309499392 : UInt64))), (.double (FP.ddiv (FP.i2d kv) (4643211215818981376 : UInt64)))]) (rest := [(.ref b4)]) rfl rfl (W := 1) (Nat.le_of_eq rfl) (by decide) (by decide) (by decide) (by decide) (allS (Or.inr ge_b4) all0) (hb hby at_57) rfl (k' := 7) (n' := 211) rfl rfl ?_
  rintro T13 h18 _ P14 K19 ⟨rfl, F15, F16, F17⟩
  have szh18 : h3.size ≤ h18.size := K19.1
  show OwnX.Done _ _ _ _ _ _ _ _ _ _ _ _ _ _ _ T13 (mkF m 60 _ [(.ref b4)])
  refine OwnX.Done.step (T' := T13) (g' := (mkF m 64 #[.val (.int p0), .val (.int p1), .val (.int p2), .val (.long av), .second, .val (.long bv), .second, .val (.int kv), .val (.double (FP.l2d av)), .second, .val (.double (FP.ddiv (FP.l2d bv) (4625196817309499392 : UInt64))), .second, .val (.double (FP.ddiv (FP.i2d kv) (4643211215818981376 : UInt64))), .second, .val (.ref b4), .unset, .unset, .unset, .unset] [(.ref b4)])) (fun t kk => ?_) ?_
  · show Steps p.tables e below (T13.setTop (mkF m 60 _ [(.ref b4)])) t
    refine XS.astore P14.here P14.x rfl (hb hby at_60) rfl rfl (l' := #[.val (.int p0), .val (.int p1), .val (.int p2), .val (.long av), .second, .val (.long bv), .second, .val (.int kv), .val (.double (FP.l2d av)), .second, .val (.double (FP.ddiv (FP.l2d bv) (4625196817309499392 : UInt64))), .second, .val (.double (FP.ddiv (FP.i2d kv) (4643211215818981376 : UInt64))), .second, .val (.ref b4), .unset, .unset, .unset, .unset]) rfl ?_
    show Steps p.tables e below (T13.setTop (mkF m 62 _ [])) t
    refine XS.aload P14.here P14.x rfl (hb hby at_62) rfl rfl ?_
    exact kk
  have f22 := (X8.keep K19)
  refine OwnX.wCallV P14 (m_net l Z a0 hw b4 (FP.l2d av) (FP.ddiv (FP.l2d bv) (4625196817309499392 : UInt64)) (FP.ddiv (FP.i2d kv) (4643211215818981376 : UInt64)) h18 f22 F15 F16 F17 n1 n2 n3) (tw50 hw) (tw51 hw) (tw53 hw) (tw53 hw) (tw52 hw) (tw6 hw) (tw54 hw) (by decide) f22 (by rw [hml]; rfl) (lenOf pd_4 rfl) (argsL := []) (rest := []) rfl rfl (W := 0) (Nat.le_of_eq rfl) (by decide) (by decide) (by decide) (by decide) (by simp) (hb hby at_64) rfl (k' := 7) (n' := 211) rfl rfl ?_
  rintro T20 _ _ P21 - ⟨rfl, rfl⟩
  show OwnX.Done _ _ _ _ _ _ _ _ _ _ _ _ _ _ _ T20 (mkF m 67 _ [(.double (FP.dmul (FP.dmul (FP.l2d av) (FP.ddiv (FP.l2d bv) (4625196817309499392 : UInt64))) (FP.dsub FP.dconst1 (FP.ddiv (FP.i2d kv) (4643211215818981376 : UInt64)))))])
  refine OwnX.Done.step (T' := T20) (g' := (mkF m 101 #[.val (.int p0), .val (.int p1), .val (.int p2), .val (.long av), .second, .val (.long bv), .second, .val (.int kv), .val (.double (FP.l2d av)), .second, .val (.double (FP.ddiv (FP.l2d bv) (4625196817309499392 : UInt64))), .second, .val (.double (FP.ddiv (FP.i2d kv) (4643211215818981376 : UInt64))), .second, .val (.ref b4), .val (.double (FP.dmul (FP.dmul (FP.l2d av) (FP.ddiv (FP.l2d bv) (4625196817309499392 : UInt64))) (FP.dsub FP.dconst1 (FP.ddiv (FP.i2d kv) (4643211215818981376 : UInt64))))), .second, .val (.long ((av * bv) * ((256 : Int32) - kv).toInt64)), .second] [(.int (1 : Int32))])) (fun t kk => ?_) ?_
  · show Steps p.tables e below (T20.setTop (mkF m 67 _ [(.double (FP.dmul (FP.dmul (FP.l2d av) (FP.ddiv (FP.l2d bv) (4625196817309499392 : UInt64))) (FP.dsub FP.dconst1 (FP.ddiv (FP.i2d kv) (4643211215818981376 : UInt64)))))])) t
    refine XS.dstore P21.here P21.x rfl (hb hby at_67) rfl (l' := #[.val (.int p0), .val (.int p1), .val (.int p2), .val (.long av), .second, .val (.long bv), .second, .val (.int kv), .val (.double (FP.l2d av)), .second, .val (.double (FP.ddiv (FP.l2d bv) (4625196817309499392 : UInt64))), .second, .val (.double (FP.ddiv (FP.i2d kv) (4643211215818981376 : UInt64))), .second, .val (.ref b4), .val (.double (FP.dmul (FP.dmul (FP.l2d av) (FP.ddiv (FP.l2d bv) (4625196817309499392 : UInt64))) (FP.dsub FP.dconst1 (FP.ddiv (FP.i2d kv) (4643211215818981376 : UInt64))))), .second, .unset, .unset]) rfl ?_
    show Steps p.tables e below (T20.setTop (mkF m 69 _ [])) t
    refine XS.lloadN P21.here P21.x rfl (hb hby at_69) rfl ?_
    show Steps p.tables e below (T20.setTop (mkF m 70 _ [(.long av)])) t
    refine XS.lload P21.here P21.x rfl (hb hby at_70) rfl ?_
    show Steps p.tables e below (T20.setTop (mkF m 72 _ [(.long bv), (.long av)])) t
    refine XS.lmul P21.here P21.x rfl (hb hby at_72) rfl ?_
    show Steps p.tables e below (T20.setTop (mkF m 73 _ [(.long (av * bv))])) t
    refine XS.sipush P21.here P21.x rfl (hb hby at_73) ?_
    show Steps p.tables e below (T20.setTop (mkF m 76 _ [(.int (256 : Int32)), (.long (av * bv))])) t
    refine XS.iload P21.here P21.x rfl (hb hby at_76) rfl ?_
    show Steps p.tables e below (T20.setTop (mkF m 78 _ [(.int kv), (.int (256 : Int32)), (.long (av * bv))])) t
    refine XS.isub P21.here P21.x rfl (hb hby at_78) rfl ?_
    show Steps p.tables e below (T20.setTop (mkF m 79 _ [(.int ((256 : Int32) - kv)), (.long (av * bv))])) t
    refine XS.i2l P21.here P21.x rfl (hb hby at_79) rfl ?_
    show Steps p.tables e below (T20.setTop (mkF m 80 _ [(.long ((256 : Int32) - kv).toInt64), (.long (av * bv))])) t
    refine XS.lmul P21.here P21.x rfl (hb hby at_80) rfl ?_
    show Steps p.tables e below (T20.setTop (mkF m 81 _ [(.long ((av * bv) * ((256 : Int32) - kv).toInt64))])) t
    refine XS.lstore P21.here P21.x rfl (hb hby at_81) rfl (l' := #[.val (.int p0), .val (.int p1), .val (.int p2), .val (.long av), .second, .val (.long bv), .second, .val (.int kv), .val (.double (FP.l2d av)), .second, .val (.double (FP.ddiv (FP.l2d bv) (4625196817309499392 : UInt64))), .second, .val (.double (FP.ddiv (FP.i2d kv) (4643211215818981376 : UInt64))), .second, .val (.ref b4), .val (.double (FP.dmul (FP.dmul (FP.l2d av) (FP.ddiv (FP.l2d bv) (4625196817309499392 : UInt64))) (FP.dsub FP.dconst1 (FP.ddiv (FP.i2d kv) (4643211215818981376 : UInt64))))), .second, .val (.long ((av * bv) * ((256 : Int32) - kv).toInt64)), .second]) rfl ?_
    show Steps p.tables e below (T20.setTop (mkF m 83 _ [])) t
    refine XS.dload P21.here P21.x rfl (hb hby at_83) rfl ?_
    show Steps p.tables e below (T20.setTop (mkF m 85 _ [(.double (FP.dmul (FP.dmul (FP.l2d av) (FP.ddiv (FP.l2d bv) (4625196817309499392 : UInt64))) (FP.dsub FP.dconst1 (FP.ddiv (FP.i2d kv) (4643211215818981376 : UInt64)))))])) t
    refine OwnX.pLdcD P21 (tw60 hw) (hb hby at_85) rfl ?_
    show Steps p.tables e below (T20.setTop (mkF m 88 _ [(.double (4661225614328463360 : UInt64)), (.double (FP.dmul (FP.dmul (FP.l2d av) (FP.ddiv (FP.l2d bv) (4625196817309499392 : UInt64))) (FP.dsub FP.dconst1 (FP.ddiv (FP.i2d kv) (4643211215818981376 : UInt64)))))])) t
    refine XS.dmulS P21.here P21.x rfl (hb hby at_88) rfl nM rfl ?_
    show Steps p.tables e below (T20.setTop (mkF m 89 _ [(.double (FP.dmul (FP.dmul (FP.dmul (FP.l2d av) (FP.ddiv (FP.l2d bv) (4625196817309499392 : UInt64))) (FP.dsub FP.dconst1 (FP.ddiv (FP.i2d kv) (4643211215818981376 : UInt64)))) (4661225614328463360 : UInt64)))])) t
    refine XS.lload P21.here P21.x rfl (hb hby at_89) rfl ?_
    show Steps p.tables e below (T20.setTop (mkF m 91 _ [(.long ((av * bv) * ((256 : Int32) - kv).toInt64)), (.double (FP.dmul (FP.dmul (FP.dmul (FP.l2d av) (FP.ddiv (FP.l2d bv) (4625196817309499392 : UInt64))) (FP.dsub FP.dconst1 (FP.ddiv (FP.i2d kv) (4643211215818981376 : UInt64)))) (4661225614328463360 : UInt64)))])) t
    refine XS.l2dS P21.here P21.x rfl (hb hby at_91) rfl rfl ?_
    show Steps p.tables e below (T20.setTop (mkF m 92 _ [(.double (FP.l2d ((av * bv) * ((256 : Int32) - kv).toInt64))), (.double (FP.dmul (FP.dmul (FP.dmul (FP.l2d av) (FP.ddiv (FP.l2d bv) (4625196817309499392 : UInt64))) (FP.dsub FP.dconst1 (FP.ddiv (FP.i2d kv) (4643211215818981376 : UInt64)))) (4661225614328463360 : UInt64)))])) t
    refine XS.dcmpS P21.here P21.x rfl (hb hby at_92) rfl hcmp ?_
    show Steps p.tables e below (T20.setTop (mkF m 93 _ [(.int (0 : Int32))])) t
    refine XS.ifNo P21.here P21.x rfl (hb hby at_93) rfl (i0W_ne_f (by decide)) ?_
    show Steps p.tables e below (T20.setTop (mkF m 96 _ [])) t
    refine XS.iconst P21.here P21.x rfl (hb hby at_96) ?_
    show Steps p.tables e below (T20.setTop (mkF m 97 _ [(.int (1 : Int32))])) t
    refine XS.goto P21.here P21.x rfl (pc0 := 97) (pc' := 101) rfl (hb hby at_97) (by decide) (by decide) ?_
    exact kk
  exact OwnX.wRet P21 (t := .boolean) hret (narrow_01 (Or.inr rfl)) (Or.inl ⟨rfl, Or.inr (Or.inl rfl), _, rfl⟩) (hb hby at_101) rfl
set_option maxRecDepth 65536 in
set_option maxHeartbeats 4000000 in
theorem comes_1 {Post : Tables → Env → Array Value → State → Outcome → State → Prop} (hpost : ∀ tb e args s v u, (limb_1_1.after args s (.returned v) u = true ∧ limb_1_2.after args s (.returned v) u = true ∧ True) → ReturnedEndW s (.returned v) u (Jvm.fieldLocs frame_1_writes args s ++ Jvm.arrayLocs frame_1_arrays args s ++ Jvm.staticLocs frame_1_statics s) 16 3200 → Post tb e args s (.returned v) u) :
    ArmFor flags0 classFile x code maxLocals ret World_1 tables_1 room_1 Calls_1 rest_1 Pre_1 Post := by
  intro l hfl _ _ p e ha hc hk s m args below hf hA hF happ hP
  obtain ⟨hcalls, hrest, hpre⟩ := hP
  obtain ⟨-, -, -, hnamed, -, -, -, hat⟩ := (Spec.applies_iff hf).mp happ
  obtain ⟨hg, hn⟩ := and_e (Cond.before_iff.mp (show (Jvm.Cond.and given_1 narrow_1).before args s = true from hpre))
  obtain ⟨h1, g0⟩ := and_e hg
  obtain ⟨q0, g1⟩ := and_e g0
  obtain ⟨q1, g2⟩ := and_e g1
  obtain ⟨w0, w1, w2, rfl⟩ : ∃ w0 w1 w2 : Value, args = #[w0, w1, w2] := by
    have hs : args.size = 3 := by simpa [Cond.value, given_1] using h1
    obtain ⟨L⟩ := args
    match L, hs with
    | [w0, w1, w2], _ => exact ⟨w0, w1, w2, rfl⟩
  have hw := fun d (hd : d ∈ tables_1) => atoms_spec (ws := Jvm.Cond.code x code maxLocals ret :: tables_1) hat d (List.mem_cons_of_mem _ hd)
  have hfit : Fit s := fun {y c} hc i hi => by
    obtain ⟨ha, rfl⟩ := Array.getElem?_eq_some_iff.mp hc
    have q := List.all_eq_true.mp ((Array.all_eq_true_iff_forall_mem.mp hF) _ (Array.getElem_mem ha)) i (List.mem_range.mpr hi)
    simpa [Array.getElem?_eq_getElem hi] using q
  obtain ⟨i0, e0⟩ := is_v q0
  obtain rfl : w0 = (.int i0) := Option.some.inj e0
  obtain ⟨i1, e1⟩ := is_v q1
  obtain rfl : w1 = (.int i1) := Option.some.inj e1
  obtain ⟨i2, e2⟩ := is_v g2
  obtain rfl : w2 = (.int i2) := Option.some.inj e2
  obtain ⟨n, o, h1, h2, h3, _, L, rfl, ⟨rfl, N, -⟩, hq⟩ := m_law l s _ hw  i0 i1 i2  s.heap  p e ha hc hk s m _ below hf ((Spec.applies_iff_loose hf).mp happ).1 ⟨rfl, State.Warmed39.refl s, rfl⟩ trivial
  refine ⟨n, _, h1, h2, h3, hpost _ _ _ _ _ _ ⟨Cond.after_iff.mpr rfl, Cond.after_iff.mpr (eq_i res_at (Term.int_eval (1)) rfl), trivial⟩ ⟨hq.1, hq.2.1, hq.2.2.1, (hq.2.2.2.sift fun y hy => Or.inr ((N y hy).resolve_left (by simp))).mono (by decide) (by decide)⟩⟩
theorem main_1_1 : Claimed_1_1 := comes_1 fun _ _ _ _ _ _ h hF => ⟨h.1, hF⟩
theorem main_1_2 : Claimed_1_2 := comes_1 fun _ _ _ _ _ _ h hF => ⟨h.2.1, hF⟩
end Jvm.Pilot.@@N@@
namespace Jvm.Pilot.@@N@@
open Jvm Jvm.ClassFile Sem Op Lib Jvm.Free Jvm.Stand Jvm.Pilot.@@N@@.Jvm.D
/-! MADE BY PROGRAM (witnessworld.py) out of the Statement's table words and the real class files: 19 classes; the members and pool entries that the words name. The judged class is class 1, her method 1. -/
namespace start1
open Jvm.ClassFile
def u (s : String) : CpInfo := .utf8 (stringToUtf16 s)
/-- a pool by its gaps: so many unusable entries, then the entry; so many at the end -/
def gap : Nat → List CpInfo → List CpInfo
  | 0, r => r
  | n + 1, r => .unusable :: gap n r
def poolList (es : List (Nat × CpInfo)) (last : Nat) : List CpInfo := es.foldr (fun e r => gap e.1 (e.2 :: r)) (gap last [])
def pool (es : List (Nat × CpInfo)) (last : Nat) : Array CpInfo := ⟨poolList es last⟩
def fileOf (pool : Array CpInfo) (this : Nat) (attrs : Array Attribute := #[]) (ms : Array MethodInfo := #[]) (fl : Nat := 33) (sup : Nat := 0) (ifs : Array Nat := #[]) (fds : Array FieldInfo := #[]) : ClassFile where
  minorVersion := 0
  majorVersion := 65
  constantPool := pool
  accessFlags := fl
  thisClass := this
  superClass := sup
  interfaces := ifs
  fields := fds
  methods := ms
  attributes := attrs
def plain (name : String) (sup : Option ClassId) : Class where
  name := name
  kind := .ordinary
  loader := none
  accessFlags := 33
  super := sup
  interfaces := #[]
  cf := none
  fields := #[]
  methods := #[]
  instanceTypes := #[]
  staticTypes := #[]
  resolved := #[]
  callSites := []
  init := .initialized
  statics := none
  mirror := none

def pool0 : Array CpInfo := pool [(5, u "<init>"), (0, u "()V"), (1, .class_ 10), (1, u "java/lang/Object")] 113

def k0c0 : Code := { maxStack := 0, maxLocals := 1, code := object_method_1_code, exceptionTable := #[], attributes := #[] }
def k0m0 : Method := { name := "<init>", desc := "()V", sig := { parameters := [], returnType := none }, accessFlags := 1, code := some k0c0 }
/-- java/lang/Object -/
def k0 : Class := { plain "java/lang/Object" none with
  accessFlags := 33
  interfaces := #[]
  cf := some (fileOf pool0 8 #[] #[{ accessFlags := 1, nameIndex := 5, descriptorIndex := 6, attributes := #[] }] 33 0 #[] #[])
  fields := #[]
  methods := #[k0m0]
  instanceTypes := #[]
  staticTypes := #[]
  resolved := Array.replicate 124 none
  statics := none }

def pool1 : Array CpInfo := pool [(2, .class_ 4), (1, u "java/lang/Object"), (0, u "<init>"), (0, u "()V"), (0, .integer 1048575), (0, .integer 2147483647), (0, .double 4625196817309499392), (1, .double 4643211215818981376), (1, .class_ 14), (0, u "com/example/late_harvest/lateharvest/pricing/PrincipalLimit"), (0, .methodref 13 16), (0, .nameAndType 5 17), (0, u "(DDD)V"), (0, .methodref 13 19), (0, .nameAndType 20 21), (0, u "netAmount"), (0, u "()D"), (0, .double 4661225614328463360), (1, .class_ 25), (0, u "com/example/late_harvest/lateharvest/pricing/PrincipalLimitNetAmountPinLaw"), (2, u "law"), (0, u "(III)Z")] 3

def k1m0 : Method := { name := "<init>", desc := "()V", sig := { parameters := [], returnType := none }, accessFlags := 2, code := none }
def k1c1 : Code := { maxStack := 8, maxLocals := 19, code := code, exceptionTable := #[], attributes := #[] }
def k1m1 : Method := { name := "law", desc := "(III)Z", sig := { parameters := [.int, .int, .int], returnType := some .boolean }, accessFlags := 9, code := some k1c1 }
/-- com/example/late_harvest/lateharvest/pricing/PrincipalLimitNetAmountPinLaw -/
def k1 : Class := { plain "com/example/late_harvest/lateharvest/pricing/PrincipalLimitNetAmountPinLaw" (some 0) with
  accessFlags := 49
  interfaces := #[]
  cf := some (fileOf pool1 24 #[] #[{ accessFlags := 2, nameIndex := 5, descriptorIndex := 6, attributes := #[] }, { accessFlags := 9, nameIndex := 28, descriptorIndex := 29, attributes := #[] }] 49 2 #[] #[])
  fields := #[]
  methods := #[k1m0, k1m1]
  instanceTypes := #[]
  staticTypes := #[]
  resolved := Array.replicate 33 none
  statics := none }

def pool2 : Array CpInfo := pool [(1, .methodref 2 3), (0, .class_ 4), (0, .nameAndType 5 6), (0, u "java/lang/Object"), (0, u "<init>"), (0, u "()V"), (0, .class_ 8), (0, u "java/lang/Record")] 13

def k2c0 : Code := { maxStack := 1, maxLocals := 1, code := jdk_30_method_1_code, exceptionTable := #[], attributes := #[] }
def k2m0 : Method := { name := "<init>", desc := "()V", sig := { parameters := [], returnType := none }, accessFlags := 4, code := some k2c0 }
/-- java/lang/Record -/
def k2 : Class := { plain "java/lang/Record" (some 0) with
  accessFlags := 1057
  interfaces := #[]
  cf := some (fileOf pool2 7 #[] #[{ accessFlags := 4, nameIndex := 5, descriptorIndex := 6, attributes := #[] }] 1057 2 #[] #[])
  fields := #[]
  methods := #[k2m0]
  instanceTypes := #[]
  staticTypes := #[]
  resolved := Array.replicate 22 none
  statics := none }

def pool3 : Array CpInfo := pool [(1, .methodref 2 3), (0, .class_ 4), (0, .nameAndType 5 6), (0, u "java/lang/Record"), (0, u "<init>"), (0, u "()V"), (0, .string 8), (0, u "property value"), (0, .methodref 10 11), (0, .class_ 12), (0, .nameAndType 13 14), (0, u "com/example/late_harvest/lateharvest/pricing/Loan"), (0, u "requirePositive"), (0, u "(Ljava/lang/String;D)V"), (0, .string 16), (0, u "loan-to-value ratio"), (0, .methodref 10 18), (0, .nameAndType 19 14), (0, u "requireNonNegative"), (0, .string 21), (0, u "up-front premium"), (9, .fieldref 32 33), (0, .class_ 34), (0, .nameAndType 35 36), (0, u "com/example/late_harvest/lateharvest/pricing/PrincipalLimit"), (0, u "propertyValue"), (0, u "D"), (0, .fieldref 32 38), (0, .nameAndType 39 36), (0, u "loanToValue"), (0, .fieldref 32 41), (0, .nameAndType 42 36), (0, u "upfrontPremium"), (50, u "(DDD)V"), (0, .methodref 32 95), (0, .nameAndType 96 97), (0, u "amount"), (0, u "()D"), (2, u "netAmount")] 66

def k3c0 : Code := { maxStack := 4, maxLocals := 7, code := prog_20_method_1_code, exceptionTable := #[], attributes := #[] }
def k3m0 : Method := { name := "<init>", desc := "(DDD)V", sig := { parameters := [.double, .double, .double], returnType := none }, accessFlags := 1, code := some k3c0 }
def k3c1 : Code := { maxStack := 4, maxLocals := 1, code := prog_20_method_6_code, exceptionTable := #[], attributes := #[] }
def k3m1 : Method := { name := "amount", desc := "()D", sig := { parameters := [], returnType := some .double }, accessFlags := 1, code := some k3c1 }
def k3c2 : Code := { maxStack := 6, maxLocals := 1, code := prog_20_method_7_code, exceptionTable := #[], attributes := #[] }
def k3m2 : Method := { name := "netAmount", desc := "()D", sig := { parameters := [], returnType := some .double }, accessFlags := 1, code := some k3c2 }
/-- com/example/late_harvest/lateharvest/pricing/PrincipalLimit -/
def k3 : Class := { plain "com/example/late_harvest/lateharvest/pricing/PrincipalLimit" (some 2) with
  accessFlags := 49
  interfaces := #[]
  cf := some (fileOf pool3 32 #[] #[{ accessFlags := 1, nameIndex := 5, descriptorIndex := 93, attributes := #[] }, { accessFlags := 1, nameIndex := 96, descriptorIndex := 97, attributes := #[] }, { accessFlags := 1, nameIndex := 100, descriptorIndex := 97, attributes := #[] }] 49 2 #[] #[{ accessFlags := 18, nameIndex := 35, descriptorIndex := 36, attributes := #[] }, { accessFlags := 18, nameIndex := 39, descriptorIndex := 36, attributes := #[] }, { accessFlags := 18, nameIndex := 42, descriptorIndex := 36, attributes := #[] }])
  fields := #[{ name := "propertyValue", type := .double, accessFlags := 18, slot := 0, constantValue := 0 }, { name := "loanToValue", type := .double, accessFlags := 18, slot := 1, constantValue := 0 }, { name := "upfrontPremium", type := .double, accessFlags := 18, slot := 2, constantValue := 0 }]
  methods := #[k3m0, k3m1, k3m2]
  instanceTypes := #[.double, .double, .double]
  staticTypes := #[]
  resolved := Array.replicate 167 none
  statics := none }

def pool4 : Array CpInfo := pool [(1, .class_ 2), (0, u "java/io/Serializable"), (0, .class_ 4), (0, u "java/lang/Object")] 2

/-- java/io/Serializable -/
def k4 : Class := { plain "java/io/Serializable" (some 0) with
  accessFlags := 1537
  interfaces := #[]
  cf := some (fileOf pool4 1 #[] #[] 1537 3 #[] #[])
  fields := #[]
  methods := #[]
  instanceTypes := #[]
  staticTypes := #[]
  resolved := Array.replicate 7 none
  statics := none }

def pool5 : Array CpInfo := pool [(1, .class_ 2), (0, u "java/lang/Comparable"), (0, .class_ 4), (0, u "java/lang/Object")] 7

/-- java/lang/Comparable -/
def k5 : Class := { plain "java/lang/Comparable" (some 0) with
  accessFlags := 1537
  interfaces := #[]
  cf := some (fileOf pool5 1 #[] #[] 1537 3 #[] #[])
  fields := #[]
  methods := #[]
  instanceTypes := #[]
  staticTypes := #[]
  resolved := Array.replicate 12 none
  statics := none }

def pool6 : Array CpInfo := pool [(2, .class_ 4), (1, u "java/lang/CharSequence"), (42, .class_ 48), (0, u "java/lang/CharSequence$1CodePointIterator"), (10, .class_ 60), (0, u "java/lang/CharSequence$1CharIterator"), (5, .class_ 67), (0, u "java/lang/Object")] 63

/-- java/lang/CharSequence -/
def k6 : Class := { plain "java/lang/CharSequence" (some 0) with
  accessFlags := 1537
  interfaces := #[]
  cf := some (fileOf pool6 2 #[.nestMembers #[47, 59]] #[] 1537 66 #[] #[])
  fields := #[]
  methods := #[]
  instanceTypes := #[]
  staticTypes := #[]
  resolved := Array.replicate 131 none
  statics := none }

def pool7 : Array CpInfo := pool [(1, .class_ 2), (0, u "java/lang/constant/Constable"), (0, .class_ 4), (0, u "java/lang/Object")] 6

/-- java/lang/constant/Constable -/
def k7 : Class := { plain "java/lang/constant/Constable" (some 0) with
  accessFlags := 1537
  interfaces := #[]
  cf := some (fileOf pool7 1 #[] #[] 1537 3 #[] #[])
  fields := #[]
  methods := #[]
  instanceTypes := #[]
  staticTypes := #[]
  resolved := Array.replicate 11 none
  statics := none }

def pool8 : Array CpInfo := pool [(1, .class_ 2), (0, u "java/lang/constant/ConstantDesc"), (0, .class_ 4), (0, u "java/lang/Object")] 32

/-- java/lang/constant/ConstantDesc -/
def k8 : Class := { plain "java/lang/constant/ConstantDesc" (some 0) with
  accessFlags := 1537
  interfaces := #[]
  cf := some (fileOf pool8 1 #[] #[] 1537 3 #[] #[])
  fields := #[]
  methods := #[]
  instanceTypes := #[]
  staticTypes := #[]
  resolved := Array.replicate 37 none
  statics := none }

def pool9 : Array CpInfo := pool [(2, .class_ 4), (1, u "java/lang/Object"), (0, u "<init>"), (0, u "()V"), (3, .class_ 12), (1, u "java/lang/String"), (0, u "value"), (0, u "[B"), (2, u "coder"), (0, u "B"), (2, u "hash"), (0, u "I"), (2, u "hashIsZero"), (0, u "Z"), (13, u "COMPACT_STRINGS"), (534, .class_ 576), (0, u "java/lang/CharSequence"), (22, u "CASE_INSENSITIVE_ORDER"), (0, u "Ljava/util/Comparator;"), (500, u "serialPersistentFields"), (0, u "[Ljava/io/ObjectStreamField;"), (0, .class_ 1104), (0, u "java/lang/String$CaseInsensitiveComparator"), (1, .class_ 1107), (0, u "java/io/Serializable"), (0, .class_ 1109), (0, u "java/lang/Comparable"), (0, .class_ 1111), (0, u "java/lang/constant/Constable"), (0, .class_ 1113), (0, u "java/lang/constant/ConstantDesc"), (2, u "serialVersionUID"), (0, u "J"), (3, u "REPL"), (0, u "C"), (2, u "LATIN1"), (1, u "UTF16")] 323

def k9m0 : Method := { name := "<init>", desc := "()V", sig := { parameters := [], returnType := none }, accessFlags := 1, code := none }
/-- java/lang/String -/
def k9 : Class := { plain "java/lang/String" (some 0) with
  accessFlags := 49
  interfaces := #[4, 5, 6, 7, 8]
  cf := some (fileOf pool9 10 #[.nestMembers #[1103]] #[{ accessFlags := 1, nameIndex := 5, descriptorIndex := 6, attributes := #[] }] 49 2 #[1106, 1108, 575, 1110, 1112] #[{ accessFlags := 18, nameIndex := 13, descriptorIndex := 14, attributes := #[] }, { accessFlags := 18, nameIndex := 17, descriptorIndex := 18, attributes := #[] }, { accessFlags := 2, nameIndex := 21, descriptorIndex := 22, attributes := #[] }, { accessFlags := 2, nameIndex := 25, descriptorIndex := 26, attributes := #[] }, { accessFlags := 26, nameIndex := 1116, descriptorIndex := 1117, attributes := #[] }, { accessFlags := 24, nameIndex := 40, descriptorIndex := 26, attributes := #[] }, { accessFlags := 26, nameIndex := 1101, descriptorIndex := 1102, attributes := #[] }, { accessFlags := 26, nameIndex := 1121, descriptorIndex := 1122, attributes := #[] }, { accessFlags := 25, nameIndex := 599, descriptorIndex := 600, attributes := #[] }, { accessFlags := 24, nameIndex := 1125, descriptorIndex := 18, attributes := #[] }, { accessFlags := 24, nameIndex := 1127, descriptorIndex := 18, attributes := #[] }])
  fields := #[{ name := "value", type := (.array .byte), accessFlags := 18, slot := 0, constantValue := 0 }, { name := "coder", type := .byte, accessFlags := 18, slot := 1, constantValue := 0 }, { name := "hash", type := .int, accessFlags := 2, slot := 2, constantValue := 0 }, { name := "hashIsZero", type := .boolean, accessFlags := 2, slot := 3, constantValue := 0 }, { name := "serialVersionUID", type := .long, accessFlags := 26, slot := 0, constantValue := 0 }, { name := "COMPACT_STRINGS", type := .boolean, accessFlags := 24, slot := 1, constantValue := 0 }, { name := "serialPersistentFields", type := (.array (.object "java/io/ObjectStreamField")), accessFlags := 26, slot := 2, constantValue := 0 }, { name := "REPL", type := .char, accessFlags := 26, slot := 3, constantValue := 0 }, { name := "CASE_INSENSITIVE_ORDER", type := (.object "java/util/Comparator"), accessFlags := 25, slot := 4, constantValue := 0 }, { name := "LATIN1", type := .byte, accessFlags := 24, slot := 5, constantValue := 0 }, { name := "UTF16", type := .byte, accessFlags := 24, slot := 6, constantValue := 0 }]
  methods := #[k9m0]
  instanceTypes := #[(.array .byte), .byte, .int, .boolean]
  staticTypes := #[.long, .boolean, (.array (.object "java/io/ObjectStreamField")), .char, (.object "java/util/Comparator"), .byte, .byte]
  resolved := Array.replicate 1451 none
  statics := none }

def pool10 : Array CpInfo := pool [(4, .class_ 6), (1, u "java/lang/Record"), (5, .class_ 14), (1, u "com/example/late_harvest/lateharvest/pricing/Loan"), (0, u "requirePositive"), (0, u "(Ljava/lang/String;D)V"), (1, u "growth"), (4, u "rate"), (4, u "requireNonNegative"), (6, u "propertyValue"), (0, u "D"), (6, u "upfrontPremium"), (2, u "monthlyPremium"), (2, u "nonRecourse"), (5, .methodref 56 57), (0, .class_ 58), (0, .nameAndType 59 60), (0, u "java/lang/Double"), (0, u "isInfinite"), (0, u "(D)Z"), (26, u "WHOLE_PROPERTY")] 55

def k10c0 : Code := { maxStack := 5, maxLocals := 3, code := prog_14_method_7_code, exceptionTable := #[], attributes := #[] }
def k10m0 : Method := { name := "requirePositive", desc := "(Ljava/lang/String;D)V", sig := { parameters := [(.object "java/lang/String"), .double], returnType := none }, accessFlags := 8, code := some k10c0 }
def k10c1 : Code := { maxStack := 5, maxLocals := 3, code := prog_14_method_8_code, exceptionTable := #[], attributes := #[] }
def k10m1 : Method := { name := "requireNonNegative", desc := "(Ljava/lang/String;D)V", sig := { parameters := [(.object "java/lang/String"), .double], returnType := none }, accessFlags := 8, code := some k10c1 }
/-- com/example/late_harvest/lateharvest/pricing/Loan -/
def k10 : Class := { plain "com/example/late_harvest/lateharvest/pricing/Loan" (some 2) with
  accessFlags := 49
  interfaces := #[]
  cf := some (fileOf pool10 12 #[] #[{ accessFlags := 8, nameIndex := 15, descriptorIndex := 16, attributes := #[] }, { accessFlags := 8, nameIndex := 28, descriptorIndex := 16, attributes := #[] }] 49 4 #[] #[{ accessFlags := 18, nameIndex := 35, descriptorIndex := 36, attributes := #[] }, { accessFlags := 18, nameIndex := 18, descriptorIndex := 36, attributes := #[] }, { accessFlags := 18, nameIndex := 23, descriptorIndex := 36, attributes := #[] }, { accessFlags := 18, nameIndex := 43, descriptorIndex := 36, attributes := #[] }, { accessFlags := 18, nameIndex := 46, descriptorIndex := 36, attributes := #[] }, { accessFlags := 18, nameIndex := 49, descriptorIndex := 36, attributes := #[] }, { accessFlags := 25, nameIndex := 87, descriptorIndex := 36, attributes := #[] }])
  fields := #[{ name := "propertyValue", type := .double, accessFlags := 18, slot := 0, constantValue := 0 }, { name := "growth", type := .double, accessFlags := 18, slot := 1, constantValue := 0 }, { name := "rate", type := .double, accessFlags := 18, slot := 2, constantValue := 0 }, { name := "upfrontPremium", type := .double, accessFlags := 18, slot := 3, constantValue := 0 }, { name := "monthlyPremium", type := .double, accessFlags := 18, slot := 4, constantValue := 0 }, { name := "nonRecourse", type := .double, accessFlags := 18, slot := 5, constantValue := 0 }, { name := "WHOLE_PROPERTY", type := .double, accessFlags := 25, slot := 0, constantValue := 0 }]
  methods := #[k10m0, k10m1]
  instanceTypes := #[.double, .double, .double, .double, .double, .double]
  staticTypes := #[.double]
  resolved := Array.replicate 143 none
  statics := none }

def pool11 : Array CpInfo := pool [(2, .class_ 4), (1, u "java/lang/Object"), (0, u "<init>"), (0, u "()V"), (1, .class_ 10), (1, u "java/lang/Number"), (2, .class_ 14), (0, u "java/io/Serializable"), (0, u "serialVersionUID"), (0, u "J")] 20

def k11m0 : Method := { name := "<init>", desc := "()V", sig := { parameters := [], returnType := none }, accessFlags := 1, code := none }
/-- java/lang/Number -/
def k11 : Class := { plain "java/lang/Number" (some 0) with
  accessFlags := 1057
  interfaces := #[4]
  cf := some (fileOf pool11 8 #[] #[{ accessFlags := 1, nameIndex := 5, descriptorIndex := 6, attributes := #[] }] 1057 2 #[13] #[{ accessFlags := 26, nameIndex := 15, descriptorIndex := 16, attributes := #[] }])
  fields := #[{ name := "serialVersionUID", type := .long, accessFlags := 26, slot := 0, constantValue := 0 }]
  methods := #[k11m0]
  instanceTypes := #[]
  staticTypes := #[.long]
  resolved := Array.replicate 37 none
  statics := none }

def pool12 : Array CpInfo := pool [(1, .class_ 2), (0, u "java/lang/Double"), (11, u "(D)Z"), (8, .class_ 25), (1, u "java/lang/Math"), (12, .methodref 23 39), (0, .nameAndType 40 41), (0, u "abs"), (0, u "(D)D"), (69, .double 9218868437227405311), (2, .class_ 116), (1, u "java/lang/Number"), (3, u "value"), (0, u "D"), (5, u "isInfinite"), (45, u "TYPE"), (0, u "Ljava/lang/Class;"), (0, .class_ 176), (0, u "java/lang/Comparable"), (0, .class_ 178), (0, u "java/lang/constant/Constable"), (0, .class_ 180), (0, u "java/lang/constant/ConstantDesc"), (0, u "POSITIVE_INFINITY"), (3, u "NEGATIVE_INFINITY"), (2, u "NaN"), (2, u "MAX_VALUE"), (0, u "MIN_NORMAL"), (0, u "MIN_VALUE"), (2, u "SIZE"), (0, u "I"), (1, u "PRECISION"), (1, u "MAX_EXPONENT"), (1, u "MIN_EXPONENT"), (1, u "BYTES"), (3, u "serialVersionUID"), (0, u "J")] 79

def k12c0 : Code := { maxStack := 4, maxLocals := 2, code := jdk_117_method_7_code, exceptionTable := #[], attributes := #[] }
def k12m0 : Method := { name := "isInfinite", desc := "(D)Z", sig := { parameters := [.double], returnType := some .boolean }, accessFlags := 9, code := some k12c0 }
/-- java/lang/Double -/
def k12 : Class := { plain "java/lang/Double" (some 11) with
  accessFlags := 49
  interfaces := #[5, 7, 8]
  cf := some (fileOf pool12 1 #[] #[{ accessFlags := 9, nameIndex := 127, descriptorIndex := 14, attributes := #[] }] 49 114 #[175, 177, 179] #[{ accessFlags := 25, nameIndex := 181, descriptorIndex := 121, attributes := #[] }, { accessFlags := 25, nameIndex := 185, descriptorIndex := 121, attributes := #[] }, { accessFlags := 25, nameIndex := 188, descriptorIndex := 121, attributes := #[] }, { accessFlags := 25, nameIndex := 191, descriptorIndex := 121, attributes := #[] }, { accessFlags := 25, nameIndex := 192, descriptorIndex := 121, attributes := #[] }, { accessFlags := 25, nameIndex := 193, descriptorIndex := 121, attributes := #[] }, { accessFlags := 25, nameIndex := 196, descriptorIndex := 197, attributes := #[] }, { accessFlags := 25, nameIndex := 199, descriptorIndex := 197, attributes := #[] }, { accessFlags := 25, nameIndex := 201, descriptorIndex := 197, attributes := #[] }, { accessFlags := 25, nameIndex := 203, descriptorIndex := 197, attributes := #[] }, { accessFlags := 25, nameIndex := 205, descriptorIndex := 197, attributes := #[] }, { accessFlags := 25, nameIndex := 173, descriptorIndex := 174, attributes := #[] }, { accessFlags := 18, nameIndex := 120, descriptorIndex := 121, attributes := #[] }, { accessFlags := 26, nameIndex := 209, descriptorIndex := 210, attributes := #[] }])
  fields := #[{ name := "POSITIVE_INFINITY", type := .double, accessFlags := 25, slot := 0, constantValue := 0 }, { name := "NEGATIVE_INFINITY", type := .double, accessFlags := 25, slot := 1, constantValue := 0 }, { name := "NaN", type := .double, accessFlags := 25, slot := 2, constantValue := 0 }, { name := "MAX_VALUE", type := .double, accessFlags := 25, slot := 3, constantValue := 0 }, { name := "MIN_NORMAL", type := .double, accessFlags := 25, slot := 4, constantValue := 0 }, { name := "MIN_VALUE", type := .double, accessFlags := 25, slot := 5, constantValue := 0 }, { name := "SIZE", type := .int, accessFlags := 25, slot := 6, constantValue := 0 }, { name := "PRECISION", type := .int, accessFlags := 25, slot := 7, constantValue := 0 }, { name := "MAX_EXPONENT", type := .int, accessFlags := 25, slot := 8, constantValue := 0 }, { name := "MIN_EXPONENT", type := .int, accessFlags := 25, slot := 9, constantValue := 0 }, { name := "BYTES", type := .int, accessFlags := 25, slot := 10, constantValue := 0 }, { name := "TYPE", type := (.object "java/lang/Class"), accessFlags := 25, slot := 11, constantValue := 0 }, { name := "value", type := .double, accessFlags := 18, slot := 0, constantValue := 0 }, { name := "serialVersionUID", type := .long, accessFlags := 26, slot := 12, constantValue := 0 }]
  methods := #[k12m0]
  instanceTypes := #[.double]
  staticTypes := #[.double, .double, .double, .double, .double, .double, .int, .int, .int, .int, .int, (.object "java/lang/Class"), .long]
  resolved := Array.replicate 290 none
  statics := none }

def pool13 : Array CpInfo := pool [(1, .class_ 2), (0, u "java/lang/Math"), (1, .class_ 6), (1, u "java/lang/Object"), (0, u "<init>"), (0, u "()V"), (5, u "(D)D"), (83, .class_ 100), (1, u "java/lang/Math$RandomNumberGeneratorHolder"), (23, u "abs"), (47, u "negativeZeroFloatBits"), (0, u "J"), (2, u "negativeZeroDoubleBits"), (68, u "$assertionsDisabled"), (0, u "Z"), (91, u "twoToTheDoubleScaleDown"), (0, u "D"), (4, u "twoToTheDoubleScaleUp"), (9, u "E"), (3, u "PI"), (2, u "TAU"), (2, u "DEGREES_TO_RADIANS"), (0, u "RADIANS_TO_DEGREES")] 94

def k13m0 : Method := { name := "<init>", desc := "()V", sig := { parameters := [], returnType := none }, accessFlags := 2, code := none }
def k13c1 : Code := { maxStack := 4, maxLocals := 2, code := jdk_29_method_64_code, exceptionTable := #[], attributes := #[] }
def k13m1 : Method := { name := "abs", desc := "(D)D", sig := { parameters := [.double], returnType := some .double }, accessFlags := 9, code := some k13c1 }
/-- java/lang/Math -/
def k13 : Class := { plain "java/lang/Math" (some 0) with
  accessFlags := 49
  interfaces := #[]
  cf := some (fileOf pool13 1 #[.nestMembers #[98]] #[{ accessFlags := 2, nameIndex := 7, descriptorIndex := 8, attributes := #[] }, { accessFlags := 9, nameIndex := 124, descriptorIndex := 14, attributes := #[] }] 49 4 #[] #[{ accessFlags := 25, nameIndex := 354, descriptorIndex := 339, attributes := #[] }, { accessFlags := 25, nameIndex := 358, descriptorIndex := 339, attributes := #[] }, { accessFlags := 25, nameIndex := 361, descriptorIndex := 339, attributes := #[] }, { accessFlags := 26, nameIndex := 364, descriptorIndex := 339, attributes := #[] }, { accessFlags := 26, nameIndex := 365, descriptorIndex := 339, attributes := #[] }, { accessFlags := 26, nameIndex := 172, descriptorIndex := 173, attributes := #[] }, { accessFlags := 26, nameIndex := 176, descriptorIndex := 173, attributes := #[] }, { accessFlags := 8, nameIndex := 344, descriptorIndex := 339, attributes := #[] }, { accessFlags := 8, nameIndex := 338, descriptorIndex := 339, attributes := #[] }, { accessFlags := 4120, nameIndex := 245, descriptorIndex := 246, attributes := #[] }])
  fields := #[{ name := "E", type := .double, accessFlags := 25, slot := 0, constantValue := 0 }, { name := "PI", type := .double, accessFlags := 25, slot := 1, constantValue := 0 }, { name := "TAU", type := .double, accessFlags := 25, slot := 2, constantValue := 0 }, { name := "DEGREES_TO_RADIANS", type := .double, accessFlags := 26, slot := 3, constantValue := 0 }, { name := "RADIANS_TO_DEGREES", type := .double, accessFlags := 26, slot := 4, constantValue := 0 }, { name := "negativeZeroFloatBits", type := .long, accessFlags := 26, slot := 5, constantValue := 0 }, { name := "negativeZeroDoubleBits", type := .long, accessFlags := 26, slot := 6, constantValue := 0 }, { name := "twoToTheDoubleScaleUp", type := .double, accessFlags := 8, slot := 7, constantValue := 0 }, { name := "twoToTheDoubleScaleDown", type := .double, accessFlags := 8, slot := 8, constantValue := 0 }, { name := "$assertionsDisabled", type := .boolean, accessFlags := 4120, slot := 9, constantValue := 0 }]
  methods := #[k13m0, k13m1]
  instanceTypes := #[]
  staticTypes := #[.double, .double, .double, .double, .double, .long, .long, .double, .double, .boolean]
  resolved := Array.replicate 460 none
  statics := none }

def pool14 : Array CpInfo := pool [(1, u "java/lang/Cloneable"), (0, .class_ 1), (0, u "java/lang/Object"), (0, .class_ 3)] 3

/-- java/lang/Cloneable -/
def k14 : Class := { plain "java/lang/Cloneable" (some 0) with
  accessFlags := 1537
  interfaces := #[]
  cf := some (fileOf pool14 2 #[] #[] 1537 4 #[] #[])
  fields := #[]
  methods := #[]
  instanceTypes := #[]
  staticTypes := #[]
  resolved := Array.replicate 8 none
  statics := none }

/-- the primitive byte -/
def k15 : Class := { plain "byte" none with kind := .primitive 'B', accessFlags := 0x411 }
/-- [B -/
def k16 : Class := { plain "[B" (some 0) with kind := .array 15 .byte, interfaces := #[14, 4], accessFlags := 1041 }

/-- the primitive int -/
def k17 : Class := { plain "int" none with kind := .primitive 'I', accessFlags := 0x411 }
/-- [I -/
def k18 : Class := { plain "[I" (some 0) with kind := .array 17 .int, interfaces := #[14, 4], accessFlags := 1041 }

def heap : Heap := #[]
def classes : Array Class := #[k0, k1, k2, k3, k4, k5, k6, k7, k8, k9, k10, k11, k12, k13, k14, k15, k16, k17, k18]
def interned : List (Array UInt16 × Addr) := []
def slotsUsed : Nat := 0
def theMethod : MethodId := ⟨1, 1⟩
def args0 : Array Value := #[.int 5, .int 1, .int 2]
def aboutOver (below : List Frame) : State where
  vm := { classes := classes, interned := interned.toArray }
  heap := heap
  slotsUsed := slotsUsed
  threads := #[{ frames := .invoking theMethod args0 :: below }]
def below0 : List Frame := [.native { method := ⟨0, 0⟩, args := #[] }]
def about1 : State := aboutOver below0
def p0 : Program := .bare "" "" ""
def e0 : Env := launch0.env 0 0 0
theorem w_frames : about1.frames = Frame.invoking theMethod args0 :: below0 := rfl
set_option maxRecDepth 65536 in
theorem w_args : argsFit about1.vm theMethod args0 = true := by decide +kernel
set_option maxRecDepth 65536 in
theorem w_heap : heapFits about1 = true := by decide +kernel
set_option maxRecDepth 65536 in
theorem w_runnable : about1.curStatus? = some .runnable := by decide +kernel
set_option maxRecDepth 65536 in
theorem w_alone : about1.alone = true := by decide +kernel
set_option maxRecDepth 65536 in
theorem w_named : about1.methodNamed? x = some theMethod := by decide +kernel
set_option maxRecDepth 65536 in
theorem w_hears : about1.hears theMethod below0 = true := by decide +kernel
set_option maxRecDepth 65536 in
theorem w_ripe : about1.ripe theMethod args0 below0 = true := by decide +kernel
theorem w_running : about1.status = .running := rfl
set_option maxRecDepth 65536 in
theorem w_room : about1.hasRoom e0.platform room_1 = true :=
  launch0.hasRoom_least _ room_1 (by decide +kernel) (by decide +kernel) (by decide +kernel) (by decide +kernel) (by decide +kernel) (by decide +kernel)
theorem allAtoms_all (ts : List Jvm.Cond) (a : Array Jvm.Value) (st : Jvm.State) : (allAtoms ts).before a st = ts.all (fun c => c.before a st) := by
  induction ts with
  | nil => rfl
  | cons c t ih =>
    show (Jvm.Cond.and c (allAtoms t)).before a st = _
    rw [Jvm.Cond.before_and, ih, List.all_cons]
def words1 : List Jvm.Cond := Jvm.Cond.code x code maxLocals ret :: tables_1
/-- a 'code' word, met by the world's own term for the bytes: nothing is compared byte by byte -/
theorem code_word {y : MethodName} {bytes : ByteArray} {mx : Nat} {rt : Option FieldType} {a : Array Value} {s : State} {m : MethodId} {meth : Method} {c : Code} (h1 : s.methodNamed? y = some m) (h2 : s.vm.method? m = some meth) (h3 : meth.code = some c) (h4 : c.code = bytes)
    (h5 : (c.maxLocals == mx && c.exceptionTable.isEmpty && decide (c.maxStack ≤ mostOperands) && decide (meth.sig.returnType = rt) && !meth.locks && decide (parseMethodDescriptor y.desc = some meth.sig)) = true) : (Jvm.Cond.code y bytes mx rt).before a s = true := by
  simp only [Bool.and_eq_true, beq_iff_eq, Bool.not_eq_true', decide_eq_true_eq] at h5
  obtain ⟨⟨⟨⟨⟨g1, g2⟩, g3⟩, g4⟩, g5⟩, g6⟩ := h5
  simp [Cond.before, Cond.holds, Cond.value, h1, h2, h3, h4, g1, g2, g3, g4, g5, g6]
def isCode : Jvm.Cond → Bool
  | .code _ _ _ _ => true
  | _ => false
theorem all_split {L : List Jvm.Cond} {P : Jvm.Cond → Bool} (h1 : L.all (fun c => isCode c || P c) = true) (h2 : ∀ c ∈ L.filter isCode, P c = true) : L.all P = true := by
  refine List.all_eq_true.mpr fun c hc => ?_
  have h := List.all_eq_true.mp h1 c hc
  rcases Bool.eq_false_or_eq_true (isCode c) with hi | hi
  · exact h2 c (List.mem_filter.mpr ⟨hc, hi⟩)
  · simpa [hi] using h
set_option maxRecDepth 65536 in
theorem w_c0 : (Jvm.Cond.code x code maxLocals ret).before args0 about1 = true := code_word (m := ⟨1, 1⟩) (meth := k1m1) (c := k1c1) (by decide +kernel) rfl rfl rfl (by decide +kernel)
set_option maxRecDepth 65536 in
theorem w_c1 : (Jvm.Cond.code ({ cls := "com/example/late_harvest/lateharvest/pricing/PrincipalLimit", name := "<init>", desc := "(DDD)V" } : Jvm.MethodName) prog_20_method_1_code (7 : Nat) (Option.none : Option Jvm.ClassFile.FieldType)).before args0 about1 = true := code_word (m := ⟨3, 0⟩) (meth := k3m0) (c := k3c0) (by decide +kernel) rfl rfl rfl (by decide +kernel)
set_option maxRecDepth 65536 in
theorem w_c2 : (Jvm.Cond.code ({ cls := "java/lang/Record", name := "<init>", desc := "()V" } : Jvm.MethodName) jdk_30_method_1_code (1 : Nat) (Option.none : Option Jvm.ClassFile.FieldType)).before args0 about1 = true := code_word (m := ⟨2, 0⟩) (meth := k2m0) (c := k2c0) (by decide +kernel) rfl rfl rfl (by decide +kernel)
set_option maxRecDepth 65536 in
theorem w_c3 : (Jvm.Cond.code ({ cls := "java/lang/Object", name := "<init>", desc := "()V" } : Jvm.MethodName) object_method_1_code (1 : Nat) (Option.none : Option Jvm.ClassFile.FieldType)).before args0 about1 = true := code_word (m := ⟨0, 0⟩) (meth := k0m0) (c := k0c0) (by decide +kernel) rfl rfl rfl (by decide +kernel)
set_option maxRecDepth 65536 in
theorem w_c4 : (Jvm.Cond.code ({ cls := "com/example/late_harvest/lateharvest/pricing/Loan", name := "requirePositive", desc := "(Ljava/lang/String;D)V" } : Jvm.MethodName) prog_14_method_7_code (3 : Nat) (Option.none : Option Jvm.ClassFile.FieldType)).before args0 about1 = true := code_word (m := ⟨10, 0⟩) (meth := k10m0) (c := k10c0) (by decide +kernel) rfl rfl rfl (by decide +kernel)
set_option maxRecDepth 65536 in
theorem w_c5 : (Jvm.Cond.code ({ cls := "java/lang/Double", name := "isInfinite", desc := "(D)Z" } : Jvm.MethodName) jdk_117_method_7_code (2 : Nat) (Option.some Jvm.ClassFile.FieldType.boolean)).before args0 about1 = true := code_word (m := ⟨12, 0⟩) (meth := k12m0) (c := k12c0) (by decide +kernel) rfl rfl rfl (by decide +kernel)
set_option maxRecDepth 65536 in
theorem w_c6 : (Jvm.Cond.code ({ cls := "java/lang/Math", name := "abs", desc := "(D)D" } : Jvm.MethodName) jdk_29_method_64_code (2 : Nat) (Option.some Jvm.ClassFile.FieldType.double)).before args0 about1 = true := code_word (m := ⟨13, 1⟩) (meth := k13m1) (c := k13c1) (by decide +kernel) rfl rfl rfl (by decide +kernel)
set_option maxRecDepth 65536 in
theorem w_c7 : (Jvm.Cond.code ({ cls := "com/example/late_harvest/lateharvest/pricing/Loan", name := "requireNonNegative", desc := "(Ljava/lang/String;D)V" } : Jvm.MethodName) prog_14_method_8_code (3 : Nat) (Option.none : Option Jvm.ClassFile.FieldType)).before args0 about1 = true := code_word (m := ⟨10, 1⟩) (meth := k10m1) (c := k10c1) (by decide +kernel) rfl rfl rfl (by decide +kernel)
set_option maxRecDepth 65536 in
theorem w_c8 : (Jvm.Cond.code ({ cls := "com/example/late_harvest/lateharvest/pricing/PrincipalLimit", name := "netAmount", desc := "()D" } : Jvm.MethodName) prog_20_method_7_code (1 : Nat) (Option.some Jvm.ClassFile.FieldType.double)).before args0 about1 = true := code_word (m := ⟨3, 2⟩) (meth := k3m2) (c := k3c2) (by decide +kernel) rfl rfl rfl (by decide +kernel)
set_option maxRecDepth 65536 in
theorem w_c9 : (Jvm.Cond.code ({ cls := "com/example/late_harvest/lateharvest/pricing/PrincipalLimit", name := "amount", desc := "()D" } : Jvm.MethodName) prog_20_method_6_code (1 : Nat) (Option.some Jvm.ClassFile.FieldType.double)).before args0 about1 = true := code_word (m := ⟨3, 1⟩) (meth := k3m1) (c := k3c1) (by decide +kernel) rfl rfl rfl (by decide +kernel)
def codes1 : List Jvm.Cond := [Jvm.Cond.code x code maxLocals ret, Jvm.Cond.code ({ cls := "com/example/late_harvest/lateharvest/pricing/PrincipalLimit", name := "<init>", desc := "(DDD)V" } : Jvm.MethodName) prog_20_method_1_code (7 : Nat) (Option.none : Option Jvm.ClassFile.FieldType), Jvm.Cond.code ({ cls := "java/lang/Record", name := "<init>", desc := "()V" } : Jvm.MethodName) jdk_30_method_1_code (1 : Nat) (Option.none : Option Jvm.ClassFile.FieldType), Jvm.Cond.code ({ cls := "java/lang/Object", name := "<init>", desc := "()V" } : Jvm.MethodName) object_method_1_code (1 : Nat) (Option.none : Option Jvm.ClassFile.FieldType), Jvm.Cond.code ({ cls := "com/example/late_harvest/lateharvest/pricing/Loan", name := "requirePositive", desc := "(Ljava/lang/String;D)V" } : Jvm.MethodName) prog_14_method_7_code (3 : Nat) (Option.none : Option Jvm.ClassFile.FieldType), Jvm.Cond.code ({ cls := "java/lang/Double", name := "isInfinite", desc := "(D)Z" } : Jvm.MethodName) jdk_117_method_7_code (2 : Nat) (Option.some Jvm.ClassFile.FieldType.boolean), Jvm.Cond.code ({ cls := "java/lang/Math", name := "abs", desc := "(D)D" } : Jvm.MethodName) jdk_29_method_64_code (2 : Nat) (Option.some Jvm.ClassFile.FieldType.double), Jvm.Cond.code ({ cls := "com/example/late_harvest/lateharvest/pricing/Loan", name := "requireNonNegative", desc := "(Ljava/lang/String;D)V" } : Jvm.MethodName) prog_14_method_8_code (3 : Nat) (Option.none : Option Jvm.ClassFile.FieldType), Jvm.Cond.code ({ cls := "com/example/late_harvest/lateharvest/pricing/PrincipalLimit", name := "netAmount", desc := "()D" } : Jvm.MethodName) prog_20_method_7_code (1 : Nat) (Option.some Jvm.ClassFile.FieldType.double), Jvm.Cond.code ({ cls := "com/example/late_harvest/lateharvest/pricing/PrincipalLimit", name := "amount", desc := "()D" } : Jvm.MethodName) prog_20_method_6_code (1 : Nat) (Option.some Jvm.ClassFile.FieldType.double)]
set_option maxRecDepth 65536 in
theorem codes_eq : words1.filter isCode = codes1 := rfl
theorem w_codes : ∀ c ∈ words1.filter isCode, c.before args0 about1 = true := by
  rw [codes_eq]
  intro c hc
  simp only [codes1, List.mem_cons, List.not_mem_nil, or_false] at hc
  rcases hc with rfl | rfl | rfl | rfl | rfl | rfl | rfl | rfl | rfl | rfl
  · exact w_c0
  · exact w_c1
  · exact w_c2
  · exact w_c3
  · exact w_c4
  · exact w_c5
  · exact w_c6
  · exact w_c7
  · exact w_c8
  · exact w_c9
set_option maxRecDepth 65536 in
theorem w_t1 : (words1.take 24).all (fun c => isCode c || c.before args0 about1) = true := by decide +kernel
set_option maxRecDepth 65536 in
theorem w_t2 : ((words1.drop 24).take 24).all (fun c => isCode c || c.before args0 about1) = true := by decide +kernel
set_option maxRecDepth 65536 in
theorem w_t3 : ((words1.drop 24).drop 24).all (fun c => isCode c || c.before args0 about1) = true := by decide +kernel
theorem w_tables : (allAtoms (Jvm.Cond.code x code maxLocals ret :: tables_1)).before args0 about1 = true := by
  rw [allAtoms_all]
  show words1.all (fun c => c.before args0 about1) = true
  refine all_split ?_ w_codes
  rw [← List.take_append_drop 24 words1, List.all_append, w_t1, ← List.take_append_drop 24 (words1.drop 24), List.all_append, w_t2, w_t3]
  rfl
set_option maxRecDepth 65536 in
theorem w_case : (Jvm.Cond.and given_1 narrow_1).before args0 about1 = true := by decide +kernel
theorem w_applies : (headSpec (Jvm.Cond.code x code maxLocals ret :: tables_1) room_1).applies x e0.platform about1 = true :=
  (Spec.applies_iff w_frames).mpr ⟨w_running, w_runnable, w_alone, w_named, w_hears, w_ripe, w_room, w_tables⟩
theorem atStart : AtStart classFile x code maxLocals ret World_1 tables_1 room_1 Calls_1 rest_1 Pre_1 launch0 p0 e0 about1 theMethod args0 below0 :=
  ⟨lists_1, trivial, launch0.admits_env _ _ _, launch0.least_env, fairChoices_fair.cas, fairChoices_fair.clock, w_frames, w_args, w_heap, w_applies, trivial, trivial, w_case⟩
end start1
theorem witness_1 : WitnessClaimed_1 := ⟨start1.p0, start1.e0, start1.about1, start1.theMethod, start1.args0, start1.below0, start1.atStart⟩
end Jvm.Pilot.@@N@@

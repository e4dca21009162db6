import JvmDerived
import JvmDerived.Pilot.@@N@@Statement
import JvmDerived.Pilot.@@N@@Code
set_option linter.unusedVariables false
set_option linter.unusedSimpArgs false
namespace Jvm.OwnGo
open Jvm Sem ClassFile Op Lib Jvm.Stand Jvm.Free Jvm.LawKit Jvm.RoadKit
/-! ## 1. where a walk stands, and how it ends -/
/-- a walk may bear one more word on its base; KT: none -/
def KT : State → Prop := fun _ => True
def Ctx (K : State → Prop) (Z : State) (y : MethodName) (bytes : ByteArray) (ml : Nat) (ret : Option FieldType) (p : Program) (s : State) (m : MethodId) (meth : Method) (c : Code) : Prop :=
  p.tables.exec = Jvm.exec ∧ c.code = bytes ∧ c.maxLocals = ml ∧ s.vm.findClass y.cls = some m.cls ∧ Z.Warmed39 s.vm ∧ meth.sig.returnType = ret ∧ meth.locks = false ∧ meth.name = y.name ∧ K s
/-- what the walk's base has to do with the method's start: the same, or (where literals may be made) the start under later tables -/
def Base (wd : Bool) (s0 s : State) (h : Heap) : Prop := if wd = true then ∃ vm0 k0, s = s0.setVm vm0 ∧ s0.Since vm0 k0 ∧ k0 ≤ h.size else s = s0
def EndK (wd : Bool) (s0 : State) (o : Outcome) (t : State) (L : List Loc) (k n : Nat) : Prop := if wd = true then ReturnedEndW s0 o t L k n else FrameEnd s0 o t L k n
def Ends (wd : Bool) (n0 kc ks : Nat) (Q : Option Value → Heap → Prop) (p : Program) (e : Env) (below : List Frame) (s0 T : State) (g : JFrame) : Prop :=
  ∃ s₂ o, Steps p.tables e below (T.setTop g) s₂ ∧ s₂.status = .running ∧ Ended s₂ below o ∧ ∃ v L, o = .returned v ∧ (Q v s₂.heap ∧ Fr n0 L) ∧ EndK wd s0 o s₂ L kc ks
def Go (wd : Bool) (K : State → Prop) (l : Launch) (Z : State) (R : Room) (y : MethodName) (bytes : ByteArray) (ml : Nat) (ret : Option FieldType) (n0 kc ks : Nat) (Q : Option Value → Heap → Prop) (h : Heap) (k n pc : Nat) (ls : List Slot) (st : List Value) : Prop :=
  ∀ (p : Program) (e : Env) (s0 s : State) (m : MethodId) (args : Array Value) (below : List Frame) (meth : Method) (c : Code) (T : State) (L : List Loc),
    Base wd s0 s h → Ctx K Z y bytes ml ret p s m meth c → Stand p l e R s m args below meth c T L k n → T.heap = h → Fr n0 L → Ends wd n0 kc ks Q p e below s0 T (mkF m pc ls.toArray st)
/-- a contract: what a body leaves, called with the values as' over the heap h -/
def Con (wd : Bool) (l : Launch) (Z : State) (y : MethodName) (bytes : ByteArray) (ml : Nat) (ret : Option FieldType) (rm : Room) (as' : Array Value) (h : Heap) (n0 : Nat) (Q : Option Value → Heap → Prop) : Prop :=
  ∀ ws : List Cond, MetFree l y (head1 (Cond.code y bytes ml ret :: ws) rm) (fun a U => a = as' ∧ Z.Warmed39 U.vm ∧ U.heap = h) (fun _ _ _ _ _ => True)
    (fun _ U o U' => ∃ v L, o = .returned v ∧ ((Q v U'.heap ∧ h.size ≤ U'.heap.size) ∧ Fr n0 L) ∧ EndK wd U o U' L rm.cells rm.slots)
/-- it returns a value -/
def R1 (P : Value → Heap → Prop) : Option Value → Heap → Prop := fun v h => ∃ w, v = some w ∧ P w h
/-- it returns nothing -/
def R0 (P : Heap → Prop) : Option Value → Heap → Prop := fun v h => v = none ∧ P h
/-- it returns this value and leaves the heap as it was -/
abbrev Ret (w : Value) (h : Heap) : Option Value → Heap → Prop := R1 fun w' h' => w' = w ∧ h = h'
/-- a local variable written over -/
def setl : List Slot → Nat → Slot → List Slot
  | [], _, _ => []
  | _ :: r, 0, x => x :: r
  | a :: r, i + 1, x => a :: setl r i x
def lupd {α : Type} : List α → Nat → α → List α
  | [], _, _ => []
  | _ :: r, 0, x => x :: r
  | a :: r, i + 1, x => a :: lupd r i x
def one : Slot → Bool
  | .unset => true
  | .val v => v.category == 1
  | .second => false
def two : Slot → Slot → Bool
  | .val v, .second => v.category == 2
  | a, b => one a && one b
def Dc (bytes : ByteArray) (pc : Nat) (i : Instr) (len pc' : Nat) : Prop := decode bytes pc = .ok (i, len) ∧ pc + len = pc'
def Dp (bytes : ByteArray) (pc : Nat) (v : Int32) (pc' : Nat) : Prop := (∃ i, decode bytes pc = .ok (.iconst i, 1) ∧ Int32.ofInt i = v ∧ pc + 1 = pc') ∨ (∃ i, decode bytes pc = .ok (.bipush i, 2) ∧ (Int8.ofInt i).toInt32 = v ∧ pc + 2 = pc') ∨ (∃ i, decode bytes pc = .ok (.sipush i, 3) ∧ (Int16.ofInt i).toInt32 = v ∧ pc + 3 = pc')
def Dlc (bytes : ByteArray) (pc : Nat) (v : Int64) (pc' : Nat) : Prop := ∃ k : Fin 2, decode bytes pc = .ok (.lconst k, 1) ∧ Int64.ofNat k = v ∧ pc + 1 = pc'
/-- a branch: where it goes on, and where it leads -/
def Db (bytes : ByteArray) (pc : Nat) (f : Int → Instr) (pc' tg : Nat) : Prop := ∃ o : Int, decode bytes pc = .ok (f o, 3) ∧ pc + 3 = pc' ∧ 0 ≤ (pc : Int) + o ∧ ((pc : Int) + o).toNat = tg
def Dld (bytes : ByteArray) (pc : Nat) (f : Nat → Instr) (fn : Fin 4 → Instr) (i pc' : Nat) : Prop := (decode bytes pc = .ok (f i, 2) ∧ pc + 2 = pc') ∨ (∃ k : Fin 4, decode bytes pc = .ok (fn k, 1) ∧ k.val = i ∧ pc + 1 = pc')
def Dinc (bytes : ByteArray) (pc i : Nat) (v : Int32) (pc' : Nat) : Prop := ∃ c : Int, decode bytes pc = .ok (.iinc i c, 3) ∧ Int32.ofInt c = v ∧ pc + 3 = pc'
/-- the same, by the instructions' sorts -/
abbrev Dil (b : ByteArray) (pc i pc' : Nat) : Prop := Dld b pc .iload .iload_n i pc'
abbrev Dal (b : ByteArray) (pc i pc' : Nat) : Prop := Dld b pc .aload .aload_n i pc'
abbrev Dll (b : ByteArray) (pc i pc' : Nat) : Prop := Dld b pc .lload .lload_n i pc'
abbrev Dis (b : ByteArray) (pc i pc' : Nat) : Prop := Dld b pc .istore .istore_n i pc'
abbrev Das (b : ByteArray) (pc i pc' : Nat) : Prop := Dld b pc .astore .astore_n i pc'
abbrev Dls (b : ByteArray) (pc i pc' : Nat) : Prop := Dld b pc .lstore .lstore_n i pc'
section Walk
variable {wd : Bool} {K₀ : State → Prop} {l : Launch} {Z : State} {R : Room} {y : MethodName} {bytes : ByteArray} {ml : Nat} {ret : Option FieldType} {n0 kc ks : Nat} {Q : Option Value → Heap → Prop} {h : Heap} {k n pc pc' tg i : Nat} {ls : List Slot} {st : List Value} {a0 : Array Value}
theorem lrem64 (x y : Int64) : x - x / y * y = x % y := by
  apply Int64.toInt_inj.mp
  have h1 := Int64.le_toInt (x % y)
  have h2 := Int64.toInt_lt (x % y)
  rw [Int64.toInt_sub, Int64.toInt_mul, Int64.toInt_div, Int.bmod_mul_bmod, Int.sub_bmod_bmod, Int.mul_comm (x.toInt.tdiv y.toInt), ← Int.tmod_def, ← Int64.toInt_mod]
  exact Int.bmod_eq_of_le_mul_two (by omega) (by omega)
theorem setl_arr : ∀ (ls : List Slot) (i : Nat) (x : Slot), (setl ls i x).toArray = ls.toArray.setIfInBounds i x := by
  intro ls i x
  rw [List.setIfInBounds_toArray]
  congr 1
  induction ls generalizing i with
  | nil => simp [setl]
  | cons a r ih => cases i with
    | zero => simp [setl]
    | succ i => simp [setl, ih]
theorem setl_len : ∀ (ls : List Slot) (i : Nat) (x : Slot), (setl ls i x).length = ls.length := by
  intro ls i x
  induction ls generalizing i with
  | nil => rfl
  | cons a r ih => cases i with
    | zero => rfl
    | succ i => simp [setl, ih]
theorem upd_set {α : Type} : ∀ (ls : List α) (i : Nat) (x : α), lupd ls i x = ls.set i x := by
  intro ls i x
  induction ls generalizing i with
  | nil => simp [lupd]
  | cons a r ih => cases i with
    | zero => simp [lupd]
    | succ i => simp [lupd, ih]
theorem setl_get {ls : List Slot} {i : Nat} {x o : Slot} (h : ls[i]? = some o) (j : Nat) : (setl ls i x)[j]? = if j = i then some x else ls[j]? := by
  induction ls generalizing i j with
  | nil => simp at h
  | cons a r ih => cases i with
    | zero => cases j <;> simp [setl]
    | succ i => cases j with
      | zero => simp [setl]
      | succ j => simp only [setl, List.getElem?_cons_succ] at h ⊢; rw [ih h j]; simp
theorem Base.mono {s0 s : State} {h' : Heap} (B : Base wd s0 s h) (q : h.size ≤ h'.size) : Base wd s0 s h' := by
  cases wd
  · exact B
  · obtain ⟨vm0, k0, e1, e2, e3⟩ := B; exact ⟨vm0, k0, e1, e2, Nat.le_trans e3 q⟩
theorem Base.start (s : State) (hh : s.heap = h) : Base wd s s h := by
  cases wd
  · exact (rfl : s = s)
  · exact ⟨s.vm, h.size, rfl, (State.WarmedH.refl s).since _, Nat.le_refl _⟩
theorem EndK.size {s0 t : State} {o : Outcome} {L : List Loc} {k n : Nat} (E : EndK wd s0 o t L k n) : s0.heap.size ≤ t.heap.size := by
  cases wd
  · exact E.2.2.2.1
  · exact E.2.2.2.2.1
theorem endK {s0 s T : State} {fs : List Frame} {v : Option Value} {L : List Loc} (B : Base wd s0 s h) (hh : T.heap = h) (hW : s.WarmedH (T.setFrames fs).vm) (hsame : s.sameButNew ({ T.setFrames fs with vm := s.vm } : State) L k n) (hk : k ≤ kc) (hn : n ≤ ks) : EndK wd s0 (.returned v) (T.setFrames fs) L kc ks := by
  cases wd
  · have e : s = s0 := B
    subst e
    exact ⟨⟨_, rfl⟩, hW, hsame.mono hk hn⟩
  · obtain ⟨vm0, k0, rfl, hS, hk0⟩ := B
    obtain ⟨a1, a2, a3⟩ := hS.ended (U := T.setFrames fs) hW (by show k0 ≤ T.heap.size; rw [hh]; exact hk0) hsame
    exact ⟨⟨_, rfl⟩, a1, a2, a3.mono hk hn⟩
theorem Ends.pre {p : Program} {e : Env} {below : List Frame} {s0 T T' : State} {g g' : JFrame} (E : Ends wd n0 kc ks Q p e below s0 T' g') (st : ∀ t, Steps p.tables e below (T'.setTop g') t → Steps p.tables e below (T.setTop g) t) : Ends wd n0 kc ks Q p e below s0 T g := by
  obtain ⟨s₂, o, h1, r⟩ := E; exact ⟨s₂, o, st _ h1, r⟩
theorem go_pure {ls' : List Slot} {st' : List Value} (G : Go wd K₀ l Z R y bytes ml ret n0 kc ks Q h k n pc' ls' st') (H : ∀ {p : Program} {e : Env} {s : State} {m : MethodId} {args : Array Value} {below : List Frame} {meth : Method} {c : Code} {T : State} {L : List Loc}, Ctx K₀ Z y bytes ml ret p s m meth c → Stand p l e R s m args below meth c T L k n →
    ∀ t, Steps p.tables e below (T.setTop (mkF m pc' ls'.toArray st')) t → Steps p.tables e below (T.setTop (mkF m pc ls.toArray st)) t) : Go wd K₀ l Z R y bytes ml ret n0 kc ks Q h k n pc ls st :=
  fun p e s0 s m args below meth c T L B C X hh N => (G p e s0 s m args below meth c T L B C X hh N).pre (H C X)
theorem go_more {k' n' : Nat} (hk : k ≤ k') (hn : n ≤ n') (G : Go wd K₀ l Z R y bytes ml ret n0 kc ks Q h k' n' pc ls st) : Go wd K₀ l Z R y bytes ml ret n0 kc ks Q h k n pc ls st :=
  fun p e s0 s m args below meth c T L B C X hh N => G p e s0 s m args below meth c T L B C (X.more hk hn) hh N
theorem go_nameI {x : Int32} (G : ∀ v : Int32, v = x → Go wd K₀ l Z R y bytes ml ret n0 kc ks Q h k n pc ls (.int v :: st)) : Go wd K₀ l Z R y bytes ml ret n0 kc ks Q h k n pc ls (.int x :: st) := G x rfl
theorem go_nameJ {x : Int64} (G : ∀ v : Int64, v = x → Go wd K₀ l Z R y bytes ml ret n0 kc ks Q h k n pc ls (.long v :: st)) : Go wd K₀ l Z R y bytes ml ret n0 kc ks Q h k n pc ls (.long x :: st) := G x rfl
theorem go_isI {x : Int32} (x' : Int32) (q : x = x') (G : Go wd K₀ l Z R y bytes ml ret n0 kc ks Q h k n pc ls (.int x' :: st)) : Go wd K₀ l Z R y bytes ml ret n0 kc ks Q h k n pc ls (.int x :: st) := q ▸ G
theorem go_isJ {x : Int64} (x' : Int64) (q : x = x') (G : Go wd K₀ l Z R y bytes ml ret n0 kc ks Q h k n pc ls (.long x' :: st)) : Go wd K₀ l Z R y bytes ml ret n0 kc ks Q h k n pc ls (.long x :: st) := q ▸ G
theorem go_iload {v : Int32} (D : Dil bytes pc i pc') (hl : ls[i]? = some (.val (.int v))) (G : Go wd K₀ l Z R y bytes ml ret n0 kc ks Q h k n pc' ls (.int v :: st)) : Go wd K₀ l Z R y bytes ml ret n0 kc ks Q h k n pc ls st := by
  rcases D with ⟨hd, rfl⟩ | ⟨kk, hd, rfl, rfl⟩
  · exact go_pure G (fun C X t => XS.iload X.here C.1 (g := mkF _ pc ls.toArray st) rfl (hb C.2.1 hd) (by simpa using hl))
  · exact go_pure G (fun C X t => XS.iloadN X.here C.1 (g := mkF _ pc ls.toArray st) rfl (hb C.2.1 hd) (by simpa using hl))
theorem go_lload {v : Int64} (D : Dll bytes pc i pc') (hl : ls[i]? = some (.val (.long v))) (G : Go wd K₀ l Z R y bytes ml ret n0 kc ks Q h k n pc' ls (.long v :: st)) : Go wd K₀ l Z R y bytes ml ret n0 kc ks Q h k n pc ls st := by
  rcases D with ⟨hd, rfl⟩ | ⟨kk, hd, rfl, rfl⟩
  · exact go_pure G (fun C X t => XT.lload X.here C.1 (g := mkF _ pc ls.toArray st) rfl (hb C.2.1 hd) (by simpa using hl))
  · exact go_pure G (fun C X t => XT.lloadN X.here C.1 (g := mkF _ pc ls.toArray st) rfl (hb C.2.1 hd) (by simpa using hl))
theorem go_aload {v : Value} (D : Dal bytes pc i pc') (hl : ls[i]? = some (.val v)) (hv : v.isRef = true) (G : Go wd K₀ l Z R y bytes ml ret n0 kc ks Q h k n pc' ls (v :: st)) : Go wd K₀ l Z R y bytes ml ret n0 kc ks Q h k n pc ls st := by
  rcases D with ⟨hd, rfl⟩ | ⟨kk, hd, rfl, rfl⟩
  · exact go_pure G (fun C X t => XS.aload X.here C.1 (g := mkF _ pc ls.toArray st) rfl (hb C.2.1 hd) (by simpa using hl) hv)
  · exact go_pure G (fun C X t => XS.aloadN X.here C.1 (g := mkF _ pc ls.toArray st) rfl (hb C.2.1 hd) (by simpa using hl) hv)
theorem store_one {ls : List Slot} {i : Nat} {v : Value} {o : Slot} (hv : v.category = 1) (hl : ls[i]? = some o) (ho : one o = true) : storeLocals ls.toArray i v = some (setl ls i (.val v)).toArray := by
  rw [setl_arr]
  refine storeLocals_cat1 (x := o) (by simpa using hl) hv ?_
  cases o <;> simp [one] at ho ⊢
  exact ho
theorem store_two {ls : List Slot} {i : Nat} {v : Value} {o o' : Slot} (hv : v.category = 2) (hl : ls[i]? = some o) (hl' : ls[i + 1]? = some o') (ho : two o o' = true) : storeLocals ls.toArray i v = some (setl (setl ls i (.val v)) (i + 1) .second).toArray := by
  rw [setl_arr, setl_arr]
  refine Jvm.Free.Fl.storeLocals_cat2 (by simpa using hl) (by simpa using hl') hv ?_
  cases o <;> cases o' <;> simp_all [two, one, Jvm.Free.Fl.Plain1]
theorem go_istore {x : Int32} {o : Slot} (D : Dis bytes pc i pc') (hl : ls[i]? = some o) (ho : one o = true) (G : Go wd K₀ l Z R y bytes ml ret n0 kc ks Q h k n pc' (setl ls i (.val (.int x))) st) : Go wd K₀ l Z R y bytes ml ret n0 kc ks Q h k n pc ls (.int x :: st) := by
  rcases D with ⟨hd, rfl⟩ | ⟨kk, hd, rfl, rfl⟩
  · exact go_pure G (fun C X t => XS.istore X.here C.1 (g := mkF _ pc ls.toArray (.int x :: st)) rfl (hb C.2.1 hd) rfl (store_one rfl hl ho))
  · exact go_pure G (fun C X t => XS.istoreN X.here C.1 (g := mkF _ pc ls.toArray (.int x :: st)) rfl (hb C.2.1 hd) rfl (store_one rfl hl ho))
theorem go_astore {x : Value} {o : Slot} (D : Das bytes pc i pc') (hv : x.isRef = true) (hl : ls[i]? = some o) (ho : one o = true) (G : Go wd K₀ l Z R y bytes ml ret n0 kc ks Q h k n pc' (setl ls i (.val x)) st) : Go wd K₀ l Z R y bytes ml ret n0 kc ks Q h k n pc ls (x :: st) := by
  have hc : x.category = 1 := XT.cat1 hv
  rcases D with ⟨hd, rfl⟩ | ⟨kk, hd, rfl, rfl⟩
  · exact go_pure G (fun C X t => XS.astore X.here C.1 (g := mkF _ pc ls.toArray (x :: st)) rfl (hb C.2.1 hd) rfl hv (store_one hc hl ho))
  · exact go_pure G (fun C X t => XS.astoreN X.here C.1 (g := mkF _ pc ls.toArray (x :: st)) rfl (hb C.2.1 hd) rfl hv (store_one hc hl ho))
theorem go_lstore {x : Int64} {o o' : Slot} (D : Dls bytes pc i pc') (hl : ls[i]? = some o) (hl' : ls[i + 1]? = some o') (ho : two o o' = true) (G : Go wd K₀ l Z R y bytes ml ret n0 kc ks Q h k n pc' (setl (setl ls i (.val (.long x))) (i + 1) .second) st) : Go wd K₀ l Z R y bytes ml ret n0 kc ks Q h k n pc ls (.long x :: st) := by
  rcases D with ⟨hd, rfl⟩ | ⟨kk, hd, rfl, rfl⟩
  · exact go_pure G (fun C X t => XT.lstore X.here C.1 (g := mkF _ pc ls.toArray (.long x :: st)) rfl (hb C.2.1 hd) rfl (store_two rfl hl hl' ho))
  · exact go_pure G (fun C X t => XT.lstoreN X.here C.1 (g := mkF _ pc ls.toArray (.long x :: st)) rfl (hb C.2.1 hd) rfl (store_two rfl hl hl' ho))
/-- any store, the locals said -/
theorem go_istoreX {x : Int32} {ls' : List Slot} (D : Dis bytes pc i pc') (hl : storeLocals ls.toArray i (.int x) = some ls'.toArray) (G : Go wd K₀ l Z R y bytes ml ret n0 kc ks Q h k n pc' ls' st) : Go wd K₀ l Z R y bytes ml ret n0 kc ks Q h k n pc ls (.int x :: st) := by
  rcases D with ⟨hd, rfl⟩ | ⟨kk, hd, rfl, rfl⟩
  · exact go_pure G (fun C X t => XS.istore X.here C.1 (g := mkF _ pc ls.toArray (.int x :: st)) rfl (hb C.2.1 hd) rfl hl)
  · exact go_pure G (fun C X t => XS.istoreN X.here C.1 (g := mkF _ pc ls.toArray (.int x :: st)) rfl (hb C.2.1 hd) rfl hl)
theorem go_astoreX {x : Value} {ls' : List Slot} (D : Das bytes pc i pc') (hv : x.isRef = true) (hl : storeLocals ls.toArray i x = some ls'.toArray) (G : Go wd K₀ l Z R y bytes ml ret n0 kc ks Q h k n pc' ls' st) : Go wd K₀ l Z R y bytes ml ret n0 kc ks Q h k n pc ls (x :: st) := by
  rcases D with ⟨hd, rfl⟩ | ⟨kk, hd, rfl, rfl⟩
  · exact go_pure G (fun C X t => XS.astore X.here C.1 (g := mkF _ pc ls.toArray (x :: st)) rfl (hb C.2.1 hd) rfl hv hl)
  · exact go_pure G (fun C X t => XS.astoreN X.here C.1 (g := mkF _ pc ls.toArray (x :: st)) rfl (hb C.2.1 hd) rfl hv hl)
theorem go_lstoreX {x : Int64} {ls' : List Slot} (D : Dls bytes pc i pc') (hl : storeLocals ls.toArray i (.long x) = some ls'.toArray) (G : Go wd K₀ l Z R y bytes ml ret n0 kc ks Q h k n pc' ls' st) : Go wd K₀ l Z R y bytes ml ret n0 kc ks Q h k n pc ls (.long x :: st) := by
  rcases D with ⟨hd, rfl⟩ | ⟨kk, hd, rfl, rfl⟩
  · exact go_pure G (fun C X t => XT.lstore X.here C.1 (g := mkF _ pc ls.toArray (.long x :: st)) rfl (hb C.2.1 hd) rfl hl)
  · exact go_pure G (fun C X t => XT.lstoreN X.here C.1 (g := mkF _ pc ls.toArray (.long x :: st)) rfl (hb C.2.1 hd) rfl hl)
theorem go_iinc {x v : Int32} (D : Dinc bytes pc i v pc') (hl : ls[i]? = some (.val (.int x))) (G : Go wd K₀ l Z R y bytes ml ret n0 kc ks Q h k n pc' (setl ls i (.val (.int (x + v)))) st) : Go wd K₀ l Z R y bytes ml ret n0 kc ks Q h k n pc ls st := by
  obtain ⟨c, hd, rfl, rfl⟩ := D
  exact go_pure G (fun C X t => XS.iinc X.here C.1 (g := mkF _ pc ls.toArray st) rfl (hb C.2.1 hd) (by simpa using hl) (store_one rfl hl rfl))
theorem go_iincX {x v x' : Int32} (D : Dinc bytes pc i v pc') (hl : ls[i]? = some (.val (.int x))) (q : x + v = x') (G : Go wd K₀ l Z R y bytes ml ret n0 kc ks Q h k n pc' (setl ls i (.val (.int x'))) st) : Go wd K₀ l Z R y bytes ml ret n0 kc ks Q h k n pc ls st := go_iinc D hl (q ▸ G)
theorem go_push {v : Int32} (D : Dp bytes pc v pc') (G : Go wd K₀ l Z R y bytes ml ret n0 kc ks Q h k n pc' ls (.int v :: st)) : Go wd K₀ l Z R y bytes ml ret n0 kc ks Q h k n pc ls st := by
  rcases D with ⟨_, hd, rfl, rfl⟩ | ⟨_, hd, rfl, rfl⟩ | ⟨_, hd, rfl, rfl⟩
  · exact go_pure G (fun C X t => XS.iconst X.here C.1 (g := mkF _ pc ls.toArray st) rfl (hb C.2.1 hd))
  · exact go_pure G (fun C X t => XS.bipush X.here C.1 (g := mkF _ pc ls.toArray st) rfl (hb C.2.1 hd))
  · exact go_pure G (fun C X t => XS.sipush X.here C.1 (g := mkF _ pc ls.toArray st) rfl (hb C.2.1 hd))
theorem go_lconst {v : Int64} (D : Dlc bytes pc v pc') (G : Go wd K₀ l Z R y bytes ml ret n0 kc ks Q h k n pc' ls (.long v :: st)) : Go wd K₀ l Z R y bytes ml ret n0 kc ks Q h k n pc ls st := by
  obtain ⟨_, hd, rfl, rfl⟩ := D
  exact go_pure G (fun C X t => XT.lconst X.here C.1 (g := mkF _ pc ls.toArray st) rfl (hb C.2.1 hd))
theorem go_null (D : Dc bytes pc .aconst_null 1 pc') (G : Go wd K₀ l Z R y bytes ml ret n0 kc ks Q h k n pc' ls (.null :: st)) : Go wd K₀ l Z R y bytes ml ret n0 kc ks Q h k n pc ls st := by
  obtain ⟨hd, rfl⟩ := D
  exact go_pure G (fun C X t => XS.aconstNull X.here C.1 (g := mkF _ pc ls.toArray st) rfl (hb C.2.1 hd))
theorem go_iadd {a : Int32} {b : Int32} (D : Dc bytes pc .iadd 1 pc') (G : Go wd K₀ l Z R y bytes ml ret n0 kc ks Q h k n pc' ls (.int (a + b) :: st)) : Go wd K₀ l Z R y bytes ml ret n0 kc ks Q h k n pc ls (.int b :: .int a :: st) := by
  obtain ⟨hd, rfl⟩ := D
  exact go_pure G (fun C X t => XS.iadd X.here C.1 (g := mkF _ pc ls.toArray (.int b :: .int a :: st)) rfl (hb C.2.1 hd) rfl)
theorem go_isub {a : Int32} {b : Int32} (D : Dc bytes pc .isub 1 pc') (G : Go wd K₀ l Z R y bytes ml ret n0 kc ks Q h k n pc' ls (.int (a - b) :: st)) : Go wd K₀ l Z R y bytes ml ret n0 kc ks Q h k n pc ls (.int b :: .int a :: st) := by
  obtain ⟨hd, rfl⟩ := D
  exact go_pure G (fun C X t => XS.isub X.here C.1 (g := mkF _ pc ls.toArray (.int b :: .int a :: st)) rfl (hb C.2.1 hd) rfl)
theorem go_imul {a : Int32} {b : Int32} (D : Dc bytes pc .imul 1 pc') (G : Go wd K₀ l Z R y bytes ml ret n0 kc ks Q h k n pc' ls (.int (a * b) :: st)) : Go wd K₀ l Z R y bytes ml ret n0 kc ks Q h k n pc ls (.int b :: .int a :: st) := by
  obtain ⟨hd, rfl⟩ := D
  exact go_pure G (fun C X t => XS.imul X.here C.1 (g := mkF _ pc ls.toArray (.int b :: .int a :: st)) rfl (hb C.2.1 hd) rfl)
theorem go_iand {a : Int32} {b : Int32} (D : Dc bytes pc .iand 1 pc') (G : Go wd K₀ l Z R y bytes ml ret n0 kc ks Q h k n pc' ls (.int (a &&& b) :: st)) : Go wd K₀ l Z R y bytes ml ret n0 kc ks Q h k n pc ls (.int b :: .int a :: st) := by
  obtain ⟨hd, rfl⟩ := D
  exact go_pure G (fun C X t => XS.iand X.here C.1 (g := mkF _ pc ls.toArray (.int b :: .int a :: st)) rfl (hb C.2.1 hd) rfl)
theorem go_ior {a : Int32} {b : Int32} (D : Dc bytes pc .ior 1 pc') (G : Go wd K₀ l Z R y bytes ml ret n0 kc ks Q h k n pc' ls (.int (a ||| b) :: st)) : Go wd K₀ l Z R y bytes ml ret n0 kc ks Q h k n pc ls (.int b :: .int a :: st) := by
  obtain ⟨hd, rfl⟩ := D
  exact go_pure G (fun C X t => XT.ior X.here C.1 (g := mkF _ pc ls.toArray (.int b :: .int a :: st)) rfl (hb C.2.1 hd) rfl)
theorem go_ixor {a : Int32} {b : Int32} (D : Dc bytes pc .ixor 1 pc') (G : Go wd K₀ l Z R y bytes ml ret n0 kc ks Q h k n pc' ls (.int (a ^^^ b) :: st)) : Go wd K₀ l Z R y bytes ml ret n0 kc ks Q h k n pc ls (.int b :: .int a :: st) := by
  obtain ⟨hd, rfl⟩ := D
  exact go_pure G (fun C X t => XT.ixor X.here C.1 (g := mkF _ pc ls.toArray (.int b :: .int a :: st)) rfl (hb C.2.1 hd) rfl)
theorem go_idiv {a : Int32} {b : Int32} (D : Dc bytes pc .idiv 1 pc') (hz : b ≠ 0) (G : Go wd K₀ l Z R y bytes ml ret n0 kc ks Q h k n pc' ls (.int (a / b) :: st)) : Go wd K₀ l Z R y bytes ml ret n0 kc ks Q h k n pc ls (.int b :: .int a :: st) := by
  obtain ⟨hd, rfl⟩ := D
  exact go_pure G (fun C X t => XS.idiv X.here C.1 (g := mkF _ pc ls.toArray (.int b :: .int a :: st)) rfl (hb C.2.1 hd) rfl hz)
theorem go_ladd {a : Int64} {b : Int64} (D : Dc bytes pc .ladd 1 pc') (G : Go wd K₀ l Z R y bytes ml ret n0 kc ks Q h k n pc' ls (.long (a + b) :: st)) : Go wd K₀ l Z R y bytes ml ret n0 kc ks Q h k n pc ls (.long b :: .long a :: st) := by
  obtain ⟨hd, rfl⟩ := D
  exact go_pure G (fun C X t => XT.ladd X.here C.1 (g := mkF _ pc ls.toArray (.long b :: .long a :: st)) rfl (hb C.2.1 hd) rfl)
theorem go_lsub {a : Int64} {b : Int64} (D : Dc bytes pc .lsub 1 pc') (G : Go wd K₀ l Z R y bytes ml ret n0 kc ks Q h k n pc' ls (.long (a - b) :: st)) : Go wd K₀ l Z R y bytes ml ret n0 kc ks Q h k n pc ls (.long b :: .long a :: st) := by
  obtain ⟨hd, rfl⟩ := D
  exact go_pure G (fun C X t => XT.lsub X.here C.1 (g := mkF _ pc ls.toArray (.long b :: .long a :: st)) rfl (hb C.2.1 hd) rfl)
theorem go_lmul {a : Int64} {b : Int64} (D : Dc bytes pc .lmul 1 pc') (G : Go wd K₀ l Z R y bytes ml ret n0 kc ks Q h k n pc' ls (.long (a * b) :: st)) : Go wd K₀ l Z R y bytes ml ret n0 kc ks Q h k n pc ls (.long b :: .long a :: st) := by
  obtain ⟨hd, rfl⟩ := D
  exact go_pure G (fun C X t => XT.lmul X.here C.1 (g := mkF _ pc ls.toArray (.long b :: .long a :: st)) rfl (hb C.2.1 hd) rfl)
theorem go_land {a : Int64} {b : Int64} (D : Dc bytes pc .land 1 pc') (G : Go wd K₀ l Z R y bytes ml ret n0 kc ks Q h k n pc' ls (.long (a &&& b) :: st)) : Go wd K₀ l Z R y bytes ml ret n0 kc ks Q h k n pc ls (.long b :: .long a :: st) := by
  obtain ⟨hd, rfl⟩ := D
  exact go_pure G (fun C X t => XT.land X.here C.1 (g := mkF _ pc ls.toArray (.long b :: .long a :: st)) rfl (hb C.2.1 hd) rfl)
theorem go_lor {a : Int64} {b : Int64} (D : Dc bytes pc .lor 1 pc') (G : Go wd K₀ l Z R y bytes ml ret n0 kc ks Q h k n pc' ls (.long (a ||| b) :: st)) : Go wd K₀ l Z R y bytes ml ret n0 kc ks Q h k n pc ls (.long b :: .long a :: st) := by
  obtain ⟨hd, rfl⟩ := D
  exact go_pure G (fun C X t => XT.lor X.here C.1 (g := mkF _ pc ls.toArray (.long b :: .long a :: st)) rfl (hb C.2.1 hd) rfl)
theorem go_lxor {a : Int64} {b : Int64} (D : Dc bytes pc .lxor 1 pc') (G : Go wd K₀ l Z R y bytes ml ret n0 kc ks Q h k n pc' ls (.long (a ^^^ b) :: st)) : Go wd K₀ l Z R y bytes ml ret n0 kc ks Q h k n pc ls (.long b :: .long a :: st) := by
  obtain ⟨hd, rfl⟩ := D
  exact go_pure G (fun C X t => XT.lxor X.here C.1 (g := mkF _ pc ls.toArray (.long b :: .long a :: st)) rfl (hb C.2.1 hd) rfl)
theorem go_ldiv {a : Int64} {b : Int64} (D : Dc bytes pc .ldiv 1 pc') (hz : b ≠ 0) (G : Go wd K₀ l Z R y bytes ml ret n0 kc ks Q h k n pc' ls (.long (a / b) :: st)) : Go wd K₀ l Z R y bytes ml ret n0 kc ks Q h k n pc ls (.long b :: .long a :: st) := by
  obtain ⟨hd, rfl⟩ := D
  exact go_pure G (fun C X t => XT.ldiv X.here C.1 (g := mkF _ pc ls.toArray (.long b :: .long a :: st)) rfl (hb C.2.1 hd) rfl hz)
theorem go_ishl {a : Int32} {b : Int32} (D : Dc bytes pc .ishl 1 pc') (G : Go wd K₀ l Z R y bytes ml ret n0 kc ks Q h k n pc' ls (.int (a <<< (b &&& 31)) :: st)) : Go wd K₀ l Z R y bytes ml ret n0 kc ks Q h k n pc ls (.int b :: .int a :: st) := by
  obtain ⟨hd, rfl⟩ := D
  exact go_pure G (fun C X t => XT.ishl X.here C.1 (g := mkF _ pc ls.toArray (.int b :: .int a :: st)) rfl (hb C.2.1 hd) rfl)
theorem go_ishr {a : Int32} {b : Int32} (D : Dc bytes pc .ishr 1 pc') (G : Go wd K₀ l Z R y bytes ml ret n0 kc ks Q h k n pc' ls (.int (a >>> (b &&& 31)) :: st)) : Go wd K₀ l Z R y bytes ml ret n0 kc ks Q h k n pc ls (.int b :: .int a :: st) := by
  obtain ⟨hd, rfl⟩ := D
  exact go_pure G (fun C X t => XT.ishr X.here C.1 (g := mkF _ pc ls.toArray (.int b :: .int a :: st)) rfl (hb C.2.1 hd) rfl)
theorem go_iushr {a : Int32} {b : Int32} (D : Dc bytes pc .iushr 1 pc') (G : Go wd K₀ l Z R y bytes ml ret n0 kc ks Q h k n pc' ls (.int (XT.ushr a b) :: st)) : Go wd K₀ l Z R y bytes ml ret n0 kc ks Q h k n pc ls (.int b :: .int a :: st) := by
  obtain ⟨hd, rfl⟩ := D
  exact go_pure G (fun C X t => XT.iushr X.here C.1 (g := mkF _ pc ls.toArray (.int b :: .int a :: st)) rfl (hb C.2.1 hd) rfl)
theorem go_lshl {a : Int64} {b : Int32} (D : Dc bytes pc .lshl 1 pc') (G : Go wd K₀ l Z R y bytes ml ret n0 kc ks Q h k n pc' ls (.long (a <<< (b.toInt64 &&& 63)) :: st)) : Go wd K₀ l Z R y bytes ml ret n0 kc ks Q h k n pc ls (.int b :: .long a :: st) := by
  obtain ⟨hd, rfl⟩ := D
  exact go_pure G (fun C X t => XT.lshl X.here C.1 (g := mkF _ pc ls.toArray (.int b :: .long a :: st)) rfl (hb C.2.1 hd) rfl)
theorem go_lshr {a : Int64} {b : Int32} (D : Dc bytes pc .lshr 1 pc') (G : Go wd K₀ l Z R y bytes ml ret n0 kc ks Q h k n pc' ls (.long (a >>> (b.toInt64 &&& 63)) :: st)) : Go wd K₀ l Z R y bytes ml ret n0 kc ks Q h k n pc ls (.int b :: .long a :: st) := by
  obtain ⟨hd, rfl⟩ := D
  exact go_pure G (fun C X t => XT.lshr X.here C.1 (g := mkF _ pc ls.toArray (.int b :: .long a :: st)) rfl (hb C.2.1 hd) rfl)
theorem go_lushr {a : Int64} {b : Int32} (D : Dc bytes pc .lushr 1 pc') (G : Go wd K₀ l Z R y bytes ml ret n0 kc ks Q h k n pc' ls (.long (XT.ushrL a b) :: st)) : Go wd K₀ l Z R y bytes ml ret n0 kc ks Q h k n pc ls (.int b :: .long a :: st) := by
  obtain ⟨hd, rfl⟩ := D
  exact go_pure G (fun C X t => XT.lushr X.here C.1 (g := mkF _ pc ls.toArray (.int b :: .long a :: st)) rfl (hb C.2.1 hd) rfl)
theorem go_lcmp {a : Int64} {b : Int64} (D : Dc bytes pc .lcmp 1 pc') (G : Go wd K₀ l Z R y bytes ml ret n0 kc ks Q h k n pc' ls (.int (XT.cmpL a b) :: st)) : Go wd K₀ l Z R y bytes ml ret n0 kc ks Q h k n pc ls (.long b :: .long a :: st) := by
  obtain ⟨hd, rfl⟩ := D
  exact go_pure G (fun C X t => XT.lcmp X.here C.1 (g := mkF _ pc ls.toArray (.long b :: .long a :: st)) rfl (hb C.2.1 hd) rfl)
theorem go_irem {a b : Int32} (D : Dc bytes pc .irem 1 pc') (hz : b ≠ 0) (G : Go wd K₀ l Z R y bytes ml ret n0 kc ks Q h k n pc' ls (.int (a % b) :: st)) : Go wd K₀ l Z R y bytes ml ret n0 kc ks Q h k n pc ls (.int b :: .int a :: st) := by
  obtain ⟨hd, rfl⟩ := D
  exact go_pure G (fun C X t hr => iremM X C.1 (g := mkF _ pc ls.toArray (.int b :: .int a :: st)) rfl (hb C.2.1 hd) rfl hz hr)
theorem go_lrem {a b : Int64} (D : Dc bytes pc .lrem 1 pc') (hz : b ≠ 0) (G : Go wd K₀ l Z R y bytes ml ret n0 kc ks Q h k n pc' ls (.long (a % b) :: st)) : Go wd K₀ l Z R y bytes ml ret n0 kc ks Q h k n pc ls (.long b :: .long a :: st) := by
  obtain ⟨hd, rfl⟩ := D
  rw [← lrem64] at G
  exact go_pure G (fun C X t => XT.lrem X.here C.1 (g := mkF _ pc ls.toArray (.long b :: .long a :: st)) rfl (hb C.2.1 hd) rfl hz)
theorem go_ineg {a : Int32} (D : Dc bytes pc .ineg 1 pc') (G : Go wd K₀ l Z R y bytes ml ret n0 kc ks Q h k n pc' ls (.int (-a) :: st)) : Go wd K₀ l Z R y bytes ml ret n0 kc ks Q h k n pc ls (.int a :: st) := by
  obtain ⟨hd, rfl⟩ := D
  exact go_pure G (fun C X t => XS.ineg X.here C.1 (g := mkF _ pc ls.toArray (.int a :: st)) rfl (hb C.2.1 hd) rfl)
theorem go_lneg {a : Int64} (D : Dc bytes pc .lneg 1 pc') (G : Go wd K₀ l Z R y bytes ml ret n0 kc ks Q h k n pc' ls (.long (-a) :: st)) : Go wd K₀ l Z R y bytes ml ret n0 kc ks Q h k n pc ls (.long a :: st) := by
  obtain ⟨hd, rfl⟩ := D
  exact go_pure G (fun C X t => XT.lneg X.here C.1 (g := mkF _ pc ls.toArray (.long a :: st)) rfl (hb C.2.1 hd) rfl)
theorem go_i2l {a : Int32} (D : Dc bytes pc .i2l 1 pc') (G : Go wd K₀ l Z R y bytes ml ret n0 kc ks Q h k n pc' ls (.long a.toInt64 :: st)) : Go wd K₀ l Z R y bytes ml ret n0 kc ks Q h k n pc ls (.int a :: st) := by
  obtain ⟨hd, rfl⟩ := D
  exact go_pure G (fun C X t => XT.i2l X.here C.1 (g := mkF _ pc ls.toArray (.int a :: st)) rfl (hb C.2.1 hd) rfl)
theorem go_l2i {a : Int64} (D : Dc bytes pc .l2i 1 pc') (G : Go wd K₀ l Z R y bytes ml ret n0 kc ks Q h k n pc' ls (.int a.toInt32 :: st)) : Go wd K₀ l Z R y bytes ml ret n0 kc ks Q h k n pc ls (.long a :: st) := by
  obtain ⟨hd, rfl⟩ := D
  exact go_pure G (fun C X t => XT.l2i X.here C.1 (g := mkF _ pc ls.toArray (.long a :: st)) rfl (hb C.2.1 hd) rfl)
theorem go_i2b {a : Int32} (D : Dc bytes pc .i2b 1 pc') (G : Go wd K₀ l Z R y bytes ml ret n0 kc ks Q h k n pc' ls (.int a.toInt8.toInt32 :: st)) : Go wd K₀ l Z R y bytes ml ret n0 kc ks Q h k n pc ls (.int a :: st) := by
  obtain ⟨hd, rfl⟩ := D
  exact go_pure G (fun C X t => XT.i2b X.here C.1 (g := mkF _ pc ls.toArray (.int a :: st)) rfl (hb C.2.1 hd) rfl)
theorem go_i2s {a : Int32} (D : Dc bytes pc .i2s 1 pc') (G : Go wd K₀ l Z R y bytes ml ret n0 kc ks Q h k n pc' ls (.int a.toInt16.toInt32 :: st)) : Go wd K₀ l Z R y bytes ml ret n0 kc ks Q h k n pc ls (.int a :: st) := by
  obtain ⟨hd, rfl⟩ := D
  exact go_pure G (fun C X t => XT.i2s X.here C.1 (g := mkF _ pc ls.toArray (.int a :: st)) rfl (hb C.2.1 hd) rfl)
theorem go_i2c {a : Int32} (D : Dc bytes pc .i2c 1 pc') (G : Go wd K₀ l Z R y bytes ml ret n0 kc ks Q h k n pc' ls (.int a.toUInt32.toUInt16.toUInt32.toInt32 :: st)) : Go wd K₀ l Z R y bytes ml ret n0 kc ks Q h k n pc ls (.int a :: st) := by
  obtain ⟨hd, rfl⟩ := D
  exact go_pure G (fun C X t => XT.i2c X.here C.1 (g := mkF _ pc ls.toArray (.int a :: st)) rfl (hb C.2.1 hd) rfl)
theorem go_dup {v : Value} (D : Dc bytes pc .dup 1 pc') (hv : v.category = 1) (G : Go wd K₀ l Z R y bytes ml ret n0 kc ks Q h k n pc' ls (v :: v :: st)) : Go wd K₀ l Z R y bytes ml ret n0 kc ks Q h k n pc ls (v :: st) := by
  obtain ⟨hd, rfl⟩ := D
  exact go_pure G (fun C X t => XS.dup X.here C.1 (g := mkF _ pc ls.toArray (v :: st)) rfl (hb C.2.1 hd) rfl hv)
theorem go_pop {v : Value} (D : Dc bytes pc .pop 1 pc') (hv : v.category = 1) (G : Go wd K₀ l Z R y bytes ml ret n0 kc ks Q h k n pc' ls st) : Go wd K₀ l Z R y bytes ml ret n0 kc ks Q h k n pc ls (v :: st) := by
  obtain ⟨hd, rfl⟩ := D
  exact go_pure G (fun C X t => XT.pop X.here C.1 (g := mkF _ pc ls.toArray (v :: st)) rfl (hb C.2.1 hd) rfl hv)
theorem go_dupx1 {v w : Value} (D : Dc bytes pc .dup_x1 1 pc') (hv : v.category = 1) (hw : w.category = 1) (G : Go wd K₀ l Z R y bytes ml ret n0 kc ks Q h k n pc' ls (v :: w :: v :: st)) : Go wd K₀ l Z R y bytes ml ret n0 kc ks Q h k n pc ls (v :: w :: st) := by
  obtain ⟨hd, rfl⟩ := D
  exact go_pure G (fun C X t => XT.dupX1 X.here C.1 (g := mkF _ pc ls.toArray (v :: w :: st)) rfl (hb C.2.1 hd) rfl hv hw)
theorem go_dup2 {v w : Value} (D : Dc bytes pc .dup2 1 pc') (hv : v.category = 1) (hw : w.category = 1) (G : Go wd K₀ l Z R y bytes ml ret n0 kc ks Q h k n pc' ls (v :: w :: v :: w :: st)) : Go wd K₀ l Z R y bytes ml ret n0 kc ks Q h k n pc ls (v :: w :: st) := by
  obtain ⟨hd, rfl⟩ := D
  exact go_pure G (fun C X t => XT.dup2 X.here C.1 (g := mkF _ pc ls.toArray (v :: w :: st)) rfl (hb C.2.1 hd) rfl hv hw)
theorem go_dup2L {v : Int64} (D : Dc bytes pc .dup2 1 pc') (G : Go wd K₀ l Z R y bytes ml ret n0 kc ks Q h k n pc' ls (.long v :: .long v :: st)) : Go wd K₀ l Z R y bytes ml ret n0 kc ks Q h k n pc ls (.long v :: st) := by
  obtain ⟨hd, rfl⟩ := D
  exact go_pure G (fun C X t => XT.dup2L X.here C.1 (g := mkF _ pc ls.toArray (.long v :: st)) rfl (hb C.2.1 hd) rfl)
theorem go_goto (D : Db bytes pc .goto pc' tg) (G : Go wd K₀ l Z R y bytes ml ret n0 kc ks Q h k n tg ls st) : Go wd K₀ l Z R y bytes ml ret n0 kc ks Q h k n pc ls st := by
  obtain ⟨o, hd, rfl, ho, hp⟩ := D
  exact go_pure G (fun C X t => XS.goto X.here C.1 (g := mkF _ pc ls.toArray st) rfl (pc0 := pc) rfl (hb C.2.1 hd) ho hp)
theorem go_icmp_eq {a b : Int32} (D : Db bytes pc (.if_icmp .eq) pc' tg) (G1 : a = b → Go wd K₀ l Z R y bytes ml ret n0 kc ks Q h k n tg ls st) (G2 : ¬ a = b → Go wd K₀ l Z R y bytes ml ret n0 kc ks Q h k n pc' ls st) : Go wd K₀ l Z R y bytes ml ret n0 kc ks Q h k n pc ls (.int b :: .int a :: st) := by
  obtain ⟨o, hd, rfl, ho, hp⟩ := D
  by_cases q : a = b
  · exact go_pure (G1 q) (fun C X t => XS.icmpYes X.here C.1 (g := mkF _ pc ls.toArray (.int b :: .int a :: st)) rfl (pc0 := pc) rfl (hb C.2.1 hd) rfl (XT.ii_eq_t q) ho hp)
  · exact go_pure (G2 q) (fun C X t => XS.icmpNo X.here C.1 (g := mkF _ pc ls.toArray (.int b :: .int a :: st)) rfl (hb C.2.1 hd) rfl (XT.ii_eq_f q))
theorem go_if_eq {a : Int32} (D : Db bytes pc (.ifCond .eq) pc' tg) (G1 : a = 0 → Go wd K₀ l Z R y bytes ml ret n0 kc ks Q h k n tg ls st) (G2 : ¬ a = 0 → Go wd K₀ l Z R y bytes ml ret n0 kc ks Q h k n pc' ls st) : Go wd K₀ l Z R y bytes ml ret n0 kc ks Q h k n pc ls (.int a :: st) := by
  obtain ⟨o, hd, rfl, ho, hp⟩ := D
  by_cases q : a = 0
  · exact go_pure (G1 q) (fun C X t => XS.ifYes X.here C.1 (g := mkF _ pc ls.toArray (.int a :: st)) rfl (pc0 := pc) rfl (hb C.2.1 hd) rfl (XT.i0_eq_t q) ho hp)
  · exact go_pure (G2 q) (fun C X t => XS.ifNo X.here C.1 (g := mkF _ pc ls.toArray (.int a :: st)) rfl (hb C.2.1 hd) rfl (XT.i0_eq_f q))
theorem go_lc_eq {a b : Int64} (D : Db bytes pc (.ifCond .eq) pc' tg) (G1 : a = b → Go wd K₀ l Z R y bytes ml ret n0 kc ks Q h k n tg ls st) (G2 : ¬ a = b → Go wd K₀ l Z R y bytes ml ret n0 kc ks Q h k n pc' ls st) : Go wd K₀ l Z R y bytes ml ret n0 kc ks Q h k n pc ls (.int (XT.cmpL a b) :: st) := by
  obtain ⟨o, hd, rfl, ho, hp⟩ := D
  by_cases q : a = b
  · exact go_pure (G1 q) (fun C X t => XS.ifYes X.here C.1 (g := mkF _ pc ls.toArray (.int (XT.cmpL a b) :: st)) rfl (pc0 := pc) rfl (hb C.2.1 hd) rfl (XT.ll_eq_t q) ho hp)
  · exact go_pure (G2 q) (fun C X t => XS.ifNo X.here C.1 (g := mkF _ pc ls.toArray (.int (XT.cmpL a b) :: st)) rfl (hb C.2.1 hd) rfl (XT.ll_eq_f q))
theorem go_icmp_ne {a b : Int32} (D : Db bytes pc (.if_icmp .ne) pc' tg) (G1 : ¬ a = b → Go wd K₀ l Z R y bytes ml ret n0 kc ks Q h k n tg ls st) (G2 : a = b → Go wd K₀ l Z R y bytes ml ret n0 kc ks Q h k n pc' ls st) : Go wd K₀ l Z R y bytes ml ret n0 kc ks Q h k n pc ls (.int b :: .int a :: st) := by
  obtain ⟨o, hd, rfl, ho, hp⟩ := D
  by_cases q : a = b
  · exact go_pure (G2 q) (fun C X t => XS.icmpNo X.here C.1 (g := mkF _ pc ls.toArray (.int b :: .int a :: st)) rfl (hb C.2.1 hd) rfl (XT.ii_ne_f q))
  · exact go_pure (G1 q) (fun C X t => XS.icmpYes X.here C.1 (g := mkF _ pc ls.toArray (.int b :: .int a :: st)) rfl (pc0 := pc) rfl (hb C.2.1 hd) rfl (XT.ii_ne_t q) ho hp)
theorem go_if_ne {a : Int32} (D : Db bytes pc (.ifCond .ne) pc' tg) (G1 : ¬ a = 0 → Go wd K₀ l Z R y bytes ml ret n0 kc ks Q h k n tg ls st) (G2 : a = 0 → Go wd K₀ l Z R y bytes ml ret n0 kc ks Q h k n pc' ls st) : Go wd K₀ l Z R y bytes ml ret n0 kc ks Q h k n pc ls (.int a :: st) := by
  obtain ⟨o, hd, rfl, ho, hp⟩ := D
  by_cases q : a = 0
  · exact go_pure (G2 q) (fun C X t => XS.ifNo X.here C.1 (g := mkF _ pc ls.toArray (.int a :: st)) rfl (hb C.2.1 hd) rfl (XT.i0_ne_f q))
  · exact go_pure (G1 q) (fun C X t => XS.ifYes X.here C.1 (g := mkF _ pc ls.toArray (.int a :: st)) rfl (pc0 := pc) rfl (hb C.2.1 hd) rfl (XT.i0_ne_t q) ho hp)
theorem go_lc_ne {a b : Int64} (D : Db bytes pc (.ifCond .ne) pc' tg) (G1 : ¬ a = b → Go wd K₀ l Z R y bytes ml ret n0 kc ks Q h k n tg ls st) (G2 : a = b → Go wd K₀ l Z R y bytes ml ret n0 kc ks Q h k n pc' ls st) : Go wd K₀ l Z R y bytes ml ret n0 kc ks Q h k n pc ls (.int (XT.cmpL a b) :: st) := by
  obtain ⟨o, hd, rfl, ho, hp⟩ := D
  by_cases q : a = b
  · exact go_pure (G2 q) (fun C X t => XS.ifNo X.here C.1 (g := mkF _ pc ls.toArray (.int (XT.cmpL a b) :: st)) rfl (hb C.2.1 hd) rfl (XT.ll_ne_f q))
  · exact go_pure (G1 q) (fun C X t => XS.ifYes X.here C.1 (g := mkF _ pc ls.toArray (.int (XT.cmpL a b) :: st)) rfl (pc0 := pc) rfl (hb C.2.1 hd) rfl (XT.ll_ne_t q) ho hp)
theorem go_icmp_lt {a b : Int32} (D : Db bytes pc (.if_icmp .lt) pc' tg) (G1 : a < b → Go wd K₀ l Z R y bytes ml ret n0 kc ks Q h k n tg ls st) (G2 : ¬ a < b → Go wd K₀ l Z R y bytes ml ret n0 kc ks Q h k n pc' ls st) : Go wd K₀ l Z R y bytes ml ret n0 kc ks Q h k n pc ls (.int b :: .int a :: st) := by
  obtain ⟨o, hd, rfl, ho, hp⟩ := D
  by_cases q : a < b
  · exact go_pure (G1 q) (fun C X t => XS.icmpYes X.here C.1 (g := mkF _ pc ls.toArray (.int b :: .int a :: st)) rfl (pc0 := pc) rfl (hb C.2.1 hd) rfl (XT.ii_lt_t q) ho hp)
  · exact go_pure (G2 q) (fun C X t => XS.icmpNo X.here C.1 (g := mkF _ pc ls.toArray (.int b :: .int a :: st)) rfl (hb C.2.1 hd) rfl (XT.ii_lt_f q))
theorem go_if_lt {a : Int32} (D : Db bytes pc (.ifCond .lt) pc' tg) (G1 : a < 0 → Go wd K₀ l Z R y bytes ml ret n0 kc ks Q h k n tg ls st) (G2 : ¬ a < 0 → Go wd K₀ l Z R y bytes ml ret n0 kc ks Q h k n pc' ls st) : Go wd K₀ l Z R y bytes ml ret n0 kc ks Q h k n pc ls (.int a :: st) := by
  obtain ⟨o, hd, rfl, ho, hp⟩ := D
  by_cases q : a < 0
  · exact go_pure (G1 q) (fun C X t => XS.ifYes X.here C.1 (g := mkF _ pc ls.toArray (.int a :: st)) rfl (pc0 := pc) rfl (hb C.2.1 hd) rfl (XT.i0_lt_t q) ho hp)
  · exact go_pure (G2 q) (fun C X t => XS.ifNo X.here C.1 (g := mkF _ pc ls.toArray (.int a :: st)) rfl (hb C.2.1 hd) rfl (XT.i0_lt_f q))
theorem go_lc_lt {a b : Int64} (D : Db bytes pc (.ifCond .lt) pc' tg) (G1 : a < b → Go wd K₀ l Z R y bytes ml ret n0 kc ks Q h k n tg ls st) (G2 : ¬ a < b → Go wd K₀ l Z R y bytes ml ret n0 kc ks Q h k n pc' ls st) : Go wd K₀ l Z R y bytes ml ret n0 kc ks Q h k n pc ls (.int (XT.cmpL a b) :: st) := by
  obtain ⟨o, hd, rfl, ho, hp⟩ := D
  by_cases q : a < b
  · exact go_pure (G1 q) (fun C X t => XS.ifYes X.here C.1 (g := mkF _ pc ls.toArray (.int (XT.cmpL a b) :: st)) rfl (pc0 := pc) rfl (hb C.2.1 hd) rfl (XT.ll_lt_t q) ho hp)
  · exact go_pure (G2 q) (fun C X t => XS.ifNo X.here C.1 (g := mkF _ pc ls.toArray (.int (XT.cmpL a b) :: st)) rfl (hb C.2.1 hd) rfl (XT.ll_lt_f q))
theorem go_icmp_ge {a b : Int32} (D : Db bytes pc (.if_icmp .ge) pc' tg) (G1 : ¬ a < b → Go wd K₀ l Z R y bytes ml ret n0 kc ks Q h k n tg ls st) (G2 : a < b → Go wd K₀ l Z R y bytes ml ret n0 kc ks Q h k n pc' ls st) : Go wd K₀ l Z R y bytes ml ret n0 kc ks Q h k n pc ls (.int b :: .int a :: st) := by
  obtain ⟨o, hd, rfl, ho, hp⟩ := D
  by_cases q : a < b
  · exact go_pure (G2 q) (fun C X t => XS.icmpNo X.here C.1 (g := mkF _ pc ls.toArray (.int b :: .int a :: st)) rfl (hb C.2.1 hd) rfl (XT.ii_ge_f q))
  · exact go_pure (G1 q) (fun C X t => XS.icmpYes X.here C.1 (g := mkF _ pc ls.toArray (.int b :: .int a :: st)) rfl (pc0 := pc) rfl (hb C.2.1 hd) rfl (XT.ii_ge_t q) ho hp)
theorem go_if_ge {a : Int32} (D : Db bytes pc (.ifCond .ge) pc' tg) (G1 : ¬ a < 0 → Go wd K₀ l Z R y bytes ml ret n0 kc ks Q h k n tg ls st) (G2 : a < 0 → Go wd K₀ l Z R y bytes ml ret n0 kc ks Q h k n pc' ls st) : Go wd K₀ l Z R y bytes ml ret n0 kc ks Q h k n pc ls (.int a :: st) := by
  obtain ⟨o, hd, rfl, ho, hp⟩ := D
  by_cases q : a < 0
  · exact go_pure (G2 q) (fun C X t => XS.ifNo X.here C.1 (g := mkF _ pc ls.toArray (.int a :: st)) rfl (hb C.2.1 hd) rfl (XT.i0_ge_f q))
  · exact go_pure (G1 q) (fun C X t => XS.ifYes X.here C.1 (g := mkF _ pc ls.toArray (.int a :: st)) rfl (pc0 := pc) rfl (hb C.2.1 hd) rfl (XT.i0_ge_t q) ho hp)
theorem go_lc_ge {a b : Int64} (D : Db bytes pc (.ifCond .ge) pc' tg) (G1 : ¬ a < b → Go wd K₀ l Z R y bytes ml ret n0 kc ks Q h k n tg ls st) (G2 : a < b → Go wd K₀ l Z R y bytes ml ret n0 kc ks Q h k n pc' ls st) : Go wd K₀ l Z R y bytes ml ret n0 kc ks Q h k n pc ls (.int (XT.cmpL a b) :: st) := by
  obtain ⟨o, hd, rfl, ho, hp⟩ := D
  by_cases q : a < b
  · exact go_pure (G2 q) (fun C X t => XS.ifNo X.here C.1 (g := mkF _ pc ls.toArray (.int (XT.cmpL a b) :: st)) rfl (hb C.2.1 hd) rfl (XT.ll_ge_f q))
  · exact go_pure (G1 q) (fun C X t => XS.ifYes X.here C.1 (g := mkF _ pc ls.toArray (.int (XT.cmpL a b) :: st)) rfl (pc0 := pc) rfl (hb C.2.1 hd) rfl (XT.ll_ge_t q) ho hp)
theorem go_icmp_gt {a b : Int32} (D : Db bytes pc (.if_icmp .gt) pc' tg) (G1 : b < a → Go wd K₀ l Z R y bytes ml ret n0 kc ks Q h k n tg ls st) (G2 : ¬ b < a → Go wd K₀ l Z R y bytes ml ret n0 kc ks Q h k n pc' ls st) : Go wd K₀ l Z R y bytes ml ret n0 kc ks Q h k n pc ls (.int b :: .int a :: st) := by
  obtain ⟨o, hd, rfl, ho, hp⟩ := D
  by_cases q : b < a
  · exact go_pure (G1 q) (fun C X t => XS.icmpYes X.here C.1 (g := mkF _ pc ls.toArray (.int b :: .int a :: st)) rfl (pc0 := pc) rfl (hb C.2.1 hd) rfl (XT.ii_gt_t q) ho hp)
  · exact go_pure (G2 q) (fun C X t => XS.icmpNo X.here C.1 (g := mkF _ pc ls.toArray (.int b :: .int a :: st)) rfl (hb C.2.1 hd) rfl (XT.ii_gt_f q))
theorem go_if_gt {a : Int32} (D : Db bytes pc (.ifCond .gt) pc' tg) (G1 : 0 < a → Go wd K₀ l Z R y bytes ml ret n0 kc ks Q h k n tg ls st) (G2 : ¬ 0 < a → Go wd K₀ l Z R y bytes ml ret n0 kc ks Q h k n pc' ls st) : Go wd K₀ l Z R y bytes ml ret n0 kc ks Q h k n pc ls (.int a :: st) := by
  obtain ⟨o, hd, rfl, ho, hp⟩ := D
  by_cases q : 0 < a
  · exact go_pure (G1 q) (fun C X t => XS.ifYes X.here C.1 (g := mkF _ pc ls.toArray (.int a :: st)) rfl (pc0 := pc) rfl (hb C.2.1 hd) rfl (XT.i0_gt_t q) ho hp)
  · exact go_pure (G2 q) (fun C X t => XS.ifNo X.here C.1 (g := mkF _ pc ls.toArray (.int a :: st)) rfl (hb C.2.1 hd) rfl (XT.i0_gt_f q))
theorem go_lc_gt {a b : Int64} (D : Db bytes pc (.ifCond .gt) pc' tg) (G1 : b < a → Go wd K₀ l Z R y bytes ml ret n0 kc ks Q h k n tg ls st) (G2 : ¬ b < a → Go wd K₀ l Z R y bytes ml ret n0 kc ks Q h k n pc' ls st) : Go wd K₀ l Z R y bytes ml ret n0 kc ks Q h k n pc ls (.int (XT.cmpL a b) :: st) := by
  obtain ⟨o, hd, rfl, ho, hp⟩ := D
  by_cases q : b < a
  · exact go_pure (G1 q) (fun C X t => XS.ifYes X.here C.1 (g := mkF _ pc ls.toArray (.int (XT.cmpL a b) :: st)) rfl (pc0 := pc) rfl (hb C.2.1 hd) rfl (XT.ll_gt_t q) ho hp)
  · exact go_pure (G2 q) (fun C X t => XS.ifNo X.here C.1 (g := mkF _ pc ls.toArray (.int (XT.cmpL a b) :: st)) rfl (hb C.2.1 hd) rfl (XT.ll_gt_f q))
theorem go_icmp_le {a b : Int32} (D : Db bytes pc (.if_icmp .le) pc' tg) (G1 : ¬ b < a → Go wd K₀ l Z R y bytes ml ret n0 kc ks Q h k n tg ls st) (G2 : b < a → Go wd K₀ l Z R y bytes ml ret n0 kc ks Q h k n pc' ls st) : Go wd K₀ l Z R y bytes ml ret n0 kc ks Q h k n pc ls (.int b :: .int a :: st) := by
  obtain ⟨o, hd, rfl, ho, hp⟩ := D
  by_cases q : b < a
  · exact go_pure (G2 q) (fun C X t => XS.icmpNo X.here C.1 (g := mkF _ pc ls.toArray (.int b :: .int a :: st)) rfl (hb C.2.1 hd) rfl (XT.ii_le_f q))
  · exact go_pure (G1 q) (fun C X t => XS.icmpYes X.here C.1 (g := mkF _ pc ls.toArray (.int b :: .int a :: st)) rfl (pc0 := pc) rfl (hb C.2.1 hd) rfl (XT.ii_le_t q) ho hp)
theorem go_if_le {a : Int32} (D : Db bytes pc (.ifCond .le) pc' tg) (G1 : ¬ 0 < a → Go wd K₀ l Z R y bytes ml ret n0 kc ks Q h k n tg ls st) (G2 : 0 < a → Go wd K₀ l Z R y bytes ml ret n0 kc ks Q h k n pc' ls st) : Go wd K₀ l Z R y bytes ml ret n0 kc ks Q h k n pc ls (.int a :: st) := by
  obtain ⟨o, hd, rfl, ho, hp⟩ := D
  by_cases q : 0 < a
  · exact go_pure (G2 q) (fun C X t => XS.ifNo X.here C.1 (g := mkF _ pc ls.toArray (.int a :: st)) rfl (hb C.2.1 hd) rfl (XT.i0_le_f q))
  · exact go_pure (G1 q) (fun C X t => XS.ifYes X.here C.1 (g := mkF _ pc ls.toArray (.int a :: st)) rfl (pc0 := pc) rfl (hb C.2.1 hd) rfl (XT.i0_le_t q) ho hp)
theorem go_lc_le {a b : Int64} (D : Db bytes pc (.ifCond .le) pc' tg) (G1 : ¬ b < a → Go wd K₀ l Z R y bytes ml ret n0 kc ks Q h k n tg ls st) (G2 : b < a → Go wd K₀ l Z R y bytes ml ret n0 kc ks Q h k n pc' ls st) : Go wd K₀ l Z R y bytes ml ret n0 kc ks Q h k n pc ls (.int (XT.cmpL a b) :: st) := by
  obtain ⟨o, hd, rfl, ho, hp⟩ := D
  by_cases q : b < a
  · exact go_pure (G2 q) (fun C X t => XS.ifNo X.here C.1 (g := mkF _ pc ls.toArray (.int (XT.cmpL a b) :: st)) rfl (hb C.2.1 hd) rfl (XT.ll_le_f q))
  · exact go_pure (G1 q) (fun C X t => XS.ifYes X.here C.1 (g := mkF _ pc ls.toArray (.int (XT.cmpL a b) :: st)) rfl (pc0 := pc) rfl (hb C.2.1 hd) rfl (XT.ll_le_t q) ho hp)
theorem go_acmp_eq {a b : Value} (D : Db bytes pc (.if_acmp .eq) pc' tg) (ha : a.isRef = true) (hb' : b.isRef = true) (G1 : a = b → Go wd K₀ l Z R y bytes ml ret n0 kc ks Q h k n tg ls st) (G2 : ¬ a = b → Go wd K₀ l Z R y bytes ml ret n0 kc ks Q h k n pc' ls st) : Go wd K₀ l Z R y bytes ml ret n0 kc ks Q h k n pc ls (b :: a :: st) := by
  obtain ⟨o, hd, rfl, ho, hp⟩ := D
  by_cases q : a = b
  · exact go_pure (G1 q) (fun C X t => XT.acmpYes X.here C.1 (g := mkF _ pc ls.toArray (b :: a :: st)) rfl (pc0 := pc) rfl (hb C.2.1 hd) rfl ha hb' (XT.aa_eq_t q) ho hp)
  · exact go_pure (G2 q) (fun C X t => XT.acmpNo X.here C.1 (g := mkF _ pc ls.toArray (b :: a :: st)) rfl (hb C.2.1 hd) rfl ha hb' (XT.aa_eq_f q))
theorem go_acmp_ne {a b : Value} (D : Db bytes pc (.if_acmp .ne) pc' tg) (ha : a.isRef = true) (hb' : b.isRef = true) (G1 : ¬ a = b → Go wd K₀ l Z R y bytes ml ret n0 kc ks Q h k n tg ls st) (G2 : a = b → Go wd K₀ l Z R y bytes ml ret n0 kc ks Q h k n pc' ls st) : Go wd K₀ l Z R y bytes ml ret n0 kc ks Q h k n pc ls (b :: a :: st) := by
  obtain ⟨o, hd, rfl, ho, hp⟩ := D
  by_cases q : a = b
  · exact go_pure (G2 q) (fun C X t => XT.acmpNo X.here C.1 (g := mkF _ pc ls.toArray (b :: a :: st)) rfl (hb C.2.1 hd) rfl ha hb' (XT.aa_ne_f q))
  · exact go_pure (G1 q) (fun C X t => XT.acmpYes X.here C.1 (g := mkF _ pc ls.toArray (b :: a :: st)) rfl (pc0 := pc) rfl (hb C.2.1 hd) rfl ha hb' (XT.aa_ne_t q) ho hp)
theorem go_ifnullT (D : Db bytes pc .ifnull pc' tg) (G : Go wd K₀ l Z R y bytes ml ret n0 kc ks Q h k n tg ls st) : Go wd K₀ l Z R y bytes ml ret n0 kc ks Q h k n pc ls (.null :: st) := by
  obtain ⟨o, hd, rfl, ho, hp⟩ := D
  exact go_pure G (fun C X t => XS.ifnullYes X.here C.1 (g := mkF _ pc ls.toArray (.null :: st)) rfl (pc0 := pc) rfl (hb C.2.1 hd) rfl ho hp)
theorem go_ifnullF {a : Addr} (D : Db bytes pc .ifnull pc' tg) (G : Go wd K₀ l Z R y bytes ml ret n0 kc ks Q h k n pc' ls st) : Go wd K₀ l Z R y bytes ml ret n0 kc ks Q h k n pc ls (.ref a :: st) := by
  obtain ⟨o, hd, rfl, ho, hp⟩ := D
  exact go_pure G (fun C X t => XS.ifnullNo X.here C.1 (g := mkF _ pc ls.toArray (.ref a :: st)) rfl (hb C.2.1 hd) rfl)
theorem go_nonnullT {a : Addr} (D : Db bytes pc .ifnonnull pc' tg) (G : Go wd K₀ l Z R y bytes ml ret n0 kc ks Q h k n tg ls st) : Go wd K₀ l Z R y bytes ml ret n0 kc ks Q h k n pc ls (.ref a :: st) := by
  obtain ⟨o, hd, rfl, ho, hp⟩ := D
  exact go_pure G (fun C X t => XT.ifnonnullYes X.here C.1 (g := mkF _ pc ls.toArray (.ref a :: st)) rfl (pc0 := pc) rfl (hb C.2.1 hd) rfl ho hp)
theorem go_nonnullF (D : Db bytes pc .ifnonnull pc' tg) (G : Go wd K₀ l Z R y bytes ml ret n0 kc ks Q h k n pc' ls st) : Go wd K₀ l Z R y bytes ml ret n0 kc ks Q h k n pc ls (.null :: st) := by
  obtain ⟨o, hd, rfl, ho, hp⟩ := D
  exact go_pure G (fun C X t => XT.ifnonnullNo X.here C.1 (g := mkF _ pc ls.toArray (.null :: st)) rfl (hb C.2.1 hd) rfl)
theorem go_nonnullV {v : Value} (D : Db bytes pc .ifnonnull pc' tg) (hv : v.isRef = true) (G1 : v ≠ .null → Go wd K₀ l Z R y bytes ml ret n0 kc ks Q h k n tg ls st) (G2 : v = .null → Go wd K₀ l Z R y bytes ml ret n0 kc ks Q h k n pc' ls st) : Go wd K₀ l Z R y bytes ml ret n0 kc ks Q h k n pc ls (v :: st) := by
  cases v with
  | null => exact go_nonnullF D (G2 rfl)
  | ref a => exact go_nonnullT D (G1 (fun q => nomatch q))
  | int _ => cases hv
  | long _ => cases hv
  | float _ => cases hv
  | double _ => cases hv
  | _ => cases hv
theorem go_ldcI {v : Int32} {idx : Nat} (D : Dc bytes pc (.ldc idx) 2 pc') (w : (Cond.constant y.cls idx v).before a0 Z = true) (G : Go wd K₀ l Z R y bytes ml ret n0 kc ks Q h k n pc' ls (.int v :: st)) : Go wd K₀ l Z R y bytes ml ret n0 kc ks Q h k n pc ls st := by
  obtain ⟨hd, rfl⟩ := D
  exact go_pure G (fun C X t => X.ldcInt C.1 C.2.2.2.1 (mvT C.2.2.2.2.1 w) (g := mkF _ pc ls.toArray st) rfl (hb C.2.1 hd) t)
theorem go_ldcJ {v : Int64} {idx : Nat} (D : Dc bytes pc (.ldc2_w idx) 3 pc') (w : (Cond.constantLong y.cls idx v).before a0 Z = true) (G : Go wd K₀ l Z R y bytes ml ret n0 kc ks Q h k n pc' ls (.long v :: st)) : Go wd K₀ l Z R y bytes ml ret n0 kc ks Q h k n pc ls st := by
  obtain ⟨hd, rfl⟩ := D
  exact go_pure G (fun C X t => X.ldc2Long C.1 C.2.2.2.1 (mvT C.2.2.2.2.1 w) (g := mkF _ pc ls.toArray st) rfl (hb C.2.1 hd) t)
theorem go_iret {z : Int32} (hr : ret = some .int) (D : Dc bytes pc .ireturn 1 pc') (hk : k ≤ kc) (hn : n ≤ ks) (q : Q (some (.int z)) h) : Go wd K₀ l Z R y bytes ml ret n0 kc ks Q h k n pc ls (.int z :: st) := by
  intro p e s0 s m args below meth c T L Bs C X hh N
  obtain ⟨hd, rfl⟩ := D
  have hl := C.2.2.2.2.2.2.1
  obtain ⟨fs, hr', hrun, hended, hW, hsame⟩ := X.leave (v := some (.int z)) (fun q => by rw [C.2.2.2.2.2.1, hr] at q; cases q) hl
  exact ⟨_, _, retOut X C.1 (C.2.2.2.2.2.1.trans hr) rfl (Or.inl ⟨rfl, Or.inl rfl, z, rfl⟩) (hb C.2.1 hd) hr', hrun, hended, _, L, rfl, ⟨by show Q _ T.heap; rw [hh]; exact q, N⟩, endK Bs hh hW hsame hk hn⟩
theorem go_bret {z : Int32} (hr : ret = some .boolean) (D : Dc bytes pc .ireturn 1 pc') (hk : k ≤ kc) (hn : n ≤ ks) (hz : z = 0 ∨ z = 1) (q : Q (some (.int z)) h) : Go wd K₀ l Z R y bytes ml ret n0 kc ks Q h k n pc ls (.int z :: st) := by
  intro p e s0 s m args below meth c T L Bs C X hh N
  obtain ⟨hd, rfl⟩ := D
  have hl := C.2.2.2.2.2.2.1
  obtain ⟨fs, hr', hrun, hended, hW, hsame⟩ := X.leave (v := some (.int z)) (fun q => by rw [C.2.2.2.2.2.1, hr] at q; cases q) hl
  exact ⟨_, _, retOut X C.1 (C.2.2.2.2.2.1.trans hr) (by rcases hz with rfl | rfl <;> rfl) (Or.inl ⟨rfl, Or.inr (Or.inl rfl), z, rfl⟩) (hb C.2.1 hd) hr', hrun, hended, _, L, rfl, ⟨by show Q _ T.heap; rw [hh]; exact q, N⟩, endK Bs hh hW hsame hk hn⟩
theorem go_nret {z : Int32} {ty : FieldType} (hr : ret = some ty) (hty : ty = .byte ∨ ty = .char ∨ ty = .short) (D : Dc bytes pc .ireturn 1 pc') (hk : k ≤ kc) (hn : n ≤ ks) (hz : narrow ty (.int z) = .int z) (q : Q (some (.int z)) h) : Go wd K₀ l Z R y bytes ml ret n0 kc ks Q h k n pc ls (.int z :: st) := by
  intro p e s0 s m args below meth c T L Bs C X hh N
  obtain ⟨hd, rfl⟩ := D
  have hl := C.2.2.2.2.2.2.1
  obtain ⟨fs, hr', hrun, hended, hW, hsame⟩ := X.leave (v := some (.int z)) (fun q => by rw [C.2.2.2.2.2.1, hr] at q; cases q) hl
  exact ⟨_, _, retOut X C.1 (C.2.2.2.2.2.1.trans hr) hz (Or.inl ⟨rfl, Or.inr (Or.inr hty), z, rfl⟩) (hb C.2.1 hd) hr', hrun, hended, _, L, rfl, ⟨by show Q _ T.heap; rw [hh]; exact q, N⟩, endK Bs hh hW hsame hk hn⟩
theorem go_lret {z : Int64} (hr : ret = some .long) (D : Dc bytes pc .lreturn 1 pc') (hk : k ≤ kc) (hn : n ≤ ks) (q : Q (some (.long z)) h) : Go wd K₀ l Z R y bytes ml ret n0 kc ks Q h k n pc ls (.long z :: st) := by
  intro p e s0 s m args below meth c T L Bs C X hh N
  obtain ⟨hd, rfl⟩ := D
  have hl := C.2.2.2.2.2.2.1
  obtain ⟨fs, hr', hrun, hended, hW, hsame⟩ := X.leave (v := some (.long z)) (fun q => by rw [C.2.2.2.2.2.1, hr] at q; cases q) hl
  exact ⟨_, _, retOut X C.1 (C.2.2.2.2.2.1.trans hr) rfl (Or.inr (Or.inl ⟨rfl, rfl, z, rfl⟩)) (hb C.2.1 hd) hr', hrun, hended, _, L, rfl, ⟨by show Q _ T.heap; rw [hh]; exact q, N⟩, endK Bs hh hW hsame hk hn⟩
theorem narrow_ref {t : FieldType} {w : Value} (ht : t.isReference = true) (hw : w.isRef = true) : narrow t w = w := by
  cases t <;> cases w <;> first | rfl | (simp [FieldType.isReference] at ht; done) | (simp [Value.isRef] at hw; done)
theorem go_aret {w : Value} {t : FieldType} (hr : ret = some t) (ht : t.isReference = true) (hw : w.isRef = true) (D : Dc bytes pc .areturn 1 pc') (hk : k ≤ kc) (hn : n ≤ ks) (q : Q (some w) h) : Go wd K₀ l Z R y bytes ml ret n0 kc ks Q h k n pc ls (w :: st) := by
  intro p e s0 s m args below meth c T L Bs C X hh N
  obtain ⟨hd, rfl⟩ := D
  have hl := C.2.2.2.2.2.2.1
  obtain ⟨fs, hr', hrun, hended, hW, hsame⟩ := X.leave (v := some w) (fun q => by rw [C.2.2.2.2.2.1, hr] at q; cases q) hl
  exact ⟨_, _, retOut X C.1 (C.2.2.2.2.2.1.trans hr) (narrow_ref ht hw) (Or.inr (Or.inr (Or.inr (Or.inr ⟨rfl, ht, hw⟩)))) (hb C.2.1 hd) hr', hrun, hended, _, L, rfl, ⟨by show Q _ T.heap; rw [hh]; exact q, N⟩, endK Bs hh hW hsame hk hn⟩
theorem go_ret (hr : ret = none) (D : Dc bytes pc .return_ 1 pc') (hk : k ≤ kc) (hn : n ≤ ks) (q : Q none h) : Go wd K₀ l Z R y bytes ml ret n0 kc ks Q h k n pc ls [] := by
  intro p e s0 s m args below meth c T L Bs C X hh N
  obtain ⟨hd, rfl⟩ := D
  have hl := C.2.2.2.2.2.2.1
  obtain ⟨fs, hr', hrun, hended, hW, hsame⟩ := X.leave (v := none) (fun _ => rfl) hl
  exact ⟨_, _, X.returnOut C.1 (C.2.2.2.2.2.1.trans hr) (hb C.2.1 hd) hr', hrun, hended, _, L, rfl, ⟨by show Q _ T.heap; rw [hh]; exact q, N⟩, endK Bs hh hW hsame hk hn⟩
theorem con_of {as' : Array Value} (hp : plainFor y = true) (he : Jvm.Sym.laidSlots as'.toList ++ List.replicate (ml - (Jvm.Sym.laidSlots as'.toList).length) .unset = ls) (G : Go wd KT l Z R y bytes ml ret n0 R.cells R.slots Q h 0 0 0 ls []) : Con wd l Z y bytes ml ret R as' h n0 Q := by
  intro ws
  refine MetFree.of_bodySF hp hisR ?_
  intro p e s m args below meth c s₁ Bd hml hP hK
  obtain ⟨rfl, hZ, hh⟩ := hP
  have X0 : Stand p l e R s m args below meth c s₁ [] 0 0 := Stand.of_body Bd
  have e0 : s₁.heap = h := by rw [← hh, Bd.state]; rfl
  obtain ⟨s₂, o, h1, h2, h3, v, L, e1, ⟨q1, q2⟩, q3⟩ := G p e s s m args below meth c s₁ [] (Base.start s hh) ⟨Bd.exec, Bd.bytes, hml, findClass_of_methodNamed Bd.named, hZ, Bd.returns, Bd.notSynchronized, (name_of_methodNamed Bd.named Bd.method).1, trivial⟩ X0 e0 (Fr.nil n0)
  exact ⟨s₂, o, (XT.entry (Ls := ls.toArray) (by simpa using he)).trans h1, h2, h3, v, L, e1, ⟨⟨q1, by rw [← hh]; exact q3.size⟩, q2⟩, q3⟩
theorem go_callS1 {y' : MethodName} {b' : ByteArray} {m' : Nat} {r' : Option FieldType} {rm : Room} {idx W : Nat} {argsL : List Value} {P : Value → Heap → Prop} (D : Dc bytes pc (.invokestatic idx) 3 pc') (hM : Con false l Z y' b' m' r' rm argsL.toArray h n0 (R1 P))
    (w1 : (Cond.methodLink y.cls idx y').before a0 Z = true) (w2 : (Cond.static y').before a0 Z = true) (w3 : (Cond.initialized y'.cls).before a0 Z = true) (w4 : (Cond.code y' b' m' r').before a0 Z = true) (hy : y'.cls ≠ "java/lang/invoke/MethodHandle" ∧ y'.cls ≠ "java/lang/invoke/VarHandle")
    (hlen : ∀ sig, parseMethodDescriptor y'.desc = some sig → argsL.length = sig.parameters.length) {st₀ : List Value} (hst : st₀ = argsL.reverse ++ st) (hW : (st.map fun v => v.category).sum = W) (hf : rm.frames + 1 ≤ R.frames) (hlo : W + (m' + 11) + rm.locals ≤ R.locals) (hk : k + rm.cells ≤ R.cells) (hn : n + rm.slots ≤ R.slots) (hls : ls.length = ml)
    (G : ∀ w h', P w h' → Go wd K₀ l Z R y bytes ml ret n0 kc ks Q h' (k + rm.cells) (n + rm.slots) pc' ls (w :: st)) : Go wd K₀ l Z R y bytes ml ret n0 kc ks Q h k n pc ls st₀ := by
  subst hst
  intro p e s0 s m args below meth c T L Bs C X hh N
  obtain ⟨hd, rfl⟩ := D
  have hZ := C.2.2.2.2.1
  obtain ⟨v, vm₁, ⟨B, Lb, kb, nb⟩, -, X', ⟨Lq, ⟨⟨hQ, hsz⟩, Ns⟩, e1, e2, e3⟩, st'⟩ := Jvm.LawKit.callS X C.1 (y := y') C.2.2.2.1 (mvT hZ w1) (mvT hZ w2) (mvT hZ w3) (mvT hZ w4) hy (backOf (W := W) (Q := fun v h' L => ((R1 P) v h' ∧ h.size ≤ h'.size) ∧ Fr n0 L) (hM []) hZ w4 w3 hf hlo) (g := mkF m pc ls.toArray (argsL.reverse ++ st)) rfl
    (by rw [C.2.2.1]; simpa using hls) (argsL := argsL) (rest := st) hlen rfl (by show 2 * 0 + _ ≤ W; rw [← hW]; omega) (hb C.2.1 hd) (fun _ _ => ⟨rfl, hh, hk, hn⟩)
  dsimp only [Pt.U, Pt.locs, Pt.cells, Pt.slots] at X' hQ hsz e1 e2 e3 st'
  subst e1 e2 e3
  obtain ⟨w, rfl, hP⟩ := hQ
  exact (G w B.heap hP p e s0 s m args below meth c B _ (Bs.mono hsz) C X' rfl (N.app Ns)).pre st'
theorem go_callV1 {y' : MethodName} {b' : ByteArray} {m' : Nat} {r' : Option FieldType} {rm : Room} {idx W : Nat} {argsL : List Value} {P : Value → Heap → Prop} {x' : MethodName} {K : String} {a : Addr} (D : Dc bytes pc (.invokevirtual idx) 3 pc') (hM : Con false l Z y' b' m' r' rm (.ref a :: argsL).toArray h n0 (R1 P)) (E : Exa Z h a K)
    (w1 : (Cond.methodLink y.cls idx x').before a0 Z = true) (w5 : (Cond.declares x').before a0 Z = true) (nf : ∀ s : State, Z.Warmed39 s.vm → NotFace s x') (w6 : (Cond.selects K x' y').before a0 Z = true) (w2 : (Cond.instanceMethod y').before a0 Z = true) (w3 : (Cond.initialized y'.cls).before a0 Z = true) (w4 : (Cond.code y' b' m' r').before a0 Z = true)
    (hy : x'.cls ≠ "java/lang/invoke/MethodHandle" ∧ x'.cls ≠ "java/lang/invoke/VarHandle") (hlen : ∀ sig, parseMethodDescriptor x'.desc = some sig → argsL.length = sig.parameters.length) {st₀ : List Value} (hst : st₀ = argsL.reverse ++ .ref a :: st) (hW : (st.map fun v => v.category).sum = W) (hf : rm.frames + 1 ≤ R.frames) (hlo : W + (m' + 11) + rm.locals ≤ R.locals) (hk : k + rm.cells ≤ R.cells) (hn : n + rm.slots ≤ R.slots) (hls : ls.length = ml)
    (G : ∀ w h', P w h' → Go wd K₀ l Z R y bytes ml ret n0 kc ks Q h' (k + rm.cells) (n + rm.slots) pc' ls (w :: st)) : Go wd K₀ l Z R y bytes ml ret n0 kc ks Q h k n pc ls st₀ := by
  subst hst
  intro p e s0 s m args below meth c T L Bs C X hh N
  obtain ⟨hd, rfl⟩ := D
  have hZ := C.2.2.2.2.1
  obtain ⟨cq, kq, qa, qb, qc⟩ := isOf (T := T) hZ hh E
  obtain ⟨v, vm₁, ⟨B, Lb, kb, nb⟩, -, X', ⟨Lq, ⟨⟨hQ, hsz⟩, Ns⟩, e1, e2, e3⟩, st'⟩ := X.virtualBack C.1 (y := x') (z := y') C.2.2.2.1 (mvT hZ w1) (mvT hZ w5) (nf s hZ) (mvT hZ w6) (mvT hZ w2) hy (backOf (W := W) (Q := fun v h' L => ((R1 P) v h' ∧ h.size ≤ h'.size) ∧ Fr n0 L) (hM []) hZ w4 w3 hf hlo) qa qc (g := mkF m pc ls.toArray (argsL.reverse ++ .ref a :: st)) rfl
    (by rw [C.2.2.1]; simpa using hls) (Steps.refl _) (argsL := argsL) (rest := st) hlen rfl (by show 2 * 0 + _ ≤ W; rw [← hW]; omega) (hb C.2.1 hd) (fun _ _ => ⟨rfl, hh, hk, hn⟩)
  dsimp only [Pt.U, Pt.locs, Pt.cells, Pt.slots] at X' hQ hsz e1 e2 e3 st'
  subst e1 e2 e3
  obtain ⟨w, rfl, hP⟩ := hQ
  exact (G w B.heap hP p e s0 s m args below meth c B _ (Bs.mono hsz) C X' rfl (N.app Ns)).pre (fun t q => st'.trans q)
theorem go_callP1 {y' : MethodName} {b' : ByteArray} {m' : Nat} {r' : Option FieldType} {rm : Room} {idx W : Nat} {argsL : List Value} {P : Value → Heap → Prop} {K : String} {a : Addr} (D : Dc bytes pc (.invokevirtual idx) 3 pc') (hM : Con false l Z y' b' m' r' rm (.ref a :: argsL).toArray h n0 (R1 P)) (E : Exa Z h a K)
    (w1 : (Cond.methodLink y.cls idx y').before a0 Z = true) (w2 : (Cond.instanceMethod y').before a0 Z = true) {kk : Nat} (wi : (Cond.instantiable y'.cls kk).before a0 Z = true) (w5 : (Cond.privateMethod y').before a0 Z = true) (w3 : (Cond.initialized y'.cls).before a0 Z = true) (w4 : (Cond.code y' b' m' r').before a0 Z = true) (hy : y'.cls ≠ "java/lang/invoke/MethodHandle" ∧ y'.cls ≠ "java/lang/invoke/VarHandle")
    (hlen : ∀ sig, parseMethodDescriptor y'.desc = some sig → argsL.length = sig.parameters.length) {st₀ : List Value} (hst : st₀ = argsL.reverse ++ .ref a :: st) (hW : (st.map fun v => v.category).sum = W) (hf : rm.frames + 1 ≤ R.frames) (hlo : W + (m' + 11) + rm.locals ≤ R.locals) (hk : k + rm.cells ≤ R.cells) (hn : n + rm.slots ≤ R.slots) (hls : ls.length = ml)
    (G : ∀ w h', P w h' → Go wd K₀ l Z R y bytes ml ret n0 kc ks Q h' (k + rm.cells) (n + rm.slots) pc' ls (w :: st)) : Go wd K₀ l Z R y bytes ml ret n0 kc ks Q h k n pc ls st₀ := by
  subst hst
  intro p e s0 s m args below meth c T L Bs C X hh N
  obtain ⟨hd, rfl⟩ := D
  have hZ := C.2.2.2.2.1
  obtain ⟨cq, q1, q2⟩ := E.cell
  have wi' : (Cond.instantiable y'.cls kk).before args s = true := mvT hZ wi
  obtain ⟨c2, k2, i1, i2, -, i4, -⟩ := Cond.instantiable_spec wi'
  have hpa : s.PrivateAt y' := Cond.privateMethod_at (mvP hZ w5 (args := #[]))
  have w6 : (Cond.selects y'.cls y' y').before args s = true := selects_self_of_private i1 i2 (Bool.or_eq_false_iff.mp i4).1 hpa (mvT hZ w2) hy
  obtain ⟨v, vm₁, ⟨B, Lb, kb, nb⟩, -, X', ⟨Lq, ⟨⟨hQ, hsz⟩, Ns⟩, e1, e2, e3⟩, st'⟩ := X.privateBack C.1 (y := y') C.2.2.2.1 (mvT hZ w1) (mvT hZ w2) w6 hpa (mvT hZ w4) hy (backOf (W := W) (Q := fun v h' L => ((R1 P) v h' ∧ h.size ≤ h'.size) ∧ Fr n0 L) (hM []) hZ w4 w3 hf hlo) (g := mkF m pc ls.toArray (argsL.reverse ++ .ref a :: st)) rfl
    (by rw [C.2.2.1]; simpa using hls) (Steps.refl _) (a := a) (by rw [hh]; exact q1) q2 (argsL := argsL) (rest := st) hlen rfl (by show 2 * 0 + _ ≤ W; rw [← hW]; omega) (hb C.2.1 hd) (fun _ _ => ⟨rfl, hh, hk, hn⟩)
  dsimp only [Pt.U, Pt.locs, Pt.cells, Pt.slots] at X' hQ hsz e1 e2 e3 st'
  subst e1 e2 e3
  obtain ⟨w, rfl, hP⟩ := hQ
  exact (G w B.heap hP p e s0 s m args below meth c B _ (Bs.mono hsz) C X' rfl (N.app Ns)).pre (fun t q => st'.trans q)
theorem go_callS0 {y' : MethodName} {b' : ByteArray} {m' : Nat} {r' : Option FieldType} {rm : Room} {idx W : Nat} {argsL : List Value} {P : Heap → Prop} (D : Dc bytes pc (.invokestatic idx) 3 pc') (hM : Con false l Z y' b' m' r' rm argsL.toArray h n0 (R0 P))
    (w1 : (Cond.methodLink y.cls idx y').before a0 Z = true) (w2 : (Cond.static y').before a0 Z = true) (w3 : (Cond.initialized y'.cls).before a0 Z = true) (w4 : (Cond.code y' b' m' r').before a0 Z = true) (hy : y'.cls ≠ "java/lang/invoke/MethodHandle" ∧ y'.cls ≠ "java/lang/invoke/VarHandle")
    (hlen : ∀ sig, parseMethodDescriptor y'.desc = some sig → argsL.length = sig.parameters.length) {st₀ : List Value} (hst : st₀ = argsL.reverse ++ st) (hW : (st.map fun v => v.category).sum = W) (hf : rm.frames + 1 ≤ R.frames) (hlo : W + (m' + 11) + rm.locals ≤ R.locals) (hk : k + rm.cells ≤ R.cells) (hn : n + rm.slots ≤ R.slots) (hls : ls.length = ml)
    (G : ∀ h', P h' → Go wd K₀ l Z R y bytes ml ret n0 kc ks Q h' (k + rm.cells) (n + rm.slots) pc' ls st) : Go wd K₀ l Z R y bytes ml ret n0 kc ks Q h k n pc ls st₀ := by
  subst hst
  intro p e s0 s m args below meth c T L Bs C X hh N
  obtain ⟨hd, rfl⟩ := D
  have hZ := C.2.2.2.2.1
  obtain ⟨v, vm₁, ⟨B, Lb, kb, nb⟩, -, X', ⟨Lq, ⟨⟨hQ, hsz⟩, Ns⟩, e1, e2, e3⟩, st'⟩ := Jvm.LawKit.callS X C.1 (y := y') C.2.2.2.1 (mvT hZ w1) (mvT hZ w2) (mvT hZ w3) (mvT hZ w4) hy (backOf (W := W) (Q := fun v h' L => ((R0 P) v h' ∧ h.size ≤ h'.size) ∧ Fr n0 L) (hM []) hZ w4 w3 hf hlo) (g := mkF m pc ls.toArray (argsL.reverse ++ st)) rfl
    (by rw [C.2.2.1]; simpa using hls) (argsL := argsL) (rest := st) hlen rfl (by show 2 * 0 + _ ≤ W; rw [← hW]; omega) (hb C.2.1 hd) (fun _ _ => ⟨rfl, hh, hk, hn⟩)
  dsimp only [Pt.U, Pt.locs, Pt.cells, Pt.slots] at X' hQ hsz e1 e2 e3 st'
  subst e1 e2 e3
  obtain ⟨rfl, hP⟩ := hQ
  exact (G B.heap hP p e s0 s m args below meth c B _ (Bs.mono hsz) C X' rfl (N.app Ns)).pre st'
theorem go_callN0 {y' : MethodName} {b' : ByteArray} {m' : Nat} {r' : Option FieldType} {rm : Room} {idx W : Nat} {argsL : List Value} {P : Heap → Prop} {a : Addr} (D : Dc bytes pc (.invokespecial idx) 3 pc') (hi : y'.name = "<init>") (hr' : r' = none) (hM : Con false l Z y' b' m' r' rm (.ref a :: argsL).toArray h n0 (R0 P))
    (w1 : (Cond.methodLink y.cls idx y').before a0 Z = true) (w2 : (Cond.instanceMethod y').before a0 Z = true) (w3 : (Cond.initialized y'.cls).before a0 Z = true) (w4 : (Cond.code y' b' m' r').before a0 Z = true) (hy : y'.cls ≠ "java/lang/invoke/MethodHandle" ∧ y'.cls ≠ "java/lang/invoke/VarHandle")
    (hlen : ∀ sig, parseMethodDescriptor y'.desc = some sig → argsL.length = sig.parameters.length) {st₀ : List Value} (hst : st₀ = argsL.reverse ++ .ref a :: st) (hW : (st.map fun v => v.category).sum = W) (hf : rm.frames + 1 ≤ R.frames) (hlo : W + (m' + 11) + rm.locals ≤ R.locals) (hk : k + rm.cells ≤ R.cells) (hn : n + rm.slots ≤ R.slots) (hls : ls.length = ml)
    (G : ∀ h', P h' → Go wd K₀ l Z R y bytes ml ret n0 kc ks Q h' (k + rm.cells) (n + rm.slots) pc' ls st) : Go wd K₀ l Z R y bytes ml ret n0 kc ks Q h k n pc ls st₀ := by
  subst hst hr'
  intro p e s0 s m args below meth c T L Bs C X hh N
  obtain ⟨hd, rfl⟩ := D
  have hZ := C.2.2.2.2.1
  obtain ⟨v, vm₁, ⟨B, Lb, kb, nb⟩, -, X', ⟨Lq, ⟨⟨hQ, hsz⟩, Ns⟩, e1, e2, e3⟩, st'⟩ := X.specialBack C.1 (y := y') hi C.2.2.2.1 (mvT hZ w1) (mvT hZ w2) (mvT hZ w4) hy (backOf (W := W) (Q := fun v h' L => ((R0 P) v h' ∧ h.size ≤ h'.size) ∧ Fr n0 L) (hM []) hZ w4 w3 hf hlo) (g := mkF m pc ls.toArray (argsL.reverse ++ .ref a :: st)) rfl
    (by rw [C.2.2.1]; simpa using hls) (Steps.refl _) (a := a) (argsL := argsL) (rest := st) hlen rfl (by show 2 * 0 + _ ≤ W; rw [← hW]; omega) (hb C.2.1 hd) (fun _ _ => ⟨rfl, hh, hk, hn⟩)
  dsimp only [Pt.U, Pt.locs, Pt.cells, Pt.slots] at X' hQ hsz e1 e2 e3 st'
  subst e1 e2 e3
  obtain ⟨rfl, hP⟩ := hQ
  exact (G B.heap hP p e s0 s m args below meth c B _ (Bs.mono hsz) C X' rfl (N.app Ns)).pre (fun t q => st'.trans q)
theorem go_callV0 {y' : MethodName} {b' : ByteArray} {m' : Nat} {r' : Option FieldType} {rm : Room} {idx W : Nat} {argsL : List Value} {P : Heap → Prop} {x' : MethodName} {K : String} {a : Addr} (D : Dc bytes pc (.invokevirtual idx) 3 pc') (hM : Con false l Z y' b' m' r' rm (.ref a :: argsL).toArray h n0 (R0 P)) (E : Exa Z h a K)
    (w1 : (Cond.methodLink y.cls idx x').before a0 Z = true) (w5 : (Cond.declares x').before a0 Z = true) (nf : ∀ s : State, Z.Warmed39 s.vm → NotFace s x') (w6 : (Cond.selects K x' y').before a0 Z = true) (w2 : (Cond.instanceMethod y').before a0 Z = true) (w3 : (Cond.initialized y'.cls).before a0 Z = true) (w4 : (Cond.code y' b' m' r').before a0 Z = true)
    (hy : x'.cls ≠ "java/lang/invoke/MethodHandle" ∧ x'.cls ≠ "java/lang/invoke/VarHandle") (hlen : ∀ sig, parseMethodDescriptor x'.desc = some sig → argsL.length = sig.parameters.length) {st₀ : List Value} (hst : st₀ = argsL.reverse ++ .ref a :: st) (hW : (st.map fun v => v.category).sum = W) (hf : rm.frames + 1 ≤ R.frames) (hlo : W + (m' + 11) + rm.locals ≤ R.locals) (hk : k + rm.cells ≤ R.cells) (hn : n + rm.slots ≤ R.slots) (hls : ls.length = ml)
    (G : ∀ h', P h' → Go wd K₀ l Z R y bytes ml ret n0 kc ks Q h' (k + rm.cells) (n + rm.slots) pc' ls st) : Go wd K₀ l Z R y bytes ml ret n0 kc ks Q h k n pc ls st₀ := by
  subst hst
  intro p e s0 s m args below meth c T L Bs C X hh N
  obtain ⟨hd, rfl⟩ := D
  have hZ := C.2.2.2.2.1
  obtain ⟨cq, kq, qa, qb, qc⟩ := isOf (T := T) hZ hh E
  obtain ⟨v, vm₁, ⟨B, Lb, kb, nb⟩, -, X', ⟨Lq, ⟨⟨hQ, hsz⟩, Ns⟩, e1, e2, e3⟩, st'⟩ := X.virtualBack C.1 (y := x') (z := y') C.2.2.2.1 (mvT hZ w1) (mvT hZ w5) (nf s hZ) (mvT hZ w6) (mvT hZ w2) hy (backOf (W := W) (Q := fun v h' L => ((R0 P) v h' ∧ h.size ≤ h'.size) ∧ Fr n0 L) (hM []) hZ w4 w3 hf hlo) qa qc (g := mkF m pc ls.toArray (argsL.reverse ++ .ref a :: st)) rfl
    (by rw [C.2.2.1]; simpa using hls) (Steps.refl _) (argsL := argsL) (rest := st) hlen rfl (by show 2 * 0 + _ ≤ W; rw [← hW]; omega) (hb C.2.1 hd) (fun _ _ => ⟨rfl, hh, hk, hn⟩)
  dsimp only [Pt.U, Pt.locs, Pt.cells, Pt.slots] at X' hQ hsz e1 e2 e3 st'
  subst e1 e2 e3
  obtain ⟨rfl, hP⟩ := hQ
  exact (G B.heap hP p e s0 s m args below meth c B _ (Bs.mono hsz) C X' rfl (N.app Ns)).pre (fun t q => st'.trans q)
theorem go_callP0 {y' : MethodName} {b' : ByteArray} {m' : Nat} {r' : Option FieldType} {rm : Room} {idx W : Nat} {argsL : List Value} {P : Heap → Prop} {K : String} {a : Addr} (D : Dc bytes pc (.invokevirtual idx) 3 pc') (hM : Con false l Z y' b' m' r' rm (.ref a :: argsL).toArray h n0 (R0 P)) (E : Exa Z h a K)
    (w1 : (Cond.methodLink y.cls idx y').before a0 Z = true) (w2 : (Cond.instanceMethod y').before a0 Z = true) {kk : Nat} (wi : (Cond.instantiable y'.cls kk).before a0 Z = true) (w5 : (Cond.privateMethod y').before a0 Z = true) (w3 : (Cond.initialized y'.cls).before a0 Z = true) (w4 : (Cond.code y' b' m' r').before a0 Z = true) (hy : y'.cls ≠ "java/lang/invoke/MethodHandle" ∧ y'.cls ≠ "java/lang/invoke/VarHandle")
    (hlen : ∀ sig, parseMethodDescriptor y'.desc = some sig → argsL.length = sig.parameters.length) {st₀ : List Value} (hst : st₀ = argsL.reverse ++ .ref a :: st) (hW : (st.map fun v => v.category).sum = W) (hf : rm.frames + 1 ≤ R.frames) (hlo : W + (m' + 11) + rm.locals ≤ R.locals) (hk : k + rm.cells ≤ R.cells) (hn : n + rm.slots ≤ R.slots) (hls : ls.length = ml)
    (G : ∀ h', P h' → Go wd K₀ l Z R y bytes ml ret n0 kc ks Q h' (k + rm.cells) (n + rm.slots) pc' ls st) : Go wd K₀ l Z R y bytes ml ret n0 kc ks Q h k n pc ls st₀ := by
  subst hst
  intro p e s0 s m args below meth c T L Bs C X hh N
  obtain ⟨hd, rfl⟩ := D
  have hZ := C.2.2.2.2.1
  obtain ⟨cq, q1, q2⟩ := E.cell
  have wi' : (Cond.instantiable y'.cls kk).before args s = true := mvT hZ wi
  obtain ⟨c2, k2, i1, i2, -, i4, -⟩ := Cond.instantiable_spec wi'
  have hpa : s.PrivateAt y' := Cond.privateMethod_at (mvP hZ w5 (args := #[]))
  have w6 : (Cond.selects y'.cls y' y').before args s = true := selects_self_of_private i1 i2 (Bool.or_eq_false_iff.mp i4).1 hpa (mvT hZ w2) hy
  obtain ⟨v, vm₁, ⟨B, Lb, kb, nb⟩, -, X', ⟨Lq, ⟨⟨hQ, hsz⟩, Ns⟩, e1, e2, e3⟩, st'⟩ := X.privateBack C.1 (y := y') C.2.2.2.1 (mvT hZ w1) (mvT hZ w2) w6 hpa (mvT hZ w4) hy (backOf (W := W) (Q := fun v h' L => ((R0 P) v h' ∧ h.size ≤ h'.size) ∧ Fr n0 L) (hM []) hZ w4 w3 hf hlo) (g := mkF m pc ls.toArray (argsL.reverse ++ .ref a :: st)) rfl
    (by rw [C.2.2.1]; simpa using hls) (Steps.refl _) (a := a) (by rw [hh]; exact q1) q2 (argsL := argsL) (rest := st) hlen rfl (by show 2 * 0 + _ ≤ W; rw [← hW]; omega) (hb C.2.1 hd) (fun _ _ => ⟨rfl, hh, hk, hn⟩)
  dsimp only [Pt.U, Pt.locs, Pt.cells, Pt.slots] at X' hQ hsz e1 e2 e3 st'
  subst e1 e2 e3
  obtain ⟨rfl, hP⟩ := hQ
  exact (G B.heap hP p e s0 s m args below meth c B _ (Bs.mono hsz) C X' rfl (N.app Ns)).pre (fun t q => st'.trans q)
theorem Base.since {s0 s : State} {vm' : Vm} {h' : Heap} (B : Base true s0 s h) (q : s.Since vm' h'.size) (g : h.size ≤ h'.size) : Base true s0 (s.setVm vm') h' := by
  obtain ⟨vm0, k0, rfl, hS, hk⟩ := B
  exact ⟨vm', h'.size, rfl, hS.trans q (Nat.le_trans hk g), Nat.le_refl _⟩
theorem Ctx.since {p : Program} {s : State} {m : MethodId} {meth : Method} {c : Code} {vm' : Vm} {k' : Nat} (C : Ctx K₀ Z y bytes ml ret p s m meth c) (q : s.Since vm' k') : Ctx KT Z y bytes ml ret p (s.setVm vm') m meth c :=
  ⟨C.1, C.2.1, C.2.2.1, by rw [show (s.setVm vm').vm = vm' from rfl, q.1.alike.findClass]; exact C.2.2.2.1, State.Warmed39.trans C.2.2.2.2.1 q.1, C.2.2.2.2.2.1, C.2.2.2.2.2.2.1, C.2.2.2.2.2.2.2.1, trivial⟩
theorem go_ldcS {idx nn : Nat} {text : String} (D : Dc bytes pc (.ldc idx) 2 pc') (w : (Cond.stringLink y.cls idx text).before a0 Z = true) (wS : ∀ a ∈ Bundle.stringAtoms, a.before a0 Z = true) (hn : 4 * text.toList.length ≤ nn) (hbig : nn ≤ 536870912) (hc : k + 2 ≤ R.cells) (hl : n + (nn + 4) ≤ R.slots)
    (G : ∀ (a : Addr) h', Ext h h' → Go true KT l Z R y bytes ml ret n0 kc ks Q h' (k + 2) (n + (nn + 4)) pc' ls (.ref a :: st)) : Go true K₀ l Z R y bytes ml ret n0 kc ks Q h k n pc ls st := by
  intro p e s0 s m args below meth c T L Bs C X hh N
  obtain ⟨hd, rfl⟩ := D
  obtain ⟨vm0, k0, rfl, hS, hk⟩ := Bs
  obtain ⟨a, T', h', k1, X', e', E, hS', hk', hZ', hf', st'⟩ := ldcS X C.1 C.2.2.2.2.1 C.2.2.2.1 w wS hh hS hk (g := mkF m pc ls.toArray st) rfl (hb C.2.1 hd) hn hbig hc hl
  exact (G a h' E p e s0 _ m args below meth c T' L ⟨_, k1, rfl, hS', hk'⟩ ⟨C.1, C.2.1, C.2.2.1, hf', hZ', C.2.2.2.2.2.1, C.2.2.2.2.2.2.1, C.2.2.2.2.2.2.2.1, trivial⟩ X' e' N).pre st'
theorem go_K (G : Go true KT l Z R y bytes ml ret n0 kc ks Q h k n pc ls st) : Go true K₀ l Z R y bytes ml ret n0 kc ks Q h k n pc ls st := fun p e s0 s m args below meth c T L B C X hh N => G p e s0 s m args below meth c T L B ⟨C.1, C.2.1, C.2.2.1, C.2.2.2.1, C.2.2.2.2.1, C.2.2.2.2.2.1, C.2.2.2.2.2.2.1, C.2.2.2.2.2.2.2.1, trivial⟩ X hh N
theorem go_ldcV {idx nn : Nat} {text : String} {vs : List Value} {z : Int32} (D : Dc bytes pc (.ldc idx) 2 pc') (w : (Cond.stringLink y.cls idx text).before a0 Z = true) (wS : ∀ a ∈ Bundle.stringAtoms, a.before a0 Z = true) (hld : Jvm.Lit.constHeld Z y.cls idx) (hcw : Jvm.Lit.compactW.before a0 Z = true)
    (ht : (∀ c ∈ text.toList, c.toNat < 256) ∧ text.toList.map (fun c => Value.int (Jvm.Lit.byteI c.toNat.toUInt16)) = vs) (hz : ¬ z < 0) (hlv : z.toNatClampNeg = vs.length) (hn : 4 * text.toList.length ≤ nn) (hbig : nn ≤ 536870912) (hc : k + 2 ≤ R.cells) (hl : n + (nn + 4) ≤ R.slots) (hn0 : Z.heap.size = n0)
    (G : ∀ (a b : Addr) (kb : ClassId) h', Ext h h' → Exa Z h' a "java/lang/String" → Fld Z h' a "java/lang/String" "coder" "B" (.int 0) → Fld Z h' a "java/lang/String" "value" "[B" (.ref b) → Arv Z h' b kb .byte z vs (.int 0) → Go true KT l Z R y bytes ml ret n0 kc ks Q h' (k + 2) (n + (nn + 4)) pc' ls (.ref a :: st)) : Go true (fun s => s = Z) l Z R y bytes ml ret n0 kc ks Q h k n pc ls st := by
  intro p e s0 s m args below meth c T L Bs C X hh N
  obtain ⟨hd, rfl⟩ := D
  obtain ⟨vm0, k0, rfl, hS, hk⟩ := Bs
  have hZs : s0.setVm vm0 = Z := C.2.2.2.2.2.2.2.2
  subst hZs
  obtain ⟨a, T', h', k1, b, kb, X', e', E, hS', hk', hZ', hf', F1, F2, F3, F4, -, -, -, -, st'⟩ := ldcSVL (Z := s0.setVm vm0) (s := s0) (vm0 := vm0) (Ts := []) X C.1 C.2.2.2.2.1 C.2.2.2.1 w wS hh hS hk (hn0 ▸ N) (fun _ _ q => q) IB.start (by simp) hld hcw ht hz hlv (g := mkF m pc ls.toArray st) rfl (hb C.2.1 hd) hn hbig hc hl
  exact (G a b kb h' E F1 F2 F3 F4 p e s0 _ m args below meth c T' L ⟨_, k1, rfl, hS', hk'⟩ ⟨C.1, C.2.1, C.2.2.1, hf', hZ', C.2.2.2.2.2.1, C.2.2.2.2.2.2.1, C.2.2.2.2.2.2.2.1, trivial⟩ X' e' N).pre st'
theorem con_ofZ {as' : Array Value} (hp : plainFor y = true) (he : Jvm.Sym.laidSlots as'.toList ++ List.replicate (ml - (Jvm.Sym.laidSlots as'.toList).length) .unset = ls) (G : Go wd (fun s => s = Z) l Z R y bytes ml ret n0 R.cells R.slots Q Z.heap 0 0 0 ls []) (ws : List Cond) :
    MetFree l y (head1 (Cond.code y bytes ml ret :: ws) R) (fun a U => a = as' ∧ U = Z) (fun _ _ _ _ _ => True) (fun _ U o U' => ∃ v L, o = .returned v ∧ ((Q v U'.heap ∧ Z.heap.size ≤ U'.heap.size) ∧ Fr n0 L) ∧ EndK wd U o U' L R.cells R.slots) := by
  refine MetFree.of_bodySF hp hisR ?_
  intro p e s m args below meth c s₁ Bd hml hP hK
  obtain ⟨rfl, hZ⟩ := hP
  subst hZ
  have X0 : Stand p l e R s m args below meth c s₁ [] 0 0 := Stand.of_body Bd
  have e0 : s₁.heap = s.heap := by rw [Bd.state]; rfl
  obtain ⟨s₂, o, h1, h2, h3, v, L, e1, ⟨q1, q2⟩, q3⟩ := G p e s s m args below meth c s₁ [] (Base.start s rfl) ⟨Bd.exec, Bd.bytes, hml, findClass_of_methodNamed Bd.named, State.Warmed39.refl s, Bd.returns, Bd.notSynchronized, (name_of_methodNamed Bd.named Bd.method).1, rfl⟩ X0 e0 (Fr.nil n0)
  exact ⟨s₂, o, (XT.entry (Ls := ls.toArray) (by simpa using he)).trans h1, h2, h3, v, L, e1, ⟨⟨q1, q3.size⟩, q2⟩, q3⟩
theorem go_cast {idx : Nat} {C0 : String} {a : Addr} (D : Dc bytes pc (.checkcast idx) 3 pc') (w : (Cond.classLink y.cls idx C0).before a0 Z = true) (F : Ins Z h a C0 true) (G : Go wd K₀ l Z R y bytes ml ret n0 kc ks Q h k n pc' ls (.ref a :: st)) : Go wd K₀ l Z R y bytes ml ret n0 kc ks Q h k n pc ls (.ref a :: st) := by
  intro p e s0 s m args below meth c T L Bs C X hh N
  obtain ⟨hd, rfl⟩ := D
  obtain ⟨T', X', e', st'⟩ := castY X C.1 C.2.2.2.2.1 C.2.2.2.1 w hh F (g := mkF m pc ls.toArray (.ref a :: st)) rfl rfl (hb C.2.1 hd)
  exact (G p e s0 s m args below meth c T' L Bs C X' e' N).pre st'
theorem go_inst {idx : Nat} {C0 : String} {a : Addr} (D : Dc bytes pc (.instanceof idx) 3 pc') (w : (Cond.classLink y.cls idx C0).before a0 Z = true) (F : Ins Z h a C0 true) (G : Go wd K₀ l Z R y bytes ml ret n0 kc ks Q h k n pc' ls (.int 1 :: st)) : Go wd K₀ l Z R y bytes ml ret n0 kc ks Q h k n pc ls (.ref a :: st) := by
  intro p e s0 s m args below meth c T L Bs C X hh N
  obtain ⟨hd, rfl⟩ := D
  obtain ⟨T', X', e', st'⟩ := instY X C.1 C.2.2.2.2.1 C.2.2.2.1 w hh F (g := mkF m pc ls.toArray (.ref a :: st)) rfl rfl (hb C.2.1 hd)
  exact (G p e s0 s m args below meth c T' L Bs C X' e' N).pre st'
theorem go_wcallS1 {y' : MethodName} {b' : ByteArray} {m' : Nat} {r' : Option FieldType} {rm : Room} {idx W : Nat} {argsL : List Value} {P : Value → Heap → Prop} (D : Dc bytes pc (.invokestatic idx) 3 pc') (hM : Con true l Z y' b' m' r' rm argsL.toArray h n0 (R1 P))
    (w1 : (Cond.methodLink y.cls idx y').before a0 Z = true) (w2 : (Cond.static y').before a0 Z = true) (w3 : (Cond.initialized y'.cls).before a0 Z = true) (w4 : (Cond.code y' b' m' r').before a0 Z = true) (hy : y'.cls ≠ "java/lang/invoke/MethodHandle" ∧ y'.cls ≠ "java/lang/invoke/VarHandle")
    (hlen : ∀ sig, parseMethodDescriptor y'.desc = some sig → argsL.length = sig.parameters.length) {st₀ : List Value} (hst : st₀ = argsL.reverse ++ st) (hW : (st.map fun v => v.category).sum = W) (hf : rm.frames + 1 ≤ R.frames) (hlo : W + (m' + 11) + rm.locals ≤ R.locals) (hk : k + rm.cells ≤ R.cells) (hn : n + rm.slots ≤ R.slots) (hls : ls.length = ml)
    (G : ∀ w h', P w h' → Go true KT l Z R y bytes ml ret n0 kc ks Q h' (k + rm.cells) (n + rm.slots) pc' ls (w :: st)) : Go true K₀ l Z R y bytes ml ret n0 kc ks Q h k n pc ls st₀ := by
  subst hst
  intro p e s0 s m args below meth c T L Bs C X hh N
  obtain ⟨hd, rfl⟩ := D
  have hZ := C.2.2.2.2.1
  obtain ⟨v, vm₁, ⟨B, Lb, kb, nb⟩, -, X', hSi, -, ⟨Lq, ⟨⟨hQ, hsz⟩, Ns⟩, e1, e2, e3⟩, st'⟩ := callSS X C.1 (y := y') C.2.2.2.1 (mvT hZ w1) (mvT hZ w2) (mvT hZ w3) (mvT hZ w4) hy (backOfS (W := W) (Q := fun v h' L => ((R1 P) v h' ∧ h.size ≤ h'.size) ∧ Fr n0 L) (hM []) hZ w4 w3 hf hlo) (g := mkF m pc ls.toArray (argsL.reverse ++ st)) rfl
    (by rw [C.2.2.1]; simpa using hls) (argsL := argsL) (rest := st) hlen rfl (by show 2 * 0 + _ ≤ W; rw [← hW]; omega) (hb C.2.1 hd) (fun _ _ => ⟨rfl, hh, hk, hn⟩)
  dsimp only [Pt.U, Pt.locs, Pt.cells, Pt.slots] at X' hSi hQ hsz e1 e2 e3 st'
  subst e1 e2 e3
  obtain ⟨w, rfl, hP⟩ := hQ
  exact (G w B.heap hP p e s0 _ m args below meth c B _ (Bs.since hSi hsz) (C.since hSi) X' rfl (N.app Ns)).pre (fun t q => st'.trans q)
theorem go_wcallV1 {y' : MethodName} {b' : ByteArray} {m' : Nat} {r' : Option FieldType} {rm : Room} {idx W : Nat} {argsL : List Value} {P : Value → Heap → Prop} {x' : MethodName} {K : String} {a : Addr} (D : Dc bytes pc (.invokevirtual idx) 3 pc') (hM : Con true l Z y' b' m' r' rm (.ref a :: argsL).toArray h n0 (R1 P)) (E : Exa Z h a K)
    (w1 : (Cond.methodLink y.cls idx x').before a0 Z = true) (w5 : (Cond.declares x').before a0 Z = true) (nf : ∀ s : State, Z.Warmed39 s.vm → NotFace s x') (w6 : (Cond.selects K x' y').before a0 Z = true) (w2 : (Cond.instanceMethod y').before a0 Z = true) (w3 : (Cond.initialized y'.cls).before a0 Z = true) (w4 : (Cond.code y' b' m' r').before a0 Z = true)
    (hy : x'.cls ≠ "java/lang/invoke/MethodHandle" ∧ x'.cls ≠ "java/lang/invoke/VarHandle") (hlen : ∀ sig, parseMethodDescriptor x'.desc = some sig → argsL.length = sig.parameters.length) {st₀ : List Value} (hst : st₀ = argsL.reverse ++ .ref a :: st) (hW : (st.map fun v => v.category).sum = W) (hf : rm.frames + 1 ≤ R.frames) (hlo : W + (m' + 11) + rm.locals ≤ R.locals) (hk : k + rm.cells ≤ R.cells) (hn : n + rm.slots ≤ R.slots) (hls : ls.length = ml)
    (G : ∀ w h', P w h' → Go true KT l Z R y bytes ml ret n0 kc ks Q h' (k + rm.cells) (n + rm.slots) pc' ls (w :: st)) : Go true K₀ l Z R y bytes ml ret n0 kc ks Q h k n pc ls st₀ := by
  subst hst
  intro p e s0 s m args below meth c T L Bs C X hh N
  obtain ⟨hd, rfl⟩ := D
  have hZ := C.2.2.2.2.1
  obtain ⟨cq, kq, qa, qb, qc⟩ := isOf (T := T) hZ hh E
  obtain ⟨v, vm₁, ⟨B, Lb, kb, nb⟩, -, X', hSi, -, ⟨Lq, ⟨⟨hQ, hsz⟩, Ns⟩, e1, e2, e3⟩, st'⟩ := X.virtualBackS C.1 (y := x') (z := y') C.2.2.2.1 (mvT hZ w1) (mvT hZ w5) (nf s hZ) (mvT hZ w6) (mvT hZ w2) hy (backOfS (W := W) (Q := fun v h' L => ((R1 P) v h' ∧ h.size ≤ h'.size) ∧ Fr n0 L) (hM []) hZ w4 w3 hf hlo) qa qc (g := mkF m pc ls.toArray (argsL.reverse ++ .ref a :: st)) rfl
    (by rw [C.2.2.1]; simpa using hls) (Steps.refl _) (argsL := argsL) (rest := st) hlen rfl (by show 2 * 0 + _ ≤ W; rw [← hW]; omega) (hb C.2.1 hd) (fun _ _ => ⟨rfl, hh, hk, hn⟩)
  dsimp only [Pt.U, Pt.locs, Pt.cells, Pt.slots] at X' hSi hQ hsz e1 e2 e3 st'
  subst e1 e2 e3
  obtain ⟨w, rfl, hP⟩ := hQ
  exact (G w B.heap hP p e s0 _ m args below meth c B _ (Bs.since hSi hsz) (C.since hSi) X' rfl (N.app Ns)).pre (fun t q => st'.trans q)
theorem go_wcallP1 {y' : MethodName} {b' : ByteArray} {m' : Nat} {r' : Option FieldType} {rm : Room} {idx W : Nat} {argsL : List Value} {P : Value → Heap → Prop} {K : String} {a : Addr} (D : Dc bytes pc (.invokevirtual idx) 3 pc') (hM : Con true l Z y' b' m' r' rm (.ref a :: argsL).toArray h n0 (R1 P)) (E : Exa Z h a K)
    (w1 : (Cond.methodLink y.cls idx y').before a0 Z = true) (w2 : (Cond.instanceMethod y').before a0 Z = true) {kk : Nat} (wi : (Cond.instantiable y'.cls kk).before a0 Z = true) (w5 : (Cond.privateMethod y').before a0 Z = true) (w3 : (Cond.initialized y'.cls).before a0 Z = true) (w4 : (Cond.code y' b' m' r').before a0 Z = true) (hy : y'.cls ≠ "java/lang/invoke/MethodHandle" ∧ y'.cls ≠ "java/lang/invoke/VarHandle")
    (hlen : ∀ sig, parseMethodDescriptor y'.desc = some sig → argsL.length = sig.parameters.length) {st₀ : List Value} (hst : st₀ = argsL.reverse ++ .ref a :: st) (hW : (st.map fun v => v.category).sum = W) (hf : rm.frames + 1 ≤ R.frames) (hlo : W + (m' + 11) + rm.locals ≤ R.locals) (hk : k + rm.cells ≤ R.cells) (hn : n + rm.slots ≤ R.slots) (hls : ls.length = ml)
    (G : ∀ w h', P w h' → Go true KT l Z R y bytes ml ret n0 kc ks Q h' (k + rm.cells) (n + rm.slots) pc' ls (w :: st)) : Go true K₀ l Z R y bytes ml ret n0 kc ks Q h k n pc ls st₀ := by
  subst hst
  intro p e s0 s m args below meth c T L Bs C X hh N
  obtain ⟨hd, rfl⟩ := D
  have hZ := C.2.2.2.2.1
  obtain ⟨cq, q1, q2⟩ := E.cell
  have wi' : (Cond.instantiable y'.cls kk).before args s = true := mvT hZ wi
  obtain ⟨c2, k2, i1, i2, -, i4, -⟩ := Cond.instantiable_spec wi'
  have hpa : s.PrivateAt y' := Cond.privateMethod_at (mvP hZ w5 (args := #[]))
  have w6 : (Cond.selects y'.cls y' y').before args s = true := selects_self_of_private i1 i2 (Bool.or_eq_false_iff.mp i4).1 hpa (mvT hZ w2) hy
  obtain ⟨v, vm₁, ⟨B, Lb, kb, nb⟩, -, X', hSi, -, ⟨Lq, ⟨⟨hQ, hsz⟩, Ns⟩, e1, e2, e3⟩, st'⟩ := X.privateBackS C.1 (y := y') C.2.2.2.1 (mvT hZ w1) (mvT hZ w2) w6 hpa (mvT hZ w4) hy (backOfS (W := W) (Q := fun v h' L => ((R1 P) v h' ∧ h.size ≤ h'.size) ∧ Fr n0 L) (hM []) hZ w4 w3 hf hlo) (g := mkF m pc ls.toArray (argsL.reverse ++ .ref a :: st)) rfl
    (by rw [C.2.2.1]; simpa using hls) (Steps.refl _) (a := a) (by rw [hh]; exact q1) q2 (argsL := argsL) (rest := st) hlen rfl (by show 2 * 0 + _ ≤ W; rw [← hW]; omega) (hb C.2.1 hd) (fun _ _ => ⟨rfl, hh, hk, hn⟩)
  dsimp only [Pt.U, Pt.locs, Pt.cells, Pt.slots] at X' hSi hQ hsz e1 e2 e3 st'
  subst e1 e2 e3
  obtain ⟨w, rfl, hP⟩ := hQ
  exact (G w B.heap hP p e s0 _ m args below meth c B _ (Bs.since hSi hsz) (C.since hSi) X' rfl (N.app Ns)).pre (fun t q => st'.trans q)
theorem go_wcallS0 {y' : MethodName} {b' : ByteArray} {m' : Nat} {r' : Option FieldType} {rm : Room} {idx W : Nat} {argsL : List Value} {P : Heap → Prop} (D : Dc bytes pc (.invokestatic idx) 3 pc') (hM : Con true l Z y' b' m' r' rm argsL.toArray h n0 (R0 P))
    (w1 : (Cond.methodLink y.cls idx y').before a0 Z = true) (w2 : (Cond.static y').before a0 Z = true) (w3 : (Cond.initialized y'.cls).before a0 Z = true) (w4 : (Cond.code y' b' m' r').before a0 Z = true) (hy : y'.cls ≠ "java/lang/invoke/MethodHandle" ∧ y'.cls ≠ "java/lang/invoke/VarHandle")
    (hlen : ∀ sig, parseMethodDescriptor y'.desc = some sig → argsL.length = sig.parameters.length) {st₀ : List Value} (hst : st₀ = argsL.reverse ++ st) (hW : (st.map fun v => v.category).sum = W) (hf : rm.frames + 1 ≤ R.frames) (hlo : W + (m' + 11) + rm.locals ≤ R.locals) (hk : k + rm.cells ≤ R.cells) (hn : n + rm.slots ≤ R.slots) (hls : ls.length = ml)
    (G : ∀ h', P h' → Go true KT l Z R y bytes ml ret n0 kc ks Q h' (k + rm.cells) (n + rm.slots) pc' ls st) : Go true K₀ l Z R y bytes ml ret n0 kc ks Q h k n pc ls st₀ := by
  subst hst
  intro p e s0 s m args below meth c T L Bs C X hh N
  obtain ⟨hd, rfl⟩ := D
  have hZ := C.2.2.2.2.1
  obtain ⟨v, vm₁, ⟨B, Lb, kb, nb⟩, -, X', hSi, -, ⟨Lq, ⟨⟨hQ, hsz⟩, Ns⟩, e1, e2, e3⟩, st'⟩ := callSS X C.1 (y := y') C.2.2.2.1 (mvT hZ w1) (mvT hZ w2) (mvT hZ w3) (mvT hZ w4) hy (backOfS (W := W) (Q := fun v h' L => ((R0 P) v h' ∧ h.size ≤ h'.size) ∧ Fr n0 L) (hM []) hZ w4 w3 hf hlo) (g := mkF m pc ls.toArray (argsL.reverse ++ st)) rfl
    (by rw [C.2.2.1]; simpa using hls) (argsL := argsL) (rest := st) hlen rfl (by show 2 * 0 + _ ≤ W; rw [← hW]; omega) (hb C.2.1 hd) (fun _ _ => ⟨rfl, hh, hk, hn⟩)
  dsimp only [Pt.U, Pt.locs, Pt.cells, Pt.slots] at X' hSi hQ hsz e1 e2 e3 st'
  subst e1 e2 e3
  obtain ⟨rfl, hP⟩ := hQ
  exact (G B.heap hP p e s0 _ m args below meth c B _ (Bs.since hSi hsz) (C.since hSi) X' rfl (N.app Ns)).pre (fun t q => st'.trans q)
theorem go_wcallN0 {y' : MethodName} {b' : ByteArray} {m' : Nat} {r' : Option FieldType} {rm : Room} {idx W : Nat} {argsL : List Value} {P : Heap → Prop} {a : Addr} (D : Dc bytes pc (.invokespecial idx) 3 pc') (hi : y'.name = "<init>") (hr' : r' = none) (hM : Con true l Z y' b' m' r' rm (.ref a :: argsL).toArray h n0 (R0 P))
    (w1 : (Cond.methodLink y.cls idx y').before a0 Z = true) (w2 : (Cond.instanceMethod y').before a0 Z = true) (w3 : (Cond.initialized y'.cls).before a0 Z = true) (w4 : (Cond.code y' b' m' r').before a0 Z = true) (hy : y'.cls ≠ "java/lang/invoke/MethodHandle" ∧ y'.cls ≠ "java/lang/invoke/VarHandle")
    (hlen : ∀ sig, parseMethodDescriptor y'.desc = some sig → argsL.length = sig.parameters.length) {st₀ : List Value} (hst : st₀ = argsL.reverse ++ .ref a :: st) (hW : (st.map fun v => v.category).sum = W) (hf : rm.frames + 1 ≤ R.frames) (hlo : W + (m' + 11) + rm.locals ≤ R.locals) (hk : k + rm.cells ≤ R.cells) (hn : n + rm.slots ≤ R.slots) (hls : ls.length = ml)
    (G : ∀ h', P h' → Go true KT l Z R y bytes ml ret n0 kc ks Q h' (k + rm.cells) (n + rm.slots) pc' ls st) : Go true K₀ l Z R y bytes ml ret n0 kc ks Q h k n pc ls st₀ := by
  subst hst hr'
  intro p e s0 s m args below meth c T L Bs C X hh N
  obtain ⟨hd, rfl⟩ := D
  have hZ := C.2.2.2.2.1
  obtain ⟨v, vm₁, ⟨B, Lb, kb, nb⟩, -, X', hSi, -, ⟨Lq, ⟨⟨hQ, hsz⟩, Ns⟩, e1, e2, e3⟩, st'⟩ := X.specialBackS C.1 (y := y') hi C.2.2.2.1 (mvT hZ w1) (mvT hZ w2) (mvT hZ w4) hy (backOfS (W := W) (Q := fun v h' L => ((R0 P) v h' ∧ h.size ≤ h'.size) ∧ Fr n0 L) (hM []) hZ w4 w3 hf hlo) (g := mkF m pc ls.toArray (argsL.reverse ++ .ref a :: st)) rfl
    (by rw [C.2.2.1]; simpa using hls) (Steps.refl _) (a := a) (argsL := argsL) (rest := st) hlen rfl (by show 2 * 0 + _ ≤ W; rw [← hW]; omega) (hb C.2.1 hd) (fun _ _ => ⟨rfl, hh, hk, hn⟩)
  dsimp only [Pt.U, Pt.locs, Pt.cells, Pt.slots] at X' hSi hQ hsz e1 e2 e3 st'
  subst e1 e2 e3
  obtain ⟨rfl, hP⟩ := hQ
  exact (G B.heap hP p e s0 _ m args below meth c B _ (Bs.since hSi hsz) (C.since hSi) X' rfl (N.app Ns)).pre (fun t q => st'.trans q)
theorem go_wcallV0 {y' : MethodName} {b' : ByteArray} {m' : Nat} {r' : Option FieldType} {rm : Room} {idx W : Nat} {argsL : List Value} {P : Heap → Prop} {x' : MethodName} {K : String} {a : Addr} (D : Dc bytes pc (.invokevirtual idx) 3 pc') (hM : Con true l Z y' b' m' r' rm (.ref a :: argsL).toArray h n0 (R0 P)) (E : Exa Z h a K)
    (w1 : (Cond.methodLink y.cls idx x').before a0 Z = true) (w5 : (Cond.declares x').before a0 Z = true) (nf : ∀ s : State, Z.Warmed39 s.vm → NotFace s x') (w6 : (Cond.selects K x' y').before a0 Z = true) (w2 : (Cond.instanceMethod y').before a0 Z = true) (w3 : (Cond.initialized y'.cls).before a0 Z = true) (w4 : (Cond.code y' b' m' r').before a0 Z = true)
    (hy : x'.cls ≠ "java/lang/invoke/MethodHandle" ∧ x'.cls ≠ "java/lang/invoke/VarHandle") (hlen : ∀ sig, parseMethodDescriptor x'.desc = some sig → argsL.length = sig.parameters.length) {st₀ : List Value} (hst : st₀ = argsL.reverse ++ .ref a :: st) (hW : (st.map fun v => v.category).sum = W) (hf : rm.frames + 1 ≤ R.frames) (hlo : W + (m' + 11) + rm.locals ≤ R.locals) (hk : k + rm.cells ≤ R.cells) (hn : n + rm.slots ≤ R.slots) (hls : ls.length = ml)
    (G : ∀ h', P h' → Go true KT l Z R y bytes ml ret n0 kc ks Q h' (k + rm.cells) (n + rm.slots) pc' ls st) : Go true K₀ l Z R y bytes ml ret n0 kc ks Q h k n pc ls st₀ := by
  subst hst
  intro p e s0 s m args below meth c T L Bs C X hh N
  obtain ⟨hd, rfl⟩ := D
  have hZ := C.2.2.2.2.1
  obtain ⟨cq, kq, qa, qb, qc⟩ := isOf (T := T) hZ hh E
  obtain ⟨v, vm₁, ⟨B, Lb, kb, nb⟩, -, X', hSi, -, ⟨Lq, ⟨⟨hQ, hsz⟩, Ns⟩, e1, e2, e3⟩, st'⟩ := X.virtualBackS C.1 (y := x') (z := y') C.2.2.2.1 (mvT hZ w1) (mvT hZ w5) (nf s hZ) (mvT hZ w6) (mvT hZ w2) hy (backOfS (W := W) (Q := fun v h' L => ((R0 P) v h' ∧ h.size ≤ h'.size) ∧ Fr n0 L) (hM []) hZ w4 w3 hf hlo) qa qc (g := mkF m pc ls.toArray (argsL.reverse ++ .ref a :: st)) rfl
    (by rw [C.2.2.1]; simpa using hls) (Steps.refl _) (argsL := argsL) (rest := st) hlen rfl (by show 2 * 0 + _ ≤ W; rw [← hW]; omega) (hb C.2.1 hd) (fun _ _ => ⟨rfl, hh, hk, hn⟩)
  dsimp only [Pt.U, Pt.locs, Pt.cells, Pt.slots] at X' hSi hQ hsz e1 e2 e3 st'
  subst e1 e2 e3
  obtain ⟨rfl, hP⟩ := hQ
  exact (G B.heap hP p e s0 _ m args below meth c B _ (Bs.since hSi hsz) (C.since hSi) X' rfl (N.app Ns)).pre (fun t q => st'.trans q)
theorem go_wcallP0 {y' : MethodName} {b' : ByteArray} {m' : Nat} {r' : Option FieldType} {rm : Room} {idx W : Nat} {argsL : List Value} {P : Heap → Prop} {K : String} {a : Addr} (D : Dc bytes pc (.invokevirtual idx) 3 pc') (hM : Con true l Z y' b' m' r' rm (.ref a :: argsL).toArray h n0 (R0 P)) (E : Exa Z h a K)
    (w1 : (Cond.methodLink y.cls idx y').before a0 Z = true) (w2 : (Cond.instanceMethod y').before a0 Z = true) {kk : Nat} (wi : (Cond.instantiable y'.cls kk).before a0 Z = true) (w5 : (Cond.privateMethod y').before a0 Z = true) (w3 : (Cond.initialized y'.cls).before a0 Z = true) (w4 : (Cond.code y' b' m' r').before a0 Z = true) (hy : y'.cls ≠ "java/lang/invoke/MethodHandle" ∧ y'.cls ≠ "java/lang/invoke/VarHandle")
    (hlen : ∀ sig, parseMethodDescriptor y'.desc = some sig → argsL.length = sig.parameters.length) {st₀ : List Value} (hst : st₀ = argsL.reverse ++ .ref a :: st) (hW : (st.map fun v => v.category).sum = W) (hf : rm.frames + 1 ≤ R.frames) (hlo : W + (m' + 11) + rm.locals ≤ R.locals) (hk : k + rm.cells ≤ R.cells) (hn : n + rm.slots ≤ R.slots) (hls : ls.length = ml)
    (G : ∀ h', P h' → Go true KT l Z R y bytes ml ret n0 kc ks Q h' (k + rm.cells) (n + rm.slots) pc' ls st) : Go true K₀ l Z R y bytes ml ret n0 kc ks Q h k n pc ls st₀ := by
  subst hst
  intro p e s0 s m args below meth c T L Bs C X hh N
  obtain ⟨hd, rfl⟩ := D
  have hZ := C.2.2.2.2.1
  obtain ⟨cq, q1, q2⟩ := E.cell
  have wi' : (Cond.instantiable y'.cls kk).before args s = true := mvT hZ wi
  obtain ⟨c2, k2, i1, i2, -, i4, -⟩ := Cond.instantiable_spec wi'
  have hpa : s.PrivateAt y' := Cond.privateMethod_at (mvP hZ w5 (args := #[]))
  have w6 : (Cond.selects y'.cls y' y').before args s = true := selects_self_of_private i1 i2 (Bool.or_eq_false_iff.mp i4).1 hpa (mvT hZ w2) hy
  obtain ⟨v, vm₁, ⟨B, Lb, kb, nb⟩, -, X', hSi, -, ⟨Lq, ⟨⟨hQ, hsz⟩, Ns⟩, e1, e2, e3⟩, st'⟩ := X.privateBackS C.1 (y := y') C.2.2.2.1 (mvT hZ w1) (mvT hZ w2) w6 hpa (mvT hZ w4) hy (backOfS (W := W) (Q := fun v h' L => ((R0 P) v h' ∧ h.size ≤ h'.size) ∧ Fr n0 L) (hM []) hZ w4 w3 hf hlo) (g := mkF m pc ls.toArray (argsL.reverse ++ .ref a :: st)) rfl
    (by rw [C.2.2.1]; simpa using hls) (Steps.refl _) (a := a) (by rw [hh]; exact q1) q2 (argsL := argsL) (rest := st) hlen rfl (by show 2 * 0 + _ ≤ W; rw [← hW]; omega) (hb C.2.1 hd) (fun _ _ => ⟨rfl, hh, hk, hn⟩)
  dsimp only [Pt.U, Pt.locs, Pt.cells, Pt.slots] at X' hSi hQ hsz e1 e2 e3 st'
  subst e1 e2 e3
  obtain ⟨rfl, hP⟩ := hQ
  exact (G B.heap hP p e s0 _ m args below meth c B _ (Bs.since hSi hsz) (C.since hSi) X' rfl (N.app Ns)).pre (fun t q => st'.trans q)
theorem go_initO {idx W : Nat} {a : Addr} (D : Dc bytes pc (.invokespecial idx) 3 pc') (w1 : (Cond.methodLink y.cls idx Lib.objectInit).before a0 Z = true) (w2 : (Cond.instanceMethod Lib.objectInit).before a0 Z = true) (w3 : (Cond.code Lib.objectInit ⟨#[0xb1]⟩ 1 none).before a0 Z = true)
    (hls : ls.length = ml) (hf : 1 ≤ R.frames) (hW : (st.map fun v => v.category).sum = W) (hlo : W + 12 ≤ R.locals) (G : Go wd K₀ l Z R y bytes ml ret n0 kc ks Q h k n pc' ls st) : Go wd K₀ l Z R y bytes ml ret n0 kc ks Q h k n pc ls (.ref a :: st) := by
  intro p e s0 s m args below meth c T L Bs C X hh N
  obtain ⟨hd, rfl⟩ := D
  obtain ⟨T', X', e', st'⟩ := initO X C.1 C.2.2.2.2.1 C.2.2.2.1 w1 w2 w3 hh (g := mkF m pc ls.toArray (.ref a :: st)) rfl (by rw [C.2.2.1]; simpa using hls) rfl (hb C.2.1 hd) hf (W := W) (by show 2 * 0 + _ ≤ W; rw [← hW]; omega) hlo
  exact (G p e s0 s m args below meth c T' L Bs C X' e' N).pre st'
/-! ## 2. fields, objects, arrays, by the library's own facts -/
theorem go_getF {idx : Nat} {R0 O nm d host : String} {a : Addr} {v : Value} (D : Dc bytes pc (.getfield idx) 3 pc') (w : (Cond.fieldLink y.cls idx R0 nm d).before a0 Z = true ∨ (Cond.fieldLinkNest y.cls idx R0 nm d host).before a0 Z = true) (via : Via Z R0 O nm d) (F : Fld Z h a O nm d v) (G : Go wd K₀ l Z R y bytes ml ret n0 kc ks Q h k n pc' ls (v :: st)) : Go wd K₀ l Z R y bytes ml ret n0 kc ks Q h k n pc ls (.ref a :: st) := by
  intro p e s0 s m args below meth c T L Bs C X hh N
  obtain ⟨hd, rfl⟩ := D
  obtain ⟨T', X', e', st'⟩ := getF X C.1 C.2.2.2.2.1 C.2.2.2.1 w via hh F (g := mkF m pc ls.toArray (.ref a :: st)) rfl rfl (hb C.2.1 hd)
  exact (G p e s0 s m args below meth c T' L Bs C X' e' N).pre st'
theorem go_getS {idx : Nat} {R0 O nm d host : String} {v : Value} (D : Dc bytes pc (.getstatic idx) 3 pc') (w : (Cond.fieldLink y.cls idx R0 nm d).before a0 Z = true ∨ (Cond.fieldLinkNest y.cls idx R0 nm d host).before a0 Z = true) (via : Via Z R0 O nm d) (F : Sta Z h O nm d v) (G : Go wd K₀ l Z R y bytes ml ret n0 kc ks Q h k n pc' ls (v :: st)) : Go wd K₀ l Z R y bytes ml ret n0 kc ks Q h k n pc ls st := by
  intro p e s0 s m args below meth c T L Bs C X hh N
  obtain ⟨hd, rfl⟩ := D
  obtain ⟨T', X', e', st'⟩ := getS2 X C.1 C.2.2.2.2.1 C.2.2.2.1 w via hh F (g := mkF m pc ls.toArray st) rfl (hb C.2.1 hd)
  exact (G p e s0 s m args below meth c T' L Bs C X' e' N).pre st'
theorem go_putF {idx kk : Nat} {R0 O nm d host K : String} {ty : FieldType} {a : Addr} {v old : Value} (D : Dc bytes pc (.putfield idx) 3 pc') (w : (Cond.fieldLink y.cls idx R0 nm d).before a0 Z = true ∨ (Cond.fieldLinkNest y.cls idx R0 nm d host).before a0 Z = true) (via : Via Z R0 O nm d) (F : Fld Z h a O nm d old) (E : Exa Z h a K)
    (Lw : (Cond.lays K O nm d).before a0 Z = true ∨ ((Cond.laysFinal K O nm d).before a0 Z = true ∧ y.cls = O ∧ y.name = "<init>")) (wi : (Cond.instantiable K kk).before a0 Z = true) (hty : parseFieldDescriptor d = some ty) (hnr : narrow ty v = v) (hfi : fits ty v = true) (ha : n0 ≤ a)
    (G : ∀ h', Wr h h' a (Jvm.RoadKit.slotOf Z O nm d) v → Go wd K₀ l Z R y bytes ml ret n0 kc ks Q h' k n pc' ls st) : Go wd K₀ l Z R y bytes ml ret n0 kc ks Q h k n pc ls (v :: .ref a :: st) := by
  intro p e s0 s m args below meth c T L Bs C X hh N
  obtain ⟨hd, rfl⟩ := D
  obtain ⟨T', h', X', e', W', st'⟩ := putF X C.1 C.2.2.2.2.1 C.2.2.2.1 w via hh F E (Lw.imp id fun q => ⟨q.1, q.2.1, C.2.2.2.2.2.2.2.1.trans q.2.2⟩) wi hty hnr hfi (g := mkF m pc ls.toArray (v :: .ref a :: st)) rfl rfl (hb C.2.1 hd)
  exact (G h' W' p e s0 s m args below meth c T' _ (Bs.mono (Nat.le_of_eq W'.size.symm)) C X' e' (Fr.snoc X' N ha)).pre st'
theorem go_newO {idx sl : Nat} {K : String} (D : Dc bytes pc (.new idx) 3 pc') (w : (Cond.classLink y.cls idx K).before a0 Z = true) (wi : (Cond.instantiable K sl).before a0 Z = true) (wz : (Cond.initialized K).before a0 Z = true) (hk : k + 1 ≤ R.cells) (hn : n + sl ≤ R.slots)
    (G : ∀ h', Ext h h' → Exa Z h' h.size K → (∀ {O nm d : String} {ty : FieldType}, Laid Z a0 K O nm d → parseFieldDescriptor d = some ty → Fld Z h' h.size O nm d (defaultValue ty)) → Go wd K₀ l Z R y bytes ml ret n0 kc ks Q h' (k + 1) (n + sl) pc' ls (.ref h.size :: st)) : Go wd K₀ l Z R y bytes ml ret n0 kc ks Q h k n pc ls st := by
  intro p e s0 s m args below meth c T L Bs C X hh N
  obtain ⟨hd, rfl⟩ := D
  obtain ⟨T', h', X', e', E', A', F', -, st'⟩ := newO X C.1 C.2.2.2.2.1 C.2.2.2.1 w wi wz hh (g := mkF m pc ls.toArray st) rfl (hb C.2.1 hd) hk hn
  exact (G h' E' A' F' p e s0 s m args below meth c T' _ (Bs.mono E'.1) C X' e' N).pre st'
theorem go_newP {aty : ArrayType} {z : Int32} {ad : String} (D : Dc bytes pc (.newarray aty) 2 pc') (w : (Cond.arrayClass (newarray.typeOf aty)).before a0 Z = true) (hz : ¬ z < 0) (cap : Nat) (hcap : z.toNatClampNeg ≤ cap) (hb8 : cap * 8 ≤ 536870912) (hk : k + 1 ≤ R.cells) (hn : n + cap ≤ R.slots) (had : "[" ++ (newarray.typeOf aty).toString = ad)
    (G : ∀ h' cA, Ext h h' → Arr Z h' h.size (newA cA (newarray.typeOf aty) z) (newarray.typeOf aty) → Exa Z h' h.size ad → Go wd K₀ l Z R y bytes ml ret n0 kc ks Q h' (k + 1) (n + cap) pc' ls (.ref h.size :: st)) : Go wd K₀ l Z R y bytes ml ret n0 kc ks Q h k n pc ls (.int z :: st) := by
  intro p e s0 s m args below meth c T L Bs C X hh N
  obtain ⟨hd, rfl⟩ := D
  obtain ⟨T', h', cA, X', e', E', A', F', st'⟩ := newPE X C.1 C.2.2.2.2.1 w hh (g := mkF m pc ls.toArray (.int z :: st)) rfl (hb C.2.1 hd) rfl hz hcap hb8 hk hn had
  exact (G h' cA E' A' F' p e s0 s m args below meth c T' _ (Bs.mono E'.1) C X' e' N).pre st'
theorem go_newR {idx : Nat} {K : String} {z : Int32} {ad : String} (D : Dc bytes pc (.anewarray idx) 3 pc') (w1 : (Cond.classLink y.cls idx K).before a0 Z = true) (w2 : (Cond.arrayOver (.object K)).before a0 Z = true) (hz : ¬ z < 0) (cap : Nat) (hcap : z.toNatClampNeg ≤ cap) (hb8 : cap * 8 ≤ 536870912) (hk : k + 1 ≤ R.cells) (hn : n + cap ≤ R.slots) (had : "[" ++ (FieldType.object K).toString = ad)
    (G : ∀ h' cA, Ext h h' → Arr Z h' h.size (newA cA (.object K) z) (.object K) → Exa Z h' h.size ad → Ovr Z cA K → Go wd K₀ l Z R y bytes ml ret n0 kc ks Q h' (k + 1) (n + cap) pc' ls (.ref h.size :: st)) : Go wd K₀ l Z R y bytes ml ret n0 kc ks Q h k n pc ls (.int z :: st) := by
  intro p e s0 s m args below meth c T L Bs C X hh N
  obtain ⟨hd, rfl⟩ := D
  obtain ⟨T', h', cA, X', e', E', A', F', O', st'⟩ := newRE X C.1 C.2.2.2.2.1 C.2.2.2.1 w1 w2 hh (g := mkF m pc ls.toArray (.int z :: st)) rfl (hb C.2.1 hd) rfl hz hcap hb8 hk hn had
  exact (G h' cA E' A' F' O' p e s0 s m args below meth c T' _ (Bs.mono E'.1) C X' e' N).pre st'
theorem go_len {a : Addr} {cl : Cell} {ty : FieldType} {z : Int32} (D : Dc bytes pc .arraylength 1 pc') (A : Arr Z h a cl ty) (hz : cl.slots.size.toInt32 = z) (G : Go wd K₀ l Z R y bytes ml ret n0 kc ks Q h k n pc' ls (.int z :: st)) : Go wd K₀ l Z R y bytes ml ret n0 kc ks Q h k n pc ls (.ref a :: st) := by
  intro p e s0 s m args below meth c T L Bs C X hh N
  obtain ⟨hd, rfl⟩ := D
  subst hz
  exact (G p e s0 s m args below meth c T L Bs C X hh N).pre fun t q => X.arraylength C.1 (by rw [hh]; exact A.1) (State.isArrayOf_alike C.2.2.2.2.1.alike A.2.1) (g := mkF m pc ls.toArray (.ref a :: st)) rfl rfl (hb C.2.1 hd) _ q
theorem go_iaload {a : Addr} {cl : Cell} {j : Int32} {v : Value} (D : Dc bytes pc .iaload 1 pc') (A : Arr Z h a cl .int) (hj : ¬ (j < 0 ∨ cl.slots.size ≤ j.toNatClampNeg)) (hv : cl.slots[j.toNatClampNeg]? = some v) (G : Go wd K₀ l Z R y bytes ml ret n0 kc ks Q h k n pc' ls (v :: st)) : Go wd K₀ l Z R y bytes ml ret n0 kc ks Q h k n pc ls (.int j :: .ref a :: st) := by
  intro p e s0 s m args below meth c T L Bs C X hh N
  obtain ⟨hd, rfl⟩ := D
  exact (G p e s0 s m args below meth c T L Bs C X hh N).pre fun t q => X.iaload C.1 (j := j) (v := v) (by rw [hh]; exact A.1) (State.isArrayOf_alike C.2.2.2.2.1.alike A.2.1) A.2.2 hj hv (g := mkF m pc ls.toArray (.int j :: .ref a :: st)) rfl rfl (hb C.2.1 hd) _ q
theorem go_caload {a : Addr} {cl : Cell} {j : Int32} {v : Value} (D : Dc bytes pc .caload 1 pc') (A : Arr Z h a cl .char) (hj : ¬ (j < 0 ∨ cl.slots.size ≤ j.toNatClampNeg)) (hv : cl.slots[j.toNatClampNeg]? = some v) (G : Go wd K₀ l Z R y bytes ml ret n0 kc ks Q h k n pc' ls (v :: st)) : Go wd K₀ l Z R y bytes ml ret n0 kc ks Q h k n pc ls (.int j :: .ref a :: st) := by
  intro p e s0 s m args below meth c T L Bs C X hh N
  obtain ⟨hd, rfl⟩ := D
  exact (G p e s0 s m args below meth c T L Bs C X hh N).pre fun t q => X.caload C.1 (j := j) (v := v) (by rw [hh]; exact A.1) (State.isArrayOf_alike C.2.2.2.2.1.alike A.2.1) A.2.2 hj hv (g := mkF m pc ls.toArray (.int j :: .ref a :: st)) rfl rfl (hb C.2.1 hd) _ q
theorem go_baload {a : Addr} {cl : Cell} {j : Int32} {v : Value} (D : Dc bytes pc .baload 1 pc') (A : Arr Z h a cl .byte) (hj : ¬ (j < 0 ∨ cl.slots.size ≤ j.toNatClampNeg)) (hv : cl.slots[j.toNatClampNeg]? = some v) (G : Go wd K₀ l Z R y bytes ml ret n0 kc ks Q h k n pc' ls (v :: st)) : Go wd K₀ l Z R y bytes ml ret n0 kc ks Q h k n pc ls (.int j :: .ref a :: st) := by
  intro p e s0 s m args below meth c T L Bs C X hh N
  obtain ⟨hd, rfl⟩ := D
  exact (G p e s0 s m args below meth c T L Bs C X hh N).pre fun t q => X.baloadBytes C.1 (j := j) (v := v) (by rw [hh]; exact A.1) (State.isArrayOf_alike C.2.2.2.2.1.alike A.2.1) A.2.2 hj hv (g := mkF m pc ls.toArray (.int j :: .ref a :: st)) rfl rfl (hb C.2.1 hd) _ q
theorem go_laload {a : Addr} {cl : Cell} {j : Int32} {v : Value} (D : Dc bytes pc .laload 1 pc') (A : Arr Z h a cl .long) (hj : ¬ (j < 0 ∨ cl.slots.size ≤ j.toNatClampNeg)) (hv : cl.slots[j.toNatClampNeg]? = some v) (G : Go wd K₀ l Z R y bytes ml ret n0 kc ks Q h k n pc' ls (v :: st)) : Go wd K₀ l Z R y bytes ml ret n0 kc ks Q h k n pc ls (.int j :: .ref a :: st) := by
  intro p e s0 s m args below meth c T L Bs C X hh N
  obtain ⟨hd, rfl⟩ := D
  exact (G p e s0 s m args below meth c T L Bs C X hh N).pre fun t q => X.laload C.1 (j := j) (v := v) (by rw [hh]; exact A.1) (State.isArrayOf_alike C.2.2.2.2.1.alike A.2.1) A.2.2 hj hv (g := mkF m pc ls.toArray (.int j :: .ref a :: st)) rfl rfl (hb C.2.1 hd) _ q
theorem go_aaload {a : Addr} {cl : Cell} {ty : FieldType} {j : Int32} {v : Value} (D : Dc bytes pc .aaload 1 pc') (A : Arr Z h a cl ty) (hty : ty.isReference = true) (hj : ¬ (j < 0 ∨ cl.slots.size ≤ j.toNatClampNeg)) (hv : cl.slots[j.toNatClampNeg]? = some v) (G : Go wd K₀ l Z R y bytes ml ret n0 kc ks Q h k n pc' ls (v :: st)) : Go wd K₀ l Z R y bytes ml ret n0 kc ks Q h k n pc ls (.int j :: .ref a :: st) := by
  intro p e s0 s m args below meth c T L Bs C X hh N
  obtain ⟨hd, rfl⟩ := D
  exact (G p e s0 s m args below meth c T L Bs C X hh N).pre fun t q => X.aaload C.1 (j := j) (v := v) (by rw [hh]; exact A.1) (State.isArrayOf_alike C.2.2.2.2.1.alike A.2.1) hty A.2.2 hj hv (g := mkF m pc ls.toArray (.int j :: .ref a :: st)) rfl rfl (hb C.2.1 hd) _ q
theorem go_iastore {a : Addr} {cl : Cell} {j : Int32} {x : Int32} (D : Dc bytes pc .iastore 1 pc') (A : Arr Z h a cl .int) (hj : ¬ (j < 0 ∨ cl.slots.size ≤ j.toNatClampNeg)) (ha : n0 ≤ a) (G : ∀ h', Wr h h' a j.toNatClampNeg (.int x) → Go wd K₀ l Z R y bytes ml ret n0 kc ks Q h' k n pc' ls st) : Go wd K₀ l Z R y bytes ml ret n0 kc ks Q h k n pc ls (.int x :: .int j :: .ref a :: st) := by
  intro p e s0 s m args below meth c T L Bs C X hh N
  obtain ⟨hd, rfl⟩ := D
  obtain ⟨T', h', X', e', W', st'⟩ := stI X C.1 C.2.2.2.2.1 hh A hj (g := mkF m pc ls.toArray (.int x :: .int j :: .ref a :: st)) rfl rfl (hb C.2.1 hd)
  exact (G h' W' p e s0 s m args below meth c T' _ (Bs.mono (Nat.le_of_eq W'.size.symm)) C X' e' (Fr.snoc X' N ha)).pre st'
theorem go_lastore {a : Addr} {cl : Cell} {j : Int32} {x : Int64} (D : Dc bytes pc .lastore 1 pc') (A : Arr Z h a cl .long) (hj : ¬ (j < 0 ∨ cl.slots.size ≤ j.toNatClampNeg)) (ha : n0 ≤ a) (G : ∀ h', Wr h h' a j.toNatClampNeg (.long x) → Go wd K₀ l Z R y bytes ml ret n0 kc ks Q h' k n pc' ls st) : Go wd K₀ l Z R y bytes ml ret n0 kc ks Q h k n pc ls (.long x :: .int j :: .ref a :: st) := by
  intro p e s0 s m args below meth c T L Bs C X hh N
  obtain ⟨hd, rfl⟩ := D
  obtain ⟨T', h', X', e', W', st'⟩ := stJ X C.1 C.2.2.2.2.1 hh A hj (g := mkF m pc ls.toArray (.long x :: .int j :: .ref a :: st)) rfl rfl (hb C.2.1 hd)
  exact (G h' W' p e s0 s m args below meth c T' _ (Bs.mono (Nat.le_of_eq W'.size.symm)) C X' e' (Fr.snoc X' N ha)).pre st'
theorem go_castore {a : Addr} {cl : Cell} {j : Int32} {x : Int32} (D : Dc bytes pc .castore 1 pc') (A : Arr Z h a cl .char) (hj : ¬ (j < 0 ∨ cl.slots.size ≤ j.toNatClampNeg)) (ha : n0 ≤ a) (G : ∀ h', Wr h h' a j.toNatClampNeg (.int (nar .char x)) → Go wd K₀ l Z R y bytes ml ret n0 kc ks Q h' k n pc' ls st) : Go wd K₀ l Z R y bytes ml ret n0 kc ks Q h k n pc ls (.int x :: .int j :: .ref a :: st) := by
  intro p e s0 s m args below meth c T L Bs C X hh N
  obtain ⟨hd, rfl⟩ := D
  obtain ⟨T', h', X', e', W', st'⟩ := stC X C.1 C.2.2.2.2.1 hh A hj (g := mkF m pc ls.toArray (.int x :: .int j :: .ref a :: st)) rfl rfl (hb C.2.1 hd)
  exact (G h' W' p e s0 s m args below meth c T' _ (Bs.mono (Nat.le_of_eq W'.size.symm)) C X' e' (Fr.snoc X' N ha)).pre st'
theorem go_bastore {a : Addr} {cl : Cell} {j : Int32} {x : Int32} (D : Dc bytes pc .bastore 1 pc') (A : Arr Z h a cl .byte) (hj : ¬ (j < 0 ∨ cl.slots.size ≤ j.toNatClampNeg)) (ha : n0 ≤ a) (G : ∀ h', Wr h h' a j.toNatClampNeg (.int (nar .byte x)) → Go wd K₀ l Z R y bytes ml ret n0 kc ks Q h' k n pc' ls st) : Go wd K₀ l Z R y bytes ml ret n0 kc ks Q h k n pc ls (.int x :: .int j :: .ref a :: st) := by
  intro p e s0 s m args below meth c T L Bs C X hh N
  obtain ⟨hd, rfl⟩ := D
  obtain ⟨T', h', X', e', W', st'⟩ := stB X C.1 C.2.2.2.2.1 hh A hj (g := mkF m pc ls.toArray (.int x :: .int j :: .ref a :: st)) rfl rfl (hb C.2.1 hd)
  exact (G h' W' p e s0 s m args below meth c T' _ (Bs.mono (Nat.le_of_eq W'.size.symm)) C X' e' (Fr.snoc X' N ha)).pre st'
theorem go_zastore {a : Addr} {cl : Cell} {j : Int32} {x : Int32} (D : Dc bytes pc .bastore 1 pc') (A : Arr Z h a cl .boolean) (hj : ¬ (j < 0 ∨ cl.slots.size ≤ j.toNatClampNeg)) (ha : n0 ≤ a) (G : ∀ h', Wr h h' a j.toNatClampNeg (.int (nar .boolean x)) → Go wd K₀ l Z R y bytes ml ret n0 kc ks Q h' k n pc' ls st) : Go wd K₀ l Z R y bytes ml ret n0 kc ks Q h k n pc ls (.int x :: .int j :: .ref a :: st) := by
  intro p e s0 s m args below meth c T L Bs C X hh N
  obtain ⟨hd, rfl⟩ := D
  obtain ⟨T', h', X', e', W', st'⟩ := stZ X C.1 C.2.2.2.2.1 hh A hj (g := mkF m pc ls.toArray (.int x :: .int j :: .ref a :: st)) rfl rfl (hb C.2.1 hd)
  exact (G h' W' p e s0 s m args below meth c T' _ (Bs.mono (Nat.le_of_eq W'.size.symm)) C X' e' (Fr.snoc X' N ha)).pre st'
theorem go_aastore {a : Addr} {cl : Cell} {ty : FieldType} {j : Int32} {v : Value} (D : Dc bytes pc .aastore 1 pc') (A : Arr Z h a cl ty) (hj : ¬ (j < 0 ∨ cl.slots.size ≤ j.toNatClampNeg)) (hty : ty.isReference = true) (F : Sto Z h a v) (ha : n0 ≤ a) (G : ∀ h', Wr h h' a j.toNatClampNeg v → Go wd K₀ l Z R y bytes ml ret n0 kc ks Q h' k n pc' ls st) : Go wd K₀ l Z R y bytes ml ret n0 kc ks Q h k n pc ls (v :: .int j :: .ref a :: st) := by
  intro p e s0 s m args below meth c T L Bs C X hh N
  obtain ⟨hd, rfl⟩ := D
  obtain ⟨T', h', X', e', W', st'⟩ := stR X C.1 C.2.2.2.2.1 hh A hj hty F (g := mkF m pc ls.toArray (v :: .int j :: .ref a :: st)) rfl rfl (hb C.2.1 hd)
  exact (G h' W' p e s0 s m args below meth c T' _ (Bs.mono (Nat.le_of_eq W'.size.symm)) C X' e' (Fr.snoc X' N ha)).pre st'
end Walk
end Jvm.OwnGo
namespace Jvm.OwnGo
open Jvm Sem ClassFile Op Lib Jvm.Stand Jvm.Free Jvm.LawKit Jvm.RoadKit
/-! ## 3. the heap since the start, as a list of what lies where -/
abbrev FD := (String × String × String) × Value
abbrev Desc := (String × List FD) ⊕ (FieldType × String × List Value)
def slotF (Z : State) (f : FD) : Nat := Jvm.RoadKit.slotOf Z f.1.1 f.1.2.1 f.1.2.2
def Is (Z : State) (h : Heap) (a : Addr) : Desc → Prop
  | .inl (K, fs) => Exa Z h a K ∧ (fs.map (slotF Z)).Nodup ∧ ∀ f ∈ fs, Fld Z h a f.1.1 f.1.2.1 f.1.2.2 f.2
  | .inr (ty, ad, vs) => Exa Z h a ad ∧ ∃ c : Cell, Arr Z h a c ty ∧ c.slots = vs.toArray ∧ vs.length < 2 ^ 31 ∧ (∀ v ∈ vs, fits ty v = true) ∧ ∀ K, ty = .object K → Ovr Z c.cls K
def Hp (Z : State) (n0 : Nat) (h : Heap) (L : List (Addr × Desc)) : Prop := Old Z n0 h ∧ (L.map Prod.fst).Nodup ∧ ∀ x ∈ L, n0 ≤ x.1 ∧ Is Z h x.1 x.2
def LaysD (Z : State) (a0 : Array Value) (K : String) : List FD → Prop
  | [] => True
  | f :: r => (Laid Z a0 K f.1.1 f.1.2.1 f.1.2.2 ∧ ∃ t, parseFieldDescriptor f.1.2.2 = some t ∧ defaultValue t = f.2) ∧ LaysD Z a0 K r
def front {α : Type} (L : List α) (i : Nat) : List α := match L[i]? with | some x => x :: L.eraseIdx i | none => L
section Hp
variable {Z : State} {n0 : Nat} {h h' : Heap} {L : List (Addr × Desc)} {a b : Addr} {K ad O nm d : String} {fs : List FD} {vs : List Value} {ty : FieldType} {v old : Value} {i j sl : Nat} {a0 : Array Value}
theorem Is.ext {D : Desc} (E : Ext h h') (F : Is Z h a D) : Is Z h' a D := by
  rcases D with ⟨K, fs⟩ | ⟨ty, ad, vs⟩
  · obtain ⟨h1, h2, h3⟩ := F; exact ⟨h1.ext E, h2, fun f hf => (h3 f hf).ext E⟩
  · obtain ⟨h1, c, h2, r⟩ := F; exact ⟨h1.ext E, c, h2.ext E, r⟩
theorem Is.other {D : Desc} (W : Wr h h' b sl v) (ne : a ≠ b) (F : Is Z h a D) : Is Z h' a D := by
  rcases D with ⟨K, fs⟩ | ⟨ty, ad, vs⟩
  · obtain ⟨h1, h2, h3⟩ := F; exact ⟨h1.wr W, h2, fun f hf => (h3 f hf).other W (Or.inl ne)⟩
  · obtain ⟨h1, c, h2, r⟩ := F; exact ⟨h1.wr W, c, h2.other W ne, r⟩
theorem Is.exa {D : Desc} (F : Is Z h a D) : ∃ K, Exa Z h a K := by
  rcases D with ⟨K, fs⟩ | ⟨ty, ad, vs⟩
  · exact ⟨K, F.1⟩
  · exact ⟨ad, F.1⟩
theorem mem_upd {α : Type} {L : List α} {i : Nat} {x y : α} (hx : x ∈ lupd L i y) : x = y ∨ ∃ q, q ≠ i ∧ L[q]? = some x := by
  rw [upd_set] at hx
  obtain ⟨q, hq⟩ := List.mem_iff_getElem?.mp hx
  rw [List.getElem?_set] at hq
  split at hq
  · rename_i e
    split at hq
    · left; exact (Option.some.inj hq).symm
    · cases hq
  · rename_i e
    exact Or.inr ⟨q, fun u => e u.symm, hq⟩
theorem Hp.mem (hi : L[i]? = some (a, D)) : (a, D) ∈ L := List.mem_of_getElem? hi
theorem Hp.is {D : Desc} (P : Hp Z n0 h L) (hi : L[i]? = some (a, D)) : Is Z h a D := (P.2.2 _ (List.mem_of_getElem? hi)).2
theorem Hp.ge {D : Desc} (P : Hp Z n0 h L) (hi : L[i]? = some (a, D)) : n0 ≤ a := (P.2.2 _ (List.mem_of_getElem? hi)).1
theorem Hp.exa (P : Hp Z n0 h L) (hi : L[i]? = some (a, .inl (K, fs))) : Exa Z h a K := (P.is hi).1
theorem Hp.exaA (P : Hp Z n0 h L) (hi : L[i]? = some (a, .inr (ty, ad, vs))) : Exa Z h a ad := (P.is hi).1
theorem Hp.fld (P : Hp Z n0 h L) (hi : L[i]? = some (a, .inl (K, fs))) (hj : fs[j]? = some ((O, nm, d), v)) : Fld Z h a O nm d v := (P.is hi).2.2 _ (List.mem_of_getElem? hj)
theorem Hp.lt {D : Desc} (P : Hp Z n0 h L) (hx : (a, D) ∈ L) : a < h.size := by
  obtain ⟨K, E⟩ := (P.2.2 _ hx).2.exa; exact E.lt
theorem Hp.ne {D D' : Desc} (P : Hp Z n0 h L) (hi : L[i]? = some (a, D)) (hj : L[j]? = some (b, D')) (q : i ≠ j) : a ≠ b := fun e => q (by
  have hl : i < (L.map Prod.fst).length := by rw [List.length_map]; exact (List.getElem?_eq_some_iff.mp hi).1
  refine (List.getElem?_inj hl P.2.1).mp ?_
  rw [List.getElem?_map, List.getElem?_map, hi, hj]; simp [e])
theorem map_upd {α β : Type} {f : α → β} {L : List α} {i : Nat} {x y : α} (hi : L[i]? = some x) (e : f y = f x) : (lupd L i y).map f = L.map f := by
  rw [upd_set]
  apply List.ext_getElem?
  intro q
  rw [List.getElem?_map, List.getElem?_map, List.getElem?_set]
  split
  · rename_i u
    subst u
    obtain ⟨hl, -⟩ := List.getElem?_eq_some_iff.mp hi
    rw [if_pos hl, hi]; simp [e]
  · rfl
theorem Hp.wr {D D' : Desc} (P : Hp Z n0 h L) (hi : L[i]? = some (a, D)) (W : Wr h h' a sl v) (I : Is Z h' a D') : Hp Z n0 h' (lupd L i (a, D')) := by
  have ha := P.ge hi
  refine ⟨P.1.wr W ha, by rw [map_upd (f := Prod.fst) (y := (a, D')) hi rfl]; exact P.2.1, fun x hx => ?_⟩
  rcases mem_upd hx with rfl | ⟨q, hq, hx'⟩
  · exact ⟨ha, I⟩
  · obtain ⟨b, D2⟩ := x
    exact ⟨P.ge hx', (P.is hx').other W (P.ne hx' hi hq)⟩
theorem Hp.put (P : Hp Z n0 h L) (hi : L[i]? = some (a, .inl (K, fs))) (hj : fs[j]? = some ((O, nm, d), old)) (W : Wr h h' a (Jvm.RoadKit.slotOf Z O nm d) v) : Hp Z n0 h' (lupd L i (a, .inl (K, lupd fs j ((O, nm, d), v)))) := by
  obtain ⟨h1, h2, h3⟩ := P.is hi
  refine P.wr hi W ⟨h1.wr W, by rw [map_upd (f := slotF Z) (y := ((O, nm, d), v)) hj rfl]; exact h2, fun f hf => ?_⟩
  rcases mem_upd hf with rfl | ⟨q, hq, hf'⟩
  · exact (h3 _ (List.mem_of_getElem? hj)).same W
  · refine (h3 _ (List.mem_of_getElem? hf')).other W (Or.inr fun e => hq ?_)
    have hl : q < (fs.map (slotF Z)).length := by rw [List.length_map]; exact (List.getElem?_eq_some_iff.mp hf').1
    refine (List.getElem?_inj hl h2).mp ?_
    rw [List.getElem?_map, List.getElem?_map, hf', hj]; simp [slotF, e]
theorem Hp.aput (P : Hp Z n0 h L) (hi : L[i]? = some (a, .inr (ty, ad, vs))) (hv : fits ty v = true) (W : Wr h h' a j v) : Hp Z n0 h' (lupd L i (a, .inr (ty, ad, lupd vs j v))) := by
  obtain ⟨h1, c, h2, h3, h4, h5, h6⟩ := P.is hi
  refine P.wr hi W ⟨h1.wr W, c.setSlot j v, h2.same W, ?_, ?_, fun w hw => ?_, h6⟩
  · rw [upd_set]; show c.slots.setIfInBounds j v = _; rw [h3]; simp
  · rw [upd_set]; simpa using h4
  · rcases mem_upd hw with rfl | ⟨q, -, hq⟩
    · exact hv
    · exact h5 _ (List.mem_of_getElem? hq)
theorem Hp.grow {D : Desc} (P : Hp Z n0 h L) (E : Ext h h') (I : Is Z h' h.size D) : Hp Z n0 h' ((h.size, D) :: L) := by
  have hs : n0 ≤ h.size := by have := P.1.1; have := P.1.2.1; omega
  refine ⟨P.1.ext E, ?_, fun x hx => ?_⟩
  · rw [List.map_cons, List.nodup_cons]
    refine ⟨fun hm => ?_, P.2.1⟩
    obtain ⟨⟨b, D2⟩, hb, e⟩ := List.mem_map.mp hm
    have q := P.lt hb
    have e' : b = h.size := e
    rw [e'] at q
    exact Nat.lt_irrefl _ q
  · rcases List.mem_cons.mp hx with rfl | hx'
    · exact ⟨hs, I⟩
    · exact ⟨(P.2.2 _ hx').1, (P.2.2 _ hx').2.ext E⟩
theorem lays_mem : ∀ {fs : List FD}, LaysD Z a0 K fs → ∀ f ∈ fs, Laid Z a0 K f.1.1 f.1.2.1 f.1.2.2 ∧ ∃ t, parseFieldDescriptor f.1.2.2 = some t ∧ defaultValue t = f.2
  | [], _, _, hf => nomatch hf
  | _ :: _, H, f, hf => (List.mem_cons.mp hf).elim (fun e => e ▸ H.1) (lays_mem H.2 f)
theorem lays_nodup : ∀ {fs : List FD}, LaysD Z a0 K fs → (fs.map fun f => f.1.2.1).Nodup → (fs.map (slotF Z)).Nodup
  | [], _, _ => List.nodup_nil
  | f :: r, H, N => by
    rw [List.map_cons, List.nodup_cons] at N ⊢
    refine ⟨fun hm => ?_, lays_nodup H.2 N.2⟩
    obtain ⟨g, hg, e⟩ := List.mem_map.mp hm
    obtain ⟨Lg, t', ht', -⟩ := lays_mem H.2 g hg
    obtain ⟨Lf, t, ht, -⟩ := H.1
    exact slot_ne Lf Lg (fun q => N.1 (List.mem_map.mpr ⟨g, hg, q.symm⟩)) ht ht' e.symm
theorem Hp.new (P : Hp Z n0 h L) (E : Ext h h') (A : Exa Z h' h.size K) (F : ∀ {O nm d : String} {ty : FieldType}, Laid Z a0 K O nm d → parseFieldDescriptor d = some ty → Fld Z h' h.size O nm d (defaultValue ty)) (Ld : LaysD Z a0 K fs) (nd : (fs.map fun f => f.1.2.1).Nodup) : Hp Z n0 h' ((h.size, .inl (K, fs)) :: L) :=
  P.grow E ⟨A, lays_nodup Ld nd, fun f hf => by
    obtain ⟨Lf, t, ht, e⟩ := lays_mem Ld f hf
    rw [← e]; exact F Lf ht⟩
theorem Hp.newA {cA : ClassId} {z : Int32} (P : Hp Z n0 h L) (E : Ext h h') (A : Arr Z h' h.size (newA cA ty z) ty) (X : Exa Z h' h.size ad) (O : ∀ K, ty = .object K → Ovr Z cA K) (hvs : List.replicate z.toNatClampNeg (defaultValue ty) = vs) (hz : ¬ z < 0) : Hp Z n0 h' ((h.size, .inr (ty, ad, vs)) :: L) :=
  P.grow E ⟨X, _, A, by rw [← hvs]; simp [Jvm.RoadKit.newA], by rw [← hvs, List.length_replicate]; exact (back32 hz).2, fun w hw => by
    rw [← hvs] at hw; rw [List.eq_of_mem_replicate hw]; cases ty <;> rfl, O⟩
theorem Hp.perm {L' : List (Addr × Desc)} (P : Hp Z n0 h L) (q : L'.Perm L) : Hp Z n0 h L' := ⟨P.1, ((q.map Prod.fst).nodup_iff).mpr P.2.1, fun x hx => P.2.2 x (q.mem_iff.mp hx)⟩
theorem erase_perm {α : Type} : ∀ (L : List α) (i : Nat) (h : i < L.length), (L[i] :: L.eraseIdx i).Perm L
  | [], _, h => absurd h (Nat.not_lt_zero _)
  | _ :: _, 0, _ => List.Perm.refl _
  | a :: l, i + 1, h => by
    have hl : i < l.length := Nat.lt_of_succ_lt_succ h
    show (l[i] :: a :: l.eraseIdx i).Perm (a :: l)
    exact (List.Perm.swap _ _ _).trans ((erase_perm l i hl).cons a)
theorem front_perm {α : Type} (L : List α) (i : Nat) : (front L i).Perm L := by
  unfold front
  cases hx : L[i]? with
  | none => exact List.Perm.refl _
  | some x =>
    obtain ⟨hl, rfl⟩ := List.getElem?_eq_some_iff.mp hx
    exact erase_perm L i hl
theorem Hp.front (P : Hp Z n0 h L) (i : Nat) : Hp Z n0 h (front L i) := P.perm (front_perm L i)
theorem Hp.tail {x : Addr × Desc} (P : Hp Z n0 h (x :: L)) : Hp Z n0 h L := ⟨P.1, (List.nodup_cons.mp P.2.1).2, fun z hz => P.2.2 z (List.mem_cons_of_mem _ hz)⟩
theorem Hp.ext (P : Hp Z n0 h L) (E : Ext h h') : Hp Z n0 h' L := ⟨P.1.ext E, P.2.1, fun x hx => ⟨(P.2.2 _ hx).1, (P.2.2 _ hx).2.ext E⟩⟩
theorem Hp.nil (P : Hp Z n0 h L) : Hp Z n0 h [] := ⟨P.1, List.nodup_nil, fun z hz => nomatch hz⟩
theorem Hp.start (s : State) : Hp s s.heap.size s.heap [] := ⟨Old.start s, List.nodup_nil, fun z hz => nomatch hz⟩
theorem Hp.sto {y : Addr} {fs : List FD} (P : Hp Z n0 h L) (hi : L[i]? = some (a, .inr (.object K, ad, vs))) (hj : L[j]? = some (y, .inl (K, fs))) : Sto Z h a (.ref y) := by
  obtain ⟨-, c, h2, -, -, -, h6⟩ := P.is hi
  exact Sto.of h2 (h6 K rfl) (Ins.self (P.exa hj))
theorem Hp.stoI {y : Addr} (P : Hp Z n0 h L) (hi : L[i]? = some (a, .inr (.object K, ad, vs))) (I : Ins Z h y K true) : Sto Z h a (.ref y) := by
  obtain ⟨-, c, h2, -, -, -, h6⟩ := P.is hi
  exact Sto.of h2 (h6 K rfl) I
theorem inb {c : Cell} {j : Int32} (hc : c.slots = vs.toArray) (hj : ¬ j < 0) (hv : vs[j.toNatClampNeg]? = some v) : ¬ (j < 0 ∨ c.slots.size ≤ j.toNatClampNeg) := by
  have := (List.getElem?_eq_some_iff.mp hv).1
  rw [hc]; simp; exact ⟨by simpa using Int32.not_lt.mp hj, this⟩
theorem inb' {c : Cell} {j : Int32} (hc : c.slots = vs.toArray) (hj : ¬ j < 0) (hv : j.toNatClampNeg < vs.length) : ¬ (j < 0 ∨ c.slots.size ≤ j.toNatClampNeg) := by
  rw [hc]; simp; exact ⟨by simpa using Int32.not_lt.mp hj, hv⟩
end Hp
section WalkHp
variable {wd : Bool} {K₀ : State → Prop} {l : Launch} {Z : State} {R : Room} {y : MethodName} {bytes : ByteArray} {ml : Nat} {ret : Option FieldType} {n0 kc ks : Nat} {Q : Option Value → Heap → Prop} {h : Heap} {k n pc pc' tg : Nat} {ls : List Slot} {st : List Value} {a0 : Array Value} {L : List (Addr × Desc)} {i j : Nat} {K ad O nm d R0 host : String} {fs : List FD} {vs : List Value} {a : Addr} {ty : FieldType} {v old : Value}
theorem go_get {idx : Nat} (P : Hp Z n0 h L) (i j : Nat) (D : Dc bytes pc (.getfield idx) 3 pc') (hi : L[i]? = some (a, .inl (K, fs))) (hj : fs[j]? = some ((O, nm, d), v)) (w : (Cond.fieldLink y.cls idx O nm d).before a0 Z = true) (G : Go wd K₀ l Z R y bytes ml ret n0 kc ks Q h k n pc' ls (v :: st)) : Go wd K₀ l Z R y bytes ml ret n0 kc ks Q h k n pc ls (.ref a :: st) :=
  go_getF (host := "") D (Or.inl w) Via.refl (P.fld hi hj) G
theorem go_getN {idx : Nat} (P : Hp Z n0 h L) (i j : Nat) (D : Dc bytes pc (.getfield idx) 3 pc') (hi : L[i]? = some (a, .inl (K, fs))) (hj : fs[j]? = some ((O, nm, d), v)) (w : (Cond.fieldLinkNest y.cls idx O nm d host).before a0 Z = true) (G : Go wd K₀ l Z R y bytes ml ret n0 kc ks Q h k n pc' ls (v :: st)) : Go wd K₀ l Z R y bytes ml ret n0 kc ks Q h k n pc ls (.ref a :: st) :=
  go_getF (host := host) D (Or.inr w) Via.refl (P.fld hi hj) G
theorem go_put {idx kk : Nat} (P : Hp Z n0 h L) (i j : Nat) (ty : FieldType) (D : Dc bytes pc (.putfield idx) 3 pc') (hi : L[i]? = some (a, .inl (K, fs))) (hj : fs[j]? = some ((O, nm, d), old)) (w : (Cond.fieldLink y.cls idx O nm d).before a0 Z = true)
    (Lw : (Cond.lays K O nm d).before a0 Z = true ∨ ((Cond.laysFinal K O nm d).before a0 Z = true ∧ y.cls = O ∧ y.name = "<init>")) (wi : (Cond.instantiable K kk).before a0 Z = true) (hty : parseFieldDescriptor d = some ty) (hnr : narrow ty v = v) (hfi : fits ty v = true)
    (G : ∀ h', Hp Z n0 h' (lupd L i (a, .inl (K, lupd fs j ((O, nm, d), v)))) → Go wd K₀ l Z R y bytes ml ret n0 kc ks Q h' k n pc' ls st) : Go wd K₀ l Z R y bytes ml ret n0 kc ks Q h k n pc ls (v :: .ref a :: st) :=
  go_putF (host := "") D (Or.inl w) Via.refl (P.fld hi hj) (P.exa hi) Lw wi hty hnr hfi (P.ge hi) fun h' W => G h' (P.put hi hj W)
theorem go_new {idx sl : Nat} (P : Hp Z n0 h L) (fs : List FD) (D : Dc bytes pc (.new idx) 3 pc') (w : (Cond.classLink y.cls idx K).before a0 Z = true) (wi : (Cond.instantiable K sl).before a0 Z = true) (wz : (Cond.initialized K).before a0 Z = true) (Ld : LaysD Z a0 K fs) (nd : (fs.map fun f => f.1.2.1).Nodup) (hk : k + 1 ≤ R.cells) (hn : n + sl ≤ R.slots)
    (G : ∀ h' a, Hp Z n0 h' ((a, .inl (K, fs)) :: L) → Go wd K₀ l Z R y bytes ml ret n0 kc ks Q h' (k + 1) (n + sl) pc' ls (.ref a :: st)) : Go wd K₀ l Z R y bytes ml ret n0 kc ks Q h k n pc ls st :=
  go_newO D w wi wz hk hn fun h' E A F => G h' h.size (P.new E A F Ld nd)
theorem go_newarr {aty : ArrayType} {z : Int32} (P : Hp Z n0 h L) (ad : String) (vs : List Value) (cap : Nat) (D : Dc bytes pc (.newarray aty) 2 pc') (w : (Cond.arrayClass (newarray.typeOf aty)).before a0 Z = true) (hz : ¬ z < 0) (hcap : z.toNatClampNeg ≤ cap) (hb8 : cap * 8 ≤ 536870912) (had : "[" ++ (newarray.typeOf aty).toString = ad) (hty : newarray.typeOf aty = ty) (hvs : List.replicate z.toNatClampNeg (defaultValue ty) = vs) (hk : k + 1 ≤ R.cells) (hn : n + cap ≤ R.slots)
    (G : ∀ h' a, Hp Z n0 h' ((a, .inr (ty, ad, vs)) :: L) → Go wd K₀ l Z R y bytes ml ret n0 kc ks Q h' (k + 1) (n + cap) pc' ls (.ref a :: st)) : Go wd K₀ l Z R y bytes ml ret n0 kc ks Q h k n pc ls (.int z :: st) :=
  go_newP D w hz cap hcap hb8 hk hn had fun h' cA E A X => G h' h.size (P.newA E (hty ▸ A) X (fun K q => by subst hty; cases aty <;> cases q) hvs hz)
theorem go_newobjarr {idx : Nat} {z : Int32} (P : Hp Z n0 h L) (ad : String) (vs : List Value) (cap : Nat) (D : Dc bytes pc (.anewarray idx) 3 pc') (w1 : (Cond.classLink y.cls idx K).before a0 Z = true) (w2 : (Cond.arrayOver (.object K)).before a0 Z = true) (hz : ¬ z < 0) (hcap : z.toNatClampNeg ≤ cap) (hb8 : cap * 8 ≤ 536870912) (had : "[" ++ (FieldType.object K).toString = ad) (hvs : List.replicate z.toNatClampNeg Value.null = vs) (hk : k + 1 ≤ R.cells) (hn : n + cap ≤ R.slots)
    (G : ∀ h' a, Hp Z n0 h' ((a, .inr (.object K, ad, vs)) :: L) → Go wd K₀ l Z R y bytes ml ret n0 kc ks Q h' (k + 1) (n + cap) pc' ls (.ref a :: st)) : Go wd K₀ l Z R y bytes ml ret n0 kc ks Q h k n pc ls (.int z :: st) :=
  go_newR D w1 w2 hz cap hcap hb8 hk hn had fun h' cA E A X O => G h' h.size (P.newA E A X (fun K' q => by cases q; exact O) hvs hz)
theorem go_alen {z : Int32} (P : Hp Z n0 h L) (i : Nat) (D : Dc bytes pc .arraylength 1 pc') (hi : L[i]? = some (a, .inr (ty, ad, vs))) (hz : vs.length.toInt32 = z) (G : Go wd K₀ l Z R y bytes ml ret n0 kc ks Q h k n pc' ls (.int z :: st)) : Go wd K₀ l Z R y bytes ml ret n0 kc ks Q h k n pc ls (.ref a :: st) := by
  obtain ⟨-, c, h2, h3, -⟩ := P.is hi
  exact go_len D h2 (by rw [h3]; simpa using hz) G
theorem go_ialoadH {q : Int32} (P : Hp Z n0 h L) (i : Nat) (D : Dc bytes pc .iaload 1 pc') (hi : L[i]? = some (a, .inr (.int, ad, vs))) (hq : ¬ q < 0) (hv : vs[q.toNatClampNeg]? = some v) (G : Go wd K₀ l Z R y bytes ml ret n0 kc ks Q h k n pc' ls (v :: st)) : Go wd K₀ l Z R y bytes ml ret n0 kc ks Q h k n pc ls (.int q :: .ref a :: st) := by
  obtain ⟨-, c, h2, h3, -⟩ := P.is hi
  exact go_iaload D h2 (inb h3 hq hv) (by rw [h3]; simpa using hv) G
theorem go_caloadH {q : Int32} (P : Hp Z n0 h L) (i : Nat) (D : Dc bytes pc .caload 1 pc') (hi : L[i]? = some (a, .inr (.char, ad, vs))) (hq : ¬ q < 0) (hv : vs[q.toNatClampNeg]? = some v) (G : Go wd K₀ l Z R y bytes ml ret n0 kc ks Q h k n pc' ls (v :: st)) : Go wd K₀ l Z R y bytes ml ret n0 kc ks Q h k n pc ls (.int q :: .ref a :: st) := by
  obtain ⟨-, c, h2, h3, -⟩ := P.is hi
  exact go_caload D h2 (inb h3 hq hv) (by rw [h3]; simpa using hv) G
theorem go_baloadH {q : Int32} (P : Hp Z n0 h L) (i : Nat) (D : Dc bytes pc .baload 1 pc') (hi : L[i]? = some (a, .inr (.byte, ad, vs))) (hq : ¬ q < 0) (hv : vs[q.toNatClampNeg]? = some v) (G : Go wd K₀ l Z R y bytes ml ret n0 kc ks Q h k n pc' ls (v :: st)) : Go wd K₀ l Z R y bytes ml ret n0 kc ks Q h k n pc ls (.int q :: .ref a :: st) := by
  obtain ⟨-, c, h2, h3, -⟩ := P.is hi
  exact go_baload D h2 (inb h3 hq hv) (by rw [h3]; simpa using hv) G
theorem go_laloadH {q : Int32} (P : Hp Z n0 h L) (i : Nat) (D : Dc bytes pc .laload 1 pc') (hi : L[i]? = some (a, .inr (.long, ad, vs))) (hq : ¬ q < 0) (hv : vs[q.toNatClampNeg]? = some v) (G : Go wd K₀ l Z R y bytes ml ret n0 kc ks Q h k n pc' ls (v :: st)) : Go wd K₀ l Z R y bytes ml ret n0 kc ks Q h k n pc ls (.int q :: .ref a :: st) := by
  obtain ⟨-, c, h2, h3, -⟩ := P.is hi
  exact go_laload D h2 (inb h3 hq hv) (by rw [h3]; simpa using hv) G
theorem go_aaloadH {q : Int32} (P : Hp Z n0 h L) (i : Nat) (D : Dc bytes pc .aaload 1 pc') (hi : L[i]? = some (a, .inr (ty, ad, vs))) (hty : ty.isReference = true) (hq : ¬ q < 0) (hv : vs[q.toNatClampNeg]? = some v) (G : Go wd K₀ l Z R y bytes ml ret n0 kc ks Q h k n pc' ls (v :: st)) : Go wd K₀ l Z R y bytes ml ret n0 kc ks Q h k n pc ls (.int q :: .ref a :: st) := by
  obtain ⟨-, c, h2, h3, -⟩ := P.is hi
  exact go_aaload D h2 hty (inb h3 hq hv) (by rw [h3]; simpa using hv) G
theorem go_iastoreH {q : Int32} {x : Int32} (P : Hp Z n0 h L) (i : Nat) (D : Dc bytes pc .iastore 1 pc') (hi : L[i]? = some (a, .inr (.int, ad, vs))) (hq : ¬ q < 0) (hv : q.toNatClampNeg < vs.length) (G : ∀ h', Hp Z n0 h' (lupd L i (a, .inr (.int, ad, lupd vs q.toNatClampNeg (.int x)))) → Go wd K₀ l Z R y bytes ml ret n0 kc ks Q h' k n pc' ls st) : Go wd K₀ l Z R y bytes ml ret n0 kc ks Q h k n pc ls (.int x :: .int q :: .ref a :: st) := by
  obtain ⟨-, c, h2, h3, -⟩ := P.is hi
  exact go_iastore D h2 (inb' h3 hq hv) (P.ge hi) fun h' W => G h' (P.aput hi rfl W)
theorem go_lastoreH {q : Int32} {x : Int64} (P : Hp Z n0 h L) (i : Nat) (D : Dc bytes pc .lastore 1 pc') (hi : L[i]? = some (a, .inr (.long, ad, vs))) (hq : ¬ q < 0) (hv : q.toNatClampNeg < vs.length) (G : ∀ h', Hp Z n0 h' (lupd L i (a, .inr (.long, ad, lupd vs q.toNatClampNeg (.long x)))) → Go wd K₀ l Z R y bytes ml ret n0 kc ks Q h' k n pc' ls st) : Go wd K₀ l Z R y bytes ml ret n0 kc ks Q h k n pc ls (.long x :: .int q :: .ref a :: st) := by
  obtain ⟨-, c, h2, h3, -⟩ := P.is hi
  exact go_lastore D h2 (inb' h3 hq hv) (P.ge hi) fun h' W => G h' (P.aput hi rfl W)
theorem go_castoreH {q : Int32} {x : Int32} (P : Hp Z n0 h L) (i : Nat) (D : Dc bytes pc .castore 1 pc') (hi : L[i]? = some (a, .inr (.char, ad, vs))) (hq : ¬ q < 0) (hv : q.toNatClampNeg < vs.length) (G : ∀ h', Hp Z n0 h' (lupd L i (a, .inr (.char, ad, lupd vs q.toNatClampNeg (.int (nar .char x))))) → Go wd K₀ l Z R y bytes ml ret n0 kc ks Q h' k n pc' ls st) : Go wd K₀ l Z R y bytes ml ret n0 kc ks Q h k n pc ls (.int x :: .int q :: .ref a :: st) := by
  obtain ⟨-, c, h2, h3, -⟩ := P.is hi
  exact go_castore D h2 (inb' h3 hq hv) (P.ge hi) fun h' W => G h' (P.aput hi (fits_nar_char x) W)
theorem go_bastoreH {q : Int32} {x : Int32} (P : Hp Z n0 h L) (i : Nat) (D : Dc bytes pc .bastore 1 pc') (hi : L[i]? = some (a, .inr (.byte, ad, vs))) (hq : ¬ q < 0) (hv : q.toNatClampNeg < vs.length) (G : ∀ h', Hp Z n0 h' (lupd L i (a, .inr (.byte, ad, lupd vs q.toNatClampNeg (.int (nar .byte x))))) → Go wd K₀ l Z R y bytes ml ret n0 kc ks Q h' k n pc' ls st) : Go wd K₀ l Z R y bytes ml ret n0 kc ks Q h k n pc ls (.int x :: .int q :: .ref a :: st) := by
  obtain ⟨-, c, h2, h3, -⟩ := P.is hi
  exact go_bastore D h2 (inb' h3 hq hv) (P.ge hi) fun h' W => G h' (P.aput hi (fits_nar_byte x) W)
theorem go_zastoreH {q : Int32} {x : Int32} (P : Hp Z n0 h L) (i : Nat) (D : Dc bytes pc .bastore 1 pc') (hi : L[i]? = some (a, .inr (.boolean, ad, vs))) (hq : ¬ q < 0) (hv : q.toNatClampNeg < vs.length) (G : ∀ h', Hp Z n0 h' (lupd L i (a, .inr (.boolean, ad, lupd vs q.toNatClampNeg (.int (nar .boolean x))))) → Go wd K₀ l Z R y bytes ml ret n0 kc ks Q h' k n pc' ls st) : Go wd K₀ l Z R y bytes ml ret n0 kc ks Q h k n pc ls (.int x :: .int q :: .ref a :: st) := by
  obtain ⟨-, c, h2, h3, -⟩ := P.is hi
  exact go_zastore D h2 (inb' h3 hq hv) (P.ge hi) fun h' W => G h' (P.aput hi (fits_nar_bool x) W)
theorem go_clone {idx W : Nat} (P : Hp Z n0 h L) (i : Nat) (cap : Nat) (D : Dc bytes pc (.invokevirtual idx) 3 pc') (hi : L[i]? = some (a, .inr (ty, ad, vs)))
    (w1 : (Cond.methodLink y.cls idx ⟨ad, "clone", "()Ljava/lang/Object;"⟩).before a0 Z = true) (w2 : (Cond.sameMethod ad "java/lang/Object" "clone" "()Ljava/lang/Object;").before a0 Z = true) (w3 : (Cond.native ⟨"java/lang/Object", "clone", "()Ljava/lang/Object;"⟩).before a0 Z = true)
    (w4 : (Cond.instanceMethod ⟨"java/lang/Object", "clone", "()Ljava/lang/Object;"⟩).before a0 Z = true) (w5 : (Cond.selects ad ⟨ad, "clone", "()Ljava/lang/Object;"⟩ ⟨"java/lang/Object", "clone", "()Ljava/lang/Object;"⟩).before a0 Z = true) (w6 : (Cond.castable ad "java/lang/Cloneable").before a0 Z = true)
    (hlen : vs.length ≤ cap) (hls : ls.length = ml) (hf : 1 ≤ R.frames) (hW : (st.map fun v => v.category).sum = W) (hlo : W + 14 ≤ R.locals) (hk : k + 1 ≤ R.cells) (hn : n + cap ≤ R.slots)
    (G : ∀ h' b, Hp Z n0 h' ((b, .inr (ty, ad, vs)) :: L) → Go wd K₀ l Z R y bytes ml ret n0 kc ks Q h' (k + 1) (n + cap) pc' ls (.ref b :: st)) : Go wd K₀ l Z R y bytes ml ret n0 kc ks Q h k n pc ls (.ref a :: st) := by
  obtain ⟨E, cl, A, hs, hl31, hfit, hov⟩ := P.is hi
  intro p e s0 s m args below meth c T L' Bs C X hh N
  obtain ⟨hd, rfl⟩ := D
  have FC : FitC Z cl := fitC_of A fun q hq v hv => hfit v (by rw [hs] at hv; exact List.mem_of_getElem? (by simpa using hv))
  obtain ⟨T', h', X', e', ex, A', E', st'⟩ := cloneA X C.1 C.2.2.2.2.1 C.2.2.2.1 w1 w2 w3 w4 w5 w6 hh A E FC (g := mkF m pc ls.toArray (.ref a :: st)) rfl (by rw [C.2.2.1]; simpa using hls) rfl (hb C.2.1 hd) hf (W := W) (cap := cap) (by show 2 * 0 + _ ≤ W; rw [← hW]; omega) hlo (by rw [hs]; simpa using hlen) hk hn
  exact (G h' h.size (P.grow ex ⟨E', cloneOf cl, A', hs, hl31, hfit, hov⟩) p e s0 s m args below meth c T' L' (Bs.mono ex.1) C X' e' N).pre st'
def Dts (bytes : ByteArray) (pc : Nat) (x : Int32) (tg : Nat) : Prop := ∃ (d lo hi : Int) (offs : Array Int) (len : Nat) (o : Int), decode bytes pc = .ok (.tableswitch d lo hi offs, len) ∧ ¬ (x.toInt < lo ∨ x.toInt > hi) ∧ offs[(x.toInt - lo).toNat]? = some o ∧ 0 ≤ (pc : Int) + o ∧ ((pc : Int) + o).toNat = tg
def Dlk (bytes : ByteArray) (pc : Nat) (x : Int32) (tg : Nat) : Prop := ∃ (d : Int) (prs : Array (Int × Int)) (len : Nat), decode bytes pc = .ok (.lookupswitch d prs, len) ∧ (prs.toList.zip (prs.toList.drop 1)).all (fun (a, next) => a.1 < next.1) = true ∧ 0 ≤ (pc : Int) + lookupswitch.offset prs.toList d x.toInt ∧ ((pc : Int) + lookupswitch.offset prs.toList d x.toInt).toNat = tg
theorem lswX {tb : Tables} [Ours tb] {e : Env} {below : List Frame} {T target : State} {m : MethodId} {c : Code} {g : JFrame} (h : At T m c below) (hx : tb.exec = Jvm.exec) (hg : g.method = m) {d : Int} {prs : Array (Int × Int)} {len : Nat} {pc0 pc' : Nat} (hpc : g.pc = pc0) (hd : decode c.code g.pc = .ok (.lookupswitch d prs, len)) {i : Int32} {rest : List Value} (hs : g.stack = .int i :: rest)
    (hor : (prs.toList.zip (prs.toList.drop 1)).all (fun (a, next) => a.1 < next.1) = true) (ho : 0 ≤ (pc0 : Int) + lookupswitch.offset prs.toList d i.toInt) (hp : ((pc0 : Int) + lookupswitch.offset prs.toList d i.toInt).toNat = pc')
    (hr : Steps tb e below (T.setTop { g with pc := pc', stack := rest }) target) : Steps tb e below (T.setTop g) target := by
  subst hg hpc hp
  jvm_step h [h.top, hx, hd, hs, hor, ho, lookupswitch.wp_chain]
  exact ⟨by simpa using hor, hr⟩
theorem go_tsw {x : Int32} (D : Dts bytes pc x tg) (G : Go wd K₀ l Z R y bytes ml ret n0 kc ks Q h k n tg ls st) : Go wd K₀ l Z R y bytes ml ret n0 kc ks Q h k n pc ls (.int x :: st) := by
  obtain ⟨d, lo, hi, offs, len, o, hd, h1, h2, h3, h4⟩ := D
  exact go_pure G (fun C X t => XS.tswIn X.here C.1 (g := mkF _ pc ls.toArray (.int x :: st)) rfl (pc0 := pc) rfl (hb C.2.1 hd) rfl h1 h2 h3 h4)
theorem go_lsw {x : Int32} (D : Dlk bytes pc x tg) (G : Go wd K₀ l Z R y bytes ml ret n0 kc ks Q h k n tg ls st) : Go wd K₀ l Z R y bytes ml ret n0 kc ks Q h k n pc ls (.int x :: st) := by
  obtain ⟨d, prs, len, hd, h1, h3, h4⟩ := D
  exact go_pure G (fun C X t => lswX X.here C.1 (g := mkF _ pc ls.toArray (.int x :: st)) rfl (pc0 := pc) rfl (hb C.2.1 hd) rfl h1 h3 h4)
theorem Hp.insA {i : Nat} (P : Hp Z n0 h L) (hi : L[i]? = some (a, .inr (ty, ad, vs))) : Ins Z h a ad true := Ins.self (P.exaA hi)
theorem go_aastoreH {q : Int32} (P : Hp Z n0 h L) (i : Nat) (D : Dc bytes pc .aastore 1 pc') (hi : L[i]? = some (a, .inr (ty, ad, vs))) (hty : ty.isReference = true) (hf : fits ty v = true) (hq : ¬ q < 0) (hv : q.toNatClampNeg < vs.length) (F : Sto Z h a v) (G : ∀ h', Hp Z n0 h' (lupd L i (a, .inr (ty, ad, lupd vs q.toNatClampNeg v))) → Go wd K₀ l Z R y bytes ml ret n0 kc ks Q h' k n pc' ls st) : Go wd K₀ l Z R y bytes ml ret n0 kc ks Q h k n pc ls (v :: .int q :: .ref a :: st) := by
  obtain ⟨-, c, h2, h3, -⟩ := P.is hi
  exact go_aastore D h2 (inb' h3 hq hv) hty F (P.ge hi) fun h' W => G h' (P.aput hi hf W)
end WalkHp
end Jvm.OwnGo
namespace Jvm.Pilot.@@N@@
open Jvm Jvm.ClassFile Sem Op Lib Jvm.Free Jvm.Stand Jvm.LawKit Jvm.RoadKit Bundle Jvm.OwnGo Jvm.Pilot.@@N@@.Jvm.D
theorem t0 {Z : State} {a0 : Array Value} (hw : ∀ d ∈ tables_1, d.before a0 Z = true) : (Jvm.Cond.constant "com/example/bouncr/bouncr/PathPatternMayMatchPinLaw" (7 : Nat) (2147483647 : Int32)).before a0 Z = true := hw _ (List.mem_of_getElem? (i := 0) rfl)
theorem t1 {Z : State} {a0 : Array Value} (hw : ∀ d ∈ tables_1, d.before a0 Z = true) : (Jvm.Cond.methodLink "com/example/bouncr/bouncr/PathPatternMayMatchPinLaw" (8 : Nat) ({ cls := "com/example/bouncr/bouncr/PathPatternMayMatchPinLaw", name := "put", desc := "(JII)J" } : Jvm.MethodName)).before a0 Z = true := hw _ (List.mem_of_getElem? (i := 1) rfl)
theorem t2 {Z : State} {a0 : Array Value} (hw : ∀ d ∈ tables_1, d.before a0 Z = true) : (Jvm.Cond.static ({ cls := "com/example/bouncr/bouncr/PathPatternMayMatchPinLaw", name := "put", desc := "(JII)J" } : Jvm.MethodName)).before a0 Z = true := hw _ (List.mem_of_getElem? (i := 2) rfl)
theorem t3 {Z : State} {a0 : Array Value} (hw : ∀ d ∈ tables_1, d.before a0 Z = true) : (Jvm.Cond.initialized "com/example/bouncr/bouncr/PathPatternMayMatchPinLaw").before a0 Z = true := hw _ (List.mem_of_getElem? (i := 3) rfl)
theorem t4 {Z : State} {a0 : Array Value} (hw : ∀ d ∈ tables_1, d.before a0 Z = true) : (Jvm.Cond.code ({ cls := "com/example/bouncr/bouncr/PathPatternMayMatchPinLaw", name := "put", desc := "(JII)J" } : Jvm.MethodName) method_4_code (4 : Nat) (Option.some Jvm.ClassFile.FieldType.long)).before a0 Z = true := hw _ (List.mem_of_getElem? (i := 4) rfl)
theorem t5 {Z : State} {a0 : Array Value} (hw : ∀ d ∈ tables_1, d.before a0 Z = true) : (Jvm.Cond.methodLink "com/example/bouncr/bouncr/PathPatternMayMatchPinLaw" (27 : Nat) ({ cls := "com/example/bouncr/bouncr/PathPatternMayMatchPinLaw", name := "oct", desc := "(JI)I" } : Jvm.MethodName)).before a0 Z = true := hw _ (List.mem_of_getElem? (i := 5) rfl)
theorem t6 {Z : State} {a0 : Array Value} (hw : ∀ d ∈ tables_1, d.before a0 Z = true) : (Jvm.Cond.static ({ cls := "com/example/bouncr/bouncr/PathPatternMayMatchPinLaw", name := "oct", desc := "(JI)I" } : Jvm.MethodName)).before a0 Z = true := hw _ (List.mem_of_getElem? (i := 6) rfl)
theorem t7 {Z : State} {a0 : Array Value} (hw : ∀ d ∈ tables_1, d.before a0 Z = true) : (Jvm.Cond.code ({ cls := "com/example/bouncr/bouncr/PathPatternMayMatchPinLaw", name := "oct", desc := "(JI)I" } : Jvm.MethodName) method_3_code (3 : Nat) (Option.some Jvm.ClassFile.FieldType.int)).before a0 Z = true := hw _ (List.mem_of_getElem? (i := 7) rfl)
theorem t8 {Z : State} {a0 : Array Value} (hw : ∀ d ∈ tables_1, d.before a0 Z = true) : (Jvm.Cond.constantLong "com/example/bouncr/bouncr/PathPatternMayMatchPinLaw" (34 : Nat) (127 : Int64)).before a0 Z = true := hw _ (List.mem_of_getElem? (i := 8) rfl)
theorem t9 {Z : State} {a0 : Array Value} (hw : ∀ d ∈ tables_1, d.before a0 Z = true) : (Jvm.Cond.methodLink "com/example/bouncr/bouncr/PathPatternMayMatchPinLaw" (14 : Nat) ({ cls := "com/example/bouncr/bouncr/PathPattern", name := "mayMatch", desc := "(JJ)Z" } : Jvm.MethodName)).before a0 Z = true := hw _ (List.mem_of_getElem? (i := 9) rfl)
theorem t10 {Z : State} {a0 : Array Value} (hw : ∀ d ∈ tables_1, d.before a0 Z = true) : (Jvm.Cond.static ({ cls := "com/example/bouncr/bouncr/PathPattern", name := "mayMatch", desc := "(JJ)Z" } : Jvm.MethodName)).before a0 Z = true := hw _ (List.mem_of_getElem? (i := 10) rfl)
theorem t11 {Z : State} {a0 : Array Value} (hw : ∀ d ∈ tables_1, d.before a0 Z = true) : (Jvm.Cond.initialized "com/example/bouncr/bouncr/PathPattern").before a0 Z = true := hw _ (List.mem_of_getElem? (i := 11) rfl)
theorem t12 {Z : State} {a0 : Array Value} (hw : ∀ d ∈ tables_1, d.before a0 Z = true) : (Jvm.Cond.code ({ cls := "com/example/bouncr/bouncr/PathPattern", name := "mayMatch", desc := "(JJ)Z" } : Jvm.MethodName) prog_12_method_7_code (4 : Nat) (Option.some Jvm.ClassFile.FieldType.boolean)).before a0 Z = true := hw _ (List.mem_of_getElem? (i := 12) rfl)
theorem t13 {Z : State} {a0 : Array Value} (hw : ∀ d ∈ tables_1, d.before a0 Z = true) : (Jvm.Cond.methodLink "com/example/bouncr/bouncr/PathPattern" (72 : Nat) ({ cls := "java/lang/Long", name := "lowestOneBit", desc := "(J)J" } : Jvm.MethodName)).before a0 Z = true := hw _ (List.mem_of_getElem? (i := 13) rfl)
theorem t14 {Z : State} {a0 : Array Value} (hw : ∀ d ∈ tables_1, d.before a0 Z = true) : (Jvm.Cond.static ({ cls := "java/lang/Long", name := "lowestOneBit", desc := "(J)J" } : Jvm.MethodName)).before a0 Z = true := hw _ (List.mem_of_getElem? (i := 14) rfl)
theorem t15 {Z : State} {a0 : Array Value} (hw : ∀ d ∈ tables_1, d.before a0 Z = true) : (Jvm.Cond.initialized "java/lang/Long").before a0 Z = true := hw _ (List.mem_of_getElem? (i := 15) rfl)
theorem t16 {Z : State} {a0 : Array Value} (hw : ∀ d ∈ tables_1, d.before a0 Z = true) : (Jvm.Cond.code ({ cls := "java/lang/Long", name := "lowestOneBit", desc := "(J)J" } : Jvm.MethodName) jdk_35_method_47_code (2 : Nat) (Option.some Jvm.ClassFile.FieldType.long)).before a0 Z = true := hw _ (List.mem_of_getElem? (i := 16) rfl)
theorem t17 {Z : State} {a0 : Array Value} (hw : ∀ d ∈ tables_1, d.before a0 Z = true) : (Jvm.Cond.methodLink "com/example/bouncr/bouncr/PathPatternMayMatchPinLaw" (20 : Nat) ({ cls := "com/example/bouncr/bouncr/PathPatternMayMatchPinLaw", name := "same", desc := "(JJII)Z" } : Jvm.MethodName)).before a0 Z = true := hw _ (List.mem_of_getElem? (i := 17) rfl)
theorem t18 {Z : State} {a0 : Array Value} (hw : ∀ d ∈ tables_1, d.before a0 Z = true) : (Jvm.Cond.static ({ cls := "com/example/bouncr/bouncr/PathPatternMayMatchPinLaw", name := "same", desc := "(JJII)Z" } : Jvm.MethodName)).before a0 Z = true := hw _ (List.mem_of_getElem? (i := 18) rfl)
theorem t19 {Z : State} {a0 : Array Value} (hw : ∀ d ∈ tables_1, d.before a0 Z = true) : (Jvm.Cond.code ({ cls := "com/example/bouncr/bouncr/PathPatternMayMatchPinLaw", name := "same", desc := "(JJII)Z" } : Jvm.MethodName) method_6_code (6 : Nat) (Option.some Jvm.ClassFile.FieldType.boolean)).before a0 Z = true := hw _ (List.mem_of_getElem? (i := 19) rfl)
theorem t20 {Z : State} {a0 : Array Value} (hw : ∀ d ∈ tables_1, d.before a0 Z = true) : (Jvm.Cond.methodLink "com/example/bouncr/bouncr/PathPatternMayMatchPinLaw" (31 : Nat) ({ cls := "com/example/bouncr/bouncr/PathPatternMayMatchPinLaw", name := "pb", desc := "(JI)I" } : Jvm.MethodName)).before a0 Z = true := hw _ (List.mem_of_getElem? (i := 20) rfl)
theorem t21 {Z : State} {a0 : Array Value} (hw : ∀ d ∈ tables_1, d.before a0 Z = true) : (Jvm.Cond.static ({ cls := "com/example/bouncr/bouncr/PathPatternMayMatchPinLaw", name := "pb", desc := "(JI)I" } : Jvm.MethodName)).before a0 Z = true := hw _ (List.mem_of_getElem? (i := 21) rfl)
theorem t22 {Z : State} {a0 : Array Value} (hw : ∀ d ∈ tables_1, d.before a0 Z = true) : (Jvm.Cond.code ({ cls := "com/example/bouncr/bouncr/PathPatternMayMatchPinLaw", name := "pb", desc := "(JI)I" } : Jvm.MethodName) method_5_code (3 : Nat) (Option.some Jvm.ClassFile.FieldType.int)).before a0 Z = true := hw _ (List.mem_of_getElem? (i := 22) rfl)
theorem t23 {Z : State} {a0 : Array Value} (hw : ∀ d ∈ tables_1, d.before a0 Z = true) : (Jvm.Cond.constantLong "com/example/bouncr/bouncr/PathPatternMayMatchPinLaw" (36 : Nat) (255 : Int64)).before a0 Z = true := hw _ (List.mem_of_getElem? (i := 23) rfl)
theorem t24 {Z : State} {a0 : Array Value} (hw : ∀ d ∈ tables_1, d.before a0 Z = true) : (Jvm.Cond.methodLink "com/example/bouncr/bouncr/PathPatternMayMatchPinLaw" (24 : Nat) ({ cls := "com/example/bouncr/bouncr/PathPatternMayMatchPinLaw", name := "earlier", desc := "(JJII)Z" } : Jvm.MethodName)).before a0 Z = true := hw _ (List.mem_of_getElem? (i := 24) rfl)
theorem t25 {Z : State} {a0 : Array Value} (hw : ∀ d ∈ tables_1, d.before a0 Z = true) : (Jvm.Cond.static ({ cls := "com/example/bouncr/bouncr/PathPatternMayMatchPinLaw", name := "earlier", desc := "(JJII)Z" } : Jvm.MethodName)).before a0 Z = true := hw _ (List.mem_of_getElem? (i := 25) rfl)
theorem t26 {Z : State} {a0 : Array Value} (hw : ∀ d ∈ tables_1, d.before a0 Z = true) : (Jvm.Cond.code ({ cls := "com/example/bouncr/bouncr/PathPatternMayMatchPinLaw", name := "earlier", desc := "(JJII)Z" } : Jvm.MethodName) method_7_code (6 : Nat) (Option.some Jvm.ClassFile.FieldType.boolean)).before a0 Z = true := hw _ (List.mem_of_getElem? (i := 26) rfl)
theorem pd0 : parseMethodDescriptor "(JI)I" = some ⟨[.long, .int], some .int⟩ := by decide +kernel
theorem pd1 : parseMethodDescriptor "(J)J" = some ⟨[.long], some .long⟩ := by decide +kernel
theorem pd2 : parseMethodDescriptor "(JII)J" = some ⟨[.long, .int, .int], some .long⟩ := by decide +kernel
theorem pd3 : parseMethodDescriptor "(JJ)Z" = some ⟨[.long, .long], some .boolean⟩ := by decide +kernel
theorem pd4 : parseMethodDescriptor "(JJII)Z" = some ⟨[.long, .long, .int, .int], some .boolean⟩ := by decide +kernel
theorem pn0 : plainName "com/example/bouncr/bouncr/PathPatternMayMatchPinLaw" = true := by first | (simp [plainName, overriddenIn]; done) | decide +kernel
theorem pn1 : plainName "java/lang/Long" = true := by first | (simp [plainName, overriddenIn]; done) | decide +kernel
theorem pn2 : plainName "com/example/bouncr/bouncr/PathPattern" = true := by first | (simp [plainName, overriddenIn]; done) | decide +kernel
theorem c2_0 : Dll method_3_code 0 0 1 := Or.inr ⟨0, (by decide +kernel), rfl, rfl⟩
theorem c2_1 : Dp method_3_code 1 8 3 := Or.inr (Or.inl ⟨8, (by decide +kernel), by decide, rfl⟩)
theorem c2_3 : Dp method_3_code 3 7 5 := Or.inr (Or.inl ⟨7, (by decide +kernel), by decide, rfl⟩)
theorem c2_5 : Dil method_3_code 5 2 6 := Or.inr ⟨2, (by decide +kernel), rfl, rfl⟩
theorem c2_6 : Dc method_3_code 6 .isub 1 7 := ⟨(by decide +kernel), rfl⟩
theorem c2_7 : Dc method_3_code 7 .imul 1 8 := ⟨(by decide +kernel), rfl⟩
theorem c2_8 : Dc method_3_code 8 .lushr 1 9 := ⟨(by decide +kernel), rfl⟩
theorem c2_9 : Dc method_3_code 9 (.ldc2_w 34) 3 12 := ⟨(by decide +kernel), rfl⟩
theorem c2_12 : Dc method_3_code 12 .land 1 13 := ⟨(by decide +kernel), rfl⟩
theorem c2_13 : Dc method_3_code 13 .l2i 1 14 := ⟨(by decide +kernel), rfl⟩
theorem c2_14 : Dp method_3_code 14 127 16 := Or.inr (Or.inl ⟨127, (by decide +kernel), by decide, rfl⟩)
theorem c2_16 : Dc method_3_code 16 .irem 1 17 := ⟨(by decide +kernel), rfl⟩
theorem c2_17 : Dp method_3_code 17 1 18 := Or.inl ⟨1, (by decide +kernel), by decide, rfl⟩
theorem c2_18 : Dc method_3_code 18 .iadd 1 19 := ⟨(by decide +kernel), rfl⟩
theorem c2_19 : Dc method_3_code 19 .ireturn 1 20 := ⟨(by decide +kernel), rfl⟩
theorem c6_0 : Dll method_5_code 0 0 1 := Or.inr ⟨0, (by decide +kernel), rfl, rfl⟩
theorem c6_1 : Dp method_5_code 1 8 3 := Or.inr (Or.inl ⟨8, (by decide +kernel), by decide, rfl⟩)
theorem c6_3 : Dp method_5_code 3 7 5 := Or.inr (Or.inl ⟨7, (by decide +kernel), by decide, rfl⟩)
theorem c6_5 : Dil method_5_code 5 2 6 := Or.inr ⟨2, (by decide +kernel), rfl, rfl⟩
theorem c6_6 : Dc method_5_code 6 .isub 1 7 := ⟨(by decide +kernel), rfl⟩
theorem c6_7 : Dc method_5_code 7 .imul 1 8 := ⟨(by decide +kernel), rfl⟩
theorem c6_8 : Dc method_5_code 8 .lushr 1 9 := ⟨(by decide +kernel), rfl⟩
theorem c6_9 : Dc method_5_code 9 (.ldc2_w 36) 3 12 := ⟨(by decide +kernel), rfl⟩
theorem c6_12 : Dc method_5_code 12 .land 1 13 := ⟨(by decide +kernel), rfl⟩
theorem c6_13 : Dc method_5_code 13 .l2i 1 14 := ⟨(by decide +kernel), rfl⟩
theorem c6_14 : Dc method_5_code 14 .ireturn 1 15 := ⟨(by decide +kernel), rfl⟩
theorem c1_0 : Dil method_4_code 0 3 1 := Or.inr ⟨3, (by decide +kernel), rfl, rfl⟩
theorem c1_1 : Dil method_4_code 1 2 2 := Or.inr ⟨2, (by decide +kernel), rfl, rfl⟩
theorem c1_2 : Db method_4_code 2 (.if_icmp .ge) 5 22 := ⟨20, (by decide +kernel), rfl, by decide, by decide⟩
theorem c1_5 : Dll method_4_code 5 0 6 := Or.inr ⟨0, (by decide +kernel), rfl, rfl⟩
theorem c1_6 : Dil method_4_code 6 3 7 := Or.inr ⟨3, (by decide +kernel), rfl, rfl⟩
theorem c1_7 : Dc method_4_code 7 (.invokestatic 27) 3 10 := ⟨(by decide +kernel), rfl⟩
theorem c1_10 : Dc method_4_code 10 .i2l 1 11 := ⟨(by decide +kernel), rfl⟩
theorem c1_11 : Dp method_4_code 11 8 13 := Or.inr (Or.inl ⟨8, (by decide +kernel), by decide, rfl⟩)
theorem c1_13 : Dp method_4_code 13 7 15 := Or.inr (Or.inl ⟨7, (by decide +kernel), by decide, rfl⟩)
theorem c1_15 : Dil method_4_code 15 3 16 := Or.inr ⟨3, (by decide +kernel), rfl, rfl⟩
theorem c1_16 : Dc method_4_code 16 .isub 1 17 := ⟨(by decide +kernel), rfl⟩
theorem c1_17 : Dc method_4_code 17 .imul 1 18 := ⟨(by decide +kernel), rfl⟩
theorem c1_18 : Dc method_4_code 18 .lshl 1 19 := ⟨(by decide +kernel), rfl⟩
theorem c1_19 : Db method_4_code 19 .goto 22 23 := ⟨4, (by decide +kernel), rfl, by decide, by decide⟩
theorem c1_22 : Dlc method_4_code 22 0 23 := ⟨0, (by decide +kernel), by decide, rfl⟩
theorem c1_23 : Dc method_4_code 23 .lreturn 1 24 := ⟨(by decide +kernel), rfl⟩
theorem c4_0 : Dll jdk_35_method_47_code 0 0 1 := Or.inr ⟨0, (by decide +kernel), rfl, rfl⟩
theorem c4_1 : Dll jdk_35_method_47_code 1 0 2 := Or.inr ⟨0, (by decide +kernel), rfl, rfl⟩
theorem c4_2 : Dc jdk_35_method_47_code 2 .lneg 1 3 := ⟨(by decide +kernel), rfl⟩
theorem c4_3 : Dc jdk_35_method_47_code 3 .land 1 4 := ⟨(by decide +kernel), rfl⟩
theorem c4_4 : Dc jdk_35_method_47_code 4 .lreturn 1 5 := ⟨(by decide +kernel), rfl⟩
theorem c3_0 : Dll prog_12_method_7_code 0 2 1 := Or.inr ⟨2, (by decide +kernel), rfl, rfl⟩
theorem c3_1 : Dll prog_12_method_7_code 1 0 2 := Or.inr ⟨0, (by decide +kernel), rfl, rfl⟩
theorem c3_2 : Dc prog_12_method_7_code 2 (.invokestatic 72) 3 5 := ⟨(by decide +kernel), rfl⟩
theorem c3_5 : Dc prog_12_method_7_code 5 .lneg 1 6 := ⟨(by decide +kernel), rfl⟩
theorem c3_6 : Dc prog_12_method_7_code 6 .land 1 7 := ⟨(by decide +kernel), rfl⟩
theorem c3_7 : Dll prog_12_method_7_code 7 0 8 := Or.inr ⟨0, (by decide +kernel), rfl, rfl⟩
theorem c3_8 : Dc prog_12_method_7_code 8 .lcmp 1 9 := ⟨(by decide +kernel), rfl⟩
theorem c3_9 : Db prog_12_method_7_code 9 (.ifCond .ne) 12 16 := ⟨7, (by decide +kernel), rfl, by decide, by decide⟩
theorem c3_12 : Dp prog_12_method_7_code 12 1 13 := Or.inl ⟨1, (by decide +kernel), by decide, rfl⟩
theorem c3_13 : Db prog_12_method_7_code 13 .goto 16 17 := ⟨4, (by decide +kernel), rfl, by decide, by decide⟩
theorem c3_16 : Dp prog_12_method_7_code 16 0 17 := Or.inl ⟨0, (by decide +kernel), by decide, rfl⟩
theorem c3_17 : Dc prog_12_method_7_code 17 .ireturn 1 18 := ⟨(by decide +kernel), rfl⟩
theorem c5_0 : Dil method_6_code 0 5 2 := Or.inl ⟨(by decide +kernel), rfl⟩
theorem c5_2 : Dil method_6_code 2 4 4 := Or.inl ⟨(by decide +kernel), rfl⟩
theorem c5_4 : Db method_6_code 4 (.if_icmp .ge) 7 22 := ⟨18, (by decide +kernel), rfl, by decide, by decide⟩
theorem c5_7 : Dll method_6_code 7 2 8 := Or.inr ⟨2, (by decide +kernel), rfl, rfl⟩
theorem c5_8 : Dil method_6_code 8 5 10 := Or.inl ⟨(by decide +kernel), rfl⟩
theorem c5_10 : Dc method_6_code 10 (.invokestatic 31) 3 13 := ⟨(by decide +kernel), rfl⟩
theorem c5_13 : Dll method_6_code 13 0 14 := Or.inr ⟨0, (by decide +kernel), rfl, rfl⟩
theorem c5_14 : Dil method_6_code 14 5 16 := Or.inl ⟨(by decide +kernel), rfl⟩
theorem c5_16 : Dc method_6_code 16 (.invokestatic 27) 3 19 := ⟨(by decide +kernel), rfl⟩
theorem c5_19 : Db method_6_code 19 (.if_icmp .ne) 22 26 := ⟨7, (by decide +kernel), rfl, by decide, by decide⟩
theorem c5_22 : Dp method_6_code 22 1 23 := Or.inl ⟨1, (by decide +kernel), by decide, rfl⟩
theorem c5_23 : Db method_6_code 23 .goto 26 27 := ⟨4, (by decide +kernel), rfl, by decide, by decide⟩
theorem c5_26 : Dp method_6_code 26 0 27 := Or.inl ⟨0, (by decide +kernel), by decide, rfl⟩
theorem c5_27 : Dc method_6_code 27 .ireturn 1 28 := ⟨(by decide +kernel), rfl⟩
theorem c7_0 : Dil method_7_code 0 5 2 := Or.inl ⟨(by decide +kernel), rfl⟩
theorem c7_2 : Dil method_7_code 2 4 4 := Or.inl ⟨(by decide +kernel), rfl⟩
theorem c7_4 : Dp method_7_code 4 1 5 := Or.inl ⟨1, (by decide +kernel), by decide, rfl⟩
theorem c7_5 : Dc method_7_code 5 .isub 1 6 := ⟨(by decide +kernel), rfl⟩
theorem c7_6 : Db method_7_code 6 (.if_icmp .ge) 9 24 := ⟨18, (by decide +kernel), rfl, by decide, by decide⟩
theorem c7_9 : Dll method_7_code 9 2 10 := Or.inr ⟨2, (by decide +kernel), rfl, rfl⟩
theorem c7_10 : Dil method_7_code 10 5 12 := Or.inl ⟨(by decide +kernel), rfl⟩
theorem c7_12 : Dc method_7_code 12 (.invokestatic 31) 3 15 := ⟨(by decide +kernel), rfl⟩
theorem c7_15 : Dll method_7_code 15 0 16 := Or.inr ⟨0, (by decide +kernel), rfl, rfl⟩
theorem c7_16 : Dil method_7_code 16 5 18 := Or.inl ⟨(by decide +kernel), rfl⟩
theorem c7_18 : Dc method_7_code 18 (.invokestatic 27) 3 21 := ⟨(by decide +kernel), rfl⟩
theorem c7_21 : Db method_7_code 21 (.if_icmp .ne) 24 28 := ⟨7, (by decide +kernel), rfl, by decide, by decide⟩
theorem c7_24 : Dp method_7_code 24 1 25 := Or.inl ⟨1, (by decide +kernel), by decide, rfl⟩
theorem c7_25 : Db method_7_code 25 .goto 28 29 := ⟨4, (by decide +kernel), rfl, by decide, by decide⟩
theorem c7_28 : Dp method_7_code 28 0 29 := Or.inl ⟨0, (by decide +kernel), by decide, rfl⟩
theorem c7_29 : Dc method_7_code 29 .ireturn 1 30 := ⟨(by decide +kernel), rfl⟩
theorem c0_0 : Dil code 0 2 1 := Or.inr ⟨2, at_0, rfl, rfl⟩
theorem c0_1 : Dc code 1 (.ldc 7) 2 3 := ⟨at_1, rfl⟩
theorem c0_3 : Dc code 3 .iand 1 4 := ⟨at_3, rfl⟩
theorem c0_4 : Dp code 4 9 6 := Or.inr (Or.inl ⟨9, at_4, by decide, rfl⟩)
theorem c0_6 : Dc code 6 .irem 1 7 := ⟨at_6, rfl⟩
theorem c0_7 : Dis code 7 5 9 := Or.inl ⟨at_7, rfl⟩
theorem c0_9 : Dll code 9 0 10 := Or.inr ⟨0, at_9, rfl, rfl⟩
theorem c0_10 : Dil code 10 5 12 := Or.inl ⟨at_10, rfl⟩
theorem c0_12 : Dp code 12 0 13 := Or.inl ⟨0, at_12, by decide, rfl⟩
theorem c0_13 : Dc code 13 (.invokestatic 8) 3 16 := ⟨at_13, rfl⟩
theorem c0_16 : Dll code 16 0 17 := Or.inr ⟨0, at_16, rfl, rfl⟩
theorem c0_17 : Dil code 17 5 19 := Or.inl ⟨at_17, rfl⟩
theorem c0_19 : Dp code 19 1 20 := Or.inl ⟨1, at_19, by decide, rfl⟩
theorem c0_20 : Dc code 20 (.invokestatic 8) 3 23 := ⟨at_20, rfl⟩
theorem c0_23 : Dc code 23 .lor 1 24 := ⟨at_23, rfl⟩
theorem c0_24 : Dll code 24 0 25 := Or.inr ⟨0, at_24, rfl, rfl⟩
theorem c0_25 : Dil code 25 5 27 := Or.inl ⟨at_25, rfl⟩
theorem c0_27 : Dp code 27 2 28 := Or.inl ⟨2, at_27, by decide, rfl⟩
theorem c0_28 : Dc code 28 (.invokestatic 8) 3 31 := ⟨at_28, rfl⟩
theorem c0_31 : Dc code 31 .lor 1 32 := ⟨at_31, rfl⟩
theorem c0_32 : Dll code 32 0 33 := Or.inr ⟨0, at_32, rfl, rfl⟩
theorem c0_33 : Dil code 33 5 35 := Or.inl ⟨at_33, rfl⟩
theorem c0_35 : Dp code 35 3 36 := Or.inl ⟨3, at_35, by decide, rfl⟩
theorem c0_36 : Dc code 36 (.invokestatic 8) 3 39 := ⟨at_36, rfl⟩
theorem c0_39 : Dc code 39 .lor 1 40 := ⟨at_39, rfl⟩
theorem c0_40 : Dll code 40 0 41 := Or.inr ⟨0, at_40, rfl, rfl⟩
theorem c0_41 : Dil code 41 5 43 := Or.inl ⟨at_41, rfl⟩
theorem c0_43 : Dp code 43 4 44 := Or.inl ⟨4, at_43, by decide, rfl⟩
theorem c0_44 : Dc code 44 (.invokestatic 8) 3 47 := ⟨at_44, rfl⟩
theorem c0_47 : Dc code 47 .lor 1 48 := ⟨at_47, rfl⟩
theorem c0_48 : Dll code 48 0 49 := Or.inr ⟨0, at_48, rfl, rfl⟩
theorem c0_49 : Dil code 49 5 51 := Or.inl ⟨at_49, rfl⟩
theorem c0_51 : Dp code 51 5 52 := Or.inl ⟨5, at_51, by decide, rfl⟩
theorem c0_52 : Dc code 52 (.invokestatic 8) 3 55 := ⟨at_52, rfl⟩
theorem c0_55 : Dc code 55 .lor 1 56 := ⟨at_55, rfl⟩
theorem c0_56 : Dll code 56 0 57 := Or.inr ⟨0, at_56, rfl, rfl⟩
theorem c0_57 : Dil code 57 5 59 := Or.inl ⟨at_57, rfl⟩
theorem c0_59 : Dp code 59 6 61 := Or.inr (Or.inl ⟨6, at_59, by decide, rfl⟩)
theorem c0_61 : Dc code 61 (.invokestatic 8) 3 64 := ⟨at_61, rfl⟩
theorem c0_64 : Dc code 64 .lor 1 65 := ⟨at_64, rfl⟩
theorem c0_65 : Dll code 65 0 66 := Or.inr ⟨0, at_65, rfl, rfl⟩
theorem c0_66 : Dil code 66 5 68 := Or.inl ⟨at_66, rfl⟩
theorem c0_68 : Dp code 68 7 70 := Or.inr (Or.inl ⟨7, at_68, by decide, rfl⟩)
theorem c0_70 : Dc code 70 (.invokestatic 8) 3 73 := ⟨at_70, rfl⟩
theorem c0_73 : Dc code 73 .lor 1 74 := ⟨at_73, rfl⟩
theorem c0_74 : Dls code 74 6 76 := Or.inl ⟨at_74, rfl⟩
theorem c0_76 : Dll code 76 6 78 := Or.inl ⟨at_76, rfl⟩
theorem c0_78 : Dll code 78 3 79 := Or.inr ⟨3, at_78, rfl, rfl⟩
theorem c0_79 : Dc code 79 .lxor 1 80 := ⟨at_79, rfl⟩
theorem c0_80 : Dls code 80 8 82 := Or.inl ⟨at_80, rfl⟩
theorem c0_82 : Dll code 82 6 84 := Or.inl ⟨at_82, rfl⟩
theorem c0_84 : Dll code 84 8 86 := Or.inl ⟨at_84, rfl⟩
theorem c0_86 : Dc code 86 (.invokestatic 14) 3 89 := ⟨at_86, rfl⟩
theorem c0_89 : Dis code 89 10 91 := Or.inl ⟨at_89, rfl⟩
theorem c0_91 : Dll code 91 0 92 := Or.inr ⟨0, at_91, rfl, rfl⟩
theorem c0_92 : Dll code 92 8 94 := Or.inl ⟨at_92, rfl⟩
theorem c0_94 : Dil code 94 5 96 := Or.inl ⟨at_94, rfl⟩
theorem c0_96 : Dp code 96 0 97 := Or.inl ⟨0, at_96, by decide, rfl⟩
theorem c0_97 : Dc code 97 (.invokestatic 20) 3 100 := ⟨at_97, rfl⟩
theorem c0_100 : Db code 100 (.ifCond .eq) 103 193 := ⟨93, at_100, rfl, by decide, by decide⟩
theorem c0_103 : Dll code 103 0 104 := Or.inr ⟨0, at_103, rfl, rfl⟩
theorem c0_104 : Dll code 104 8 106 := Or.inl ⟨at_104, rfl⟩
theorem c0_106 : Dil code 106 5 108 := Or.inl ⟨at_106, rfl⟩
theorem c0_108 : Dp code 108 1 109 := Or.inl ⟨1, at_108, by decide, rfl⟩
theorem c0_109 : Dc code 109 (.invokestatic 20) 3 112 := ⟨at_109, rfl⟩
theorem c0_112 : Db code 112 (.ifCond .eq) 115 193 := ⟨81, at_112, rfl, by decide, by decide⟩
theorem c0_115 : Dll code 115 0 116 := Or.inr ⟨0, at_115, rfl, rfl⟩
theorem c0_116 : Dll code 116 8 118 := Or.inl ⟨at_116, rfl⟩
theorem c0_118 : Dil code 118 5 120 := Or.inl ⟨at_118, rfl⟩
theorem c0_120 : Dp code 120 2 121 := Or.inl ⟨2, at_120, by decide, rfl⟩
theorem c0_121 : Dc code 121 (.invokestatic 20) 3 124 := ⟨at_121, rfl⟩
theorem c0_124 : Db code 124 (.ifCond .eq) 127 193 := ⟨69, at_124, rfl, by decide, by decide⟩
theorem c0_127 : Dll code 127 0 128 := Or.inr ⟨0, at_127, rfl, rfl⟩
theorem c0_128 : Dll code 128 8 130 := Or.inl ⟨at_128, rfl⟩
theorem c0_130 : Dil code 130 5 132 := Or.inl ⟨at_130, rfl⟩
theorem c0_132 : Dp code 132 3 133 := Or.inl ⟨3, at_132, by decide, rfl⟩
theorem c0_133 : Dc code 133 (.invokestatic 20) 3 136 := ⟨at_133, rfl⟩
theorem c0_136 : Db code 136 (.ifCond .eq) 139 193 := ⟨57, at_136, rfl, by decide, by decide⟩
theorem c0_139 : Dll code 139 0 140 := Or.inr ⟨0, at_139, rfl, rfl⟩
theorem c0_140 : Dll code 140 8 142 := Or.inl ⟨at_140, rfl⟩
theorem c0_142 : Dil code 142 5 144 := Or.inl ⟨at_142, rfl⟩
theorem c0_144 : Dp code 144 4 145 := Or.inl ⟨4, at_144, by decide, rfl⟩
theorem c0_145 : Dc code 145 (.invokestatic 20) 3 148 := ⟨at_145, rfl⟩
theorem c0_148 : Db code 148 (.ifCond .eq) 151 193 := ⟨45, at_148, rfl, by decide, by decide⟩
theorem c0_151 : Dll code 151 0 152 := Or.inr ⟨0, at_151, rfl, rfl⟩
theorem c0_152 : Dll code 152 8 154 := Or.inl ⟨at_152, rfl⟩
theorem c0_154 : Dil code 154 5 156 := Or.inl ⟨at_154, rfl⟩
theorem c0_156 : Dp code 156 5 157 := Or.inl ⟨5, at_156, by decide, rfl⟩
theorem c0_157 : Dc code 157 (.invokestatic 20) 3 160 := ⟨at_157, rfl⟩
theorem c0_160 : Db code 160 (.ifCond .eq) 163 193 := ⟨33, at_160, rfl, by decide, by decide⟩
theorem c0_163 : Dll code 163 0 164 := Or.inr ⟨0, at_163, rfl, rfl⟩
theorem c0_164 : Dll code 164 8 166 := Or.inl ⟨at_164, rfl⟩
theorem c0_166 : Dil code 166 5 168 := Or.inl ⟨at_166, rfl⟩
theorem c0_168 : Dp code 168 6 170 := Or.inr (Or.inl ⟨6, at_168, by decide, rfl⟩)
theorem c0_170 : Dc code 170 (.invokestatic 20) 3 173 := ⟨at_170, rfl⟩
theorem c0_173 : Db code 173 (.ifCond .eq) 176 193 := ⟨20, at_173, rfl, by decide, by decide⟩
theorem c0_176 : Dll code 176 0 177 := Or.inr ⟨0, at_176, rfl, rfl⟩
theorem c0_177 : Dll code 177 8 179 := Or.inl ⟨at_177, rfl⟩
theorem c0_179 : Dil code 179 5 181 := Or.inl ⟨at_179, rfl⟩
theorem c0_181 : Dp code 181 7 183 := Or.inr (Or.inl ⟨7, at_181, by decide, rfl⟩)
theorem c0_183 : Dc code 183 (.invokestatic 20) 3 186 := ⟨at_183, rfl⟩
theorem c0_186 : Db code 186 (.ifCond .eq) 189 193 := ⟨7, at_186, rfl, by decide, by decide⟩
theorem c0_189 : Dp code 189 1 190 := Or.inl ⟨1, at_189, by decide, rfl⟩
theorem c0_190 : Db code 190 .goto 193 194 := ⟨4, at_190, rfl, by decide, by decide⟩
theorem c0_193 : Dp code 193 0 194 := Or.inl ⟨0, at_193, by decide, rfl⟩
theorem c0_194 : Dis code 194 11 196 := Or.inl ⟨at_194, rfl⟩
theorem c0_196 : Dll code 196 0 197 := Or.inr ⟨0, at_196, rfl, rfl⟩
theorem c0_197 : Dll code 197 8 199 := Or.inl ⟨at_197, rfl⟩
theorem c0_199 : Dil code 199 5 201 := Or.inl ⟨at_199, rfl⟩
theorem c0_201 : Dp code 201 0 202 := Or.inl ⟨0, at_201, by decide, rfl⟩
theorem c0_202 : Dc code 202 (.invokestatic 24) 3 205 := ⟨at_202, rfl⟩
theorem c0_205 : Db code 205 (.ifCond .eq) 208 298 := ⟨93, at_205, rfl, by decide, by decide⟩
theorem c0_208 : Dll code 208 0 209 := Or.inr ⟨0, at_208, rfl, rfl⟩
theorem c0_209 : Dll code 209 8 211 := Or.inl ⟨at_209, rfl⟩
theorem c0_211 : Dil code 211 5 213 := Or.inl ⟨at_211, rfl⟩
theorem c0_213 : Dp code 213 1 214 := Or.inl ⟨1, at_213, by decide, rfl⟩
theorem c0_214 : Dc code 214 (.invokestatic 24) 3 217 := ⟨at_214, rfl⟩
theorem c0_217 : Db code 217 (.ifCond .eq) 220 298 := ⟨81, at_217, rfl, by decide, by decide⟩
theorem c0_220 : Dll code 220 0 221 := Or.inr ⟨0, at_220, rfl, rfl⟩
theorem c0_221 : Dll code 221 8 223 := Or.inl ⟨at_221, rfl⟩
theorem c0_223 : Dil code 223 5 225 := Or.inl ⟨at_223, rfl⟩
theorem c0_225 : Dp code 225 2 226 := Or.inl ⟨2, at_225, by decide, rfl⟩
theorem c0_226 : Dc code 226 (.invokestatic 24) 3 229 := ⟨at_226, rfl⟩
theorem c0_229 : Db code 229 (.ifCond .eq) 232 298 := ⟨69, at_229, rfl, by decide, by decide⟩
theorem c0_232 : Dll code 232 0 233 := Or.inr ⟨0, at_232, rfl, rfl⟩
theorem c0_233 : Dll code 233 8 235 := Or.inl ⟨at_233, rfl⟩
theorem c0_235 : Dil code 235 5 237 := Or.inl ⟨at_235, rfl⟩
theorem c0_237 : Dp code 237 3 238 := Or.inl ⟨3, at_237, by decide, rfl⟩
theorem c0_238 : Dc code 238 (.invokestatic 24) 3 241 := ⟨at_238, rfl⟩
theorem c0_241 : Db code 241 (.ifCond .eq) 244 298 := ⟨57, at_241, rfl, by decide, by decide⟩
theorem c0_244 : Dll code 244 0 245 := Or.inr ⟨0, at_244, rfl, rfl⟩
theorem c0_245 : Dll code 245 8 247 := Or.inl ⟨at_245, rfl⟩
theorem c0_247 : Dil code 247 5 249 := Or.inl ⟨at_247, rfl⟩
theorem c0_249 : Dp code 249 4 250 := Or.inl ⟨4, at_249, by decide, rfl⟩
theorem c0_250 : Dc code 250 (.invokestatic 24) 3 253 := ⟨at_250, rfl⟩
theorem c0_253 : Db code 253 (.ifCond .eq) 256 298 := ⟨45, at_253, rfl, by decide, by decide⟩
theorem c0_256 : Dll code 256 0 257 := Or.inr ⟨0, at_256, rfl, rfl⟩
theorem c0_257 : Dll code 257 8 259 := Or.inl ⟨at_257, rfl⟩
theorem c0_259 : Dil code 259 5 261 := Or.inl ⟨at_259, rfl⟩
theorem c0_261 : Dp code 261 5 262 := Or.inl ⟨5, at_261, by decide, rfl⟩
theorem c0_262 : Dc code 262 (.invokestatic 24) 3 265 := ⟨at_262, rfl⟩
theorem c0_265 : Db code 265 (.ifCond .eq) 268 298 := ⟨33, at_265, rfl, by decide, by decide⟩
theorem c0_268 : Dll code 268 0 269 := Or.inr ⟨0, at_268, rfl, rfl⟩
theorem c0_269 : Dll code 269 8 271 := Or.inl ⟨at_269, rfl⟩
theorem c0_271 : Dil code 271 5 273 := Or.inl ⟨at_271, rfl⟩
theorem c0_273 : Dp code 273 6 275 := Or.inr (Or.inl ⟨6, at_273, by decide, rfl⟩)
theorem c0_275 : Dc code 275 (.invokestatic 24) 3 278 := ⟨at_275, rfl⟩
theorem c0_278 : Db code 278 (.ifCond .eq) 281 298 := ⟨20, at_278, rfl, by decide, by decide⟩
theorem c0_281 : Dll code 281 0 282 := Or.inr ⟨0, at_281, rfl, rfl⟩
theorem c0_282 : Dll code 282 8 284 := Or.inl ⟨at_282, rfl⟩
theorem c0_284 : Dil code 284 5 286 := Or.inl ⟨at_284, rfl⟩
theorem c0_286 : Dp code 286 7 288 := Or.inr (Or.inl ⟨7, at_286, by decide, rfl⟩)
theorem c0_288 : Dc code 288 (.invokestatic 24) 3 291 := ⟨at_288, rfl⟩
theorem c0_291 : Db code 291 (.ifCond .eq) 294 298 := ⟨7, at_291, rfl, by decide, by decide⟩
theorem c0_294 : Dp code 294 1 295 := Or.inl ⟨1, at_294, by decide, rfl⟩
theorem c0_295 : Db code 295 .goto 298 299 := ⟨4, at_295, rfl, by decide, by decide⟩
theorem c0_298 : Dp code 298 0 299 := Or.inl ⟨0, at_298, by decide, rfl⟩
theorem c0_299 : Dis code 299 12 301 := Or.inl ⟨at_299, rfl⟩
theorem c0_301 : Dil code 301 5 303 := Or.inl ⟨at_301, rfl⟩
theorem c0_303 : Db code 303 (.ifCond .ne) 306 310 := ⟨7, at_303, rfl, by decide, by decide⟩
theorem c0_306 : Dp code 306 0 307 := Or.inl ⟨0, at_306, by decide, rfl⟩
theorem c0_307 : Db code 307 .goto 310 318 := ⟨11, at_307, rfl, by decide, by decide⟩
theorem c0_310 : Dll code 310 0 311 := Or.inr ⟨0, at_310, rfl, rfl⟩
theorem c0_311 : Dil code 311 5 313 := Or.inl ⟨at_311, rfl⟩
theorem c0_313 : Dp code 313 1 314 := Or.inl ⟨1, at_313, by decide, rfl⟩
theorem c0_314 : Dc code 314 .isub 1 315 := ⟨at_314, rfl⟩
theorem c0_315 : Dc code 315 (.invokestatic 27) 3 318 := ⟨at_315, rfl⟩
theorem c0_318 : Dis code 318 13 320 := Or.inl ⟨at_318, rfl⟩
theorem c0_320 : Dil code 320 5 322 := Or.inl ⟨at_320, rfl⟩
theorem c0_322 : Db code 322 (.ifCond .ne) 325 329 := ⟨7, at_322, rfl, by decide, by decide⟩
theorem c0_325 : Dp code 325 0 326 := Or.inl ⟨0, at_325, by decide, rfl⟩
theorem c0_326 : Db code 326 .goto 329 338 := ⟨12, at_326, rfl, by decide, by decide⟩
theorem c0_329 : Dll code 329 8 331 := Or.inl ⟨at_329, rfl⟩
theorem c0_331 : Dil code 331 5 333 := Or.inl ⟨at_331, rfl⟩
theorem c0_333 : Dp code 333 1 334 := Or.inl ⟨1, at_333, by decide, rfl⟩
theorem c0_334 : Dc code 334 .isub 1 335 := ⟨at_334, rfl⟩
theorem c0_335 : Dc code 335 (.invokestatic 31) 3 338 := ⟨at_335, rfl⟩
theorem c0_338 : Dis code 338 14 340 := Or.inl ⟨at_338, rfl⟩
theorem c0_340 : Dil code 340 5 342 := Or.inl ⟨at_340, rfl⟩
theorem c0_342 : Db code 342 (.ifCond .le) 345 370 := ⟨28, at_342, rfl, by decide, by decide⟩
theorem c0_345 : Dil code 345 14 347 := Or.inl ⟨at_345, rfl⟩
theorem c0_347 : Dil code 347 13 349 := Or.inl ⟨at_347, rfl⟩
theorem c0_349 : Db code 349 (.if_icmp .lt) 352 366 := ⟨17, at_349, rfl, by decide, by decide⟩
theorem c0_352 : Dil code 352 14 354 := Or.inl ⟨at_352, rfl⟩
theorem c0_354 : Dil code 354 13 356 := Or.inl ⟨at_354, rfl⟩
theorem c0_356 : Dil code 356 13 358 := Or.inl ⟨at_356, rfl⟩
theorem c0_358 : Dil code 358 13 360 := Or.inl ⟨at_358, rfl⟩
theorem c0_360 : Dc code 360 .ineg 1 361 := ⟨at_360, rfl⟩
theorem c0_361 : Dc code 361 .iand 1 362 := ⟨at_361, rfl⟩
theorem c0_362 : Dc code 362 .iadd 1 363 := ⟨at_362, rfl⟩
theorem c0_363 : Db code 363 (.if_icmp .lt) 366 370 := ⟨7, at_363, rfl, by decide, by decide⟩
theorem c0_366 : Dp code 366 1 367 := Or.inl ⟨1, at_366, by decide, rfl⟩
theorem c0_367 : Db code 367 .goto 370 371 := ⟨4, at_367, rfl, by decide, by decide⟩
theorem c0_370 : Dp code 370 0 371 := Or.inl ⟨0, at_370, by decide, rfl⟩
theorem c0_371 : Dis code 371 15 373 := Or.inl ⟨at_371, rfl⟩
theorem c0_373 : Dil code 373 11 375 := Or.inl ⟨at_373, rfl⟩
theorem c0_375 : Db code 375 (.ifCond .eq) 378 381 := ⟨6, at_375, rfl, by decide, by decide⟩
theorem c0_378 : Dil code 378 10 380 := Or.inl ⟨at_378, rfl⟩
theorem c0_380 : Dc code 380 .ireturn 1 381 := ⟨at_380, rfl⟩
theorem c0_381 : Dil code 381 12 383 := Or.inl ⟨at_381, rfl⟩
theorem c0_383 : Db code 383 (.ifCond .eq) 386 391 := ⟨8, at_383, rfl, by decide, by decide⟩
theorem c0_386 : Dil code 386 15 388 := Or.inl ⟨at_386, rfl⟩
theorem c0_388 : Db code 388 (.ifCond .eq) 391 402 := ⟨14, at_388, rfl, by decide, by decide⟩
theorem c0_391 : Dil code 391 10 393 := Or.inl ⟨at_391, rfl⟩
theorem c0_393 : Db code 393 (.ifCond .ne) 396 400 := ⟨7, at_393, rfl, by decide, by decide⟩
theorem c0_396 : Dp code 396 1 397 := Or.inl ⟨1, at_396, by decide, rfl⟩
theorem c0_397 : Db code 397 .goto 400 401 := ⟨4, at_397, rfl, by decide, by decide⟩
theorem c0_400 : Dp code 400 0 401 := Or.inl ⟨0, at_400, by decide, rfl⟩
theorem c0_401 : Dc code 401 .ireturn 1 402 := ⟨at_401, rfl⟩
theorem c0_402 : Dp code 402 1 403 := Or.inl ⟨1, at_402, by decide, rfl⟩
theorem c0_403 : Dc code 403 .ireturn 1 404 := ⟨at_403, rfl⟩

def own_oct (a : Int64) (i : Int32) : Int32 := (XT.ushrL a (8 * (7 - i)) &&& 127).toInt32 % 127 + 1
def own_put (a : Int64) (k i : Int32) : Int64 := if i < k then (own_oct a i).toInt64 <<< ((8 * (7 - i)).toInt64 &&& 63) else 0
def own_pb (p : Int64) (i : Int32) : Int32 := (XT.ushrL p (8 * (7 - i)) &&& 255).toInt32
def own_byte (X j : Nat) : Nat := X / 256 ^ j % 256
def own_on (X j : Nat) : Nat := X / 256 ^ j % 128 % 127 + 1
/-! shifts by whole bytes -/
theorem own_shr (x : Int64) (j : Nat) (hj : j < 8) : (XT.ushrL x (8 * (7 - Int32.ofNat (7 - j)))).toUInt64.toNat = x.toUInt64.toNat / 256 ^ j := by
  have e : ∀ j < 8, ((8 * (7 - Int32.ofNat (7 - j))).toInt64.toUInt64 &&& Int64.toUInt64 63).toNat = 8 * j := by decide
  unfold XT.ushrL
  rw [show ∀ u : UInt64, u.toInt64.toUInt64 = u from fun u => by simp, UInt64.toNat_shiftRight, e j hj, Nat.mod_eq_of_lt (by omega), Nat.shiftRight_eq_div_pow, Nat.pow_mul]
theorem own_and (x : Int64) (m : Nat) (hm : m = 127 ∨ m = 255) : ((x &&& Int64.ofNat m).toInt32).toInt = x.toUInt64.toNat % (m + 1) := by
  have h : (x &&& Int64.ofNat m).toUInt64.toNat = x.toUInt64.toNat % (m + 1) := by
    rw [Int64.toUInt64_and, UInt64.toNat_and]
    rcases hm with rfl | rfl
    · show _ &&& 127 = _ % 2 ^ 7; rw [← Nat.and_two_pow_sub_one_eq_mod]
    · show _ &&& 255 = _ % 2 ^ 8; rw [← Nat.and_two_pow_sub_one_eq_mod]
  have hlt : x.toUInt64.toNat % (m + 1) < 256 := by rcases hm with rfl | rfl <;> omega
  rw [Int64.toInt_toInt32]
  have t : (x &&& Int64.ofNat m).toInt = x.toUInt64.toNat % (m + 1) := by
    show (x &&& Int64.ofNat m).toBitVec.toInt = _
    have h' : (x &&& Int64.ofNat m).toBitVec.toNat = x.toUInt64.toNat % (m + 1) := h
    rw [BitVec.toInt_eq_toNat_cond, h', if_pos (by omega)]
    simp
  rw [t]
  have hlt' : (x.toUInt64.toNat : Int) % ((m : Int) + 1) < 256 ∧ 0 ≤ (x.toUInt64.toNat : Int) % ((m : Int) + 1) := by rcases hm with rfl | rfl <;> omega
  exact Int.bmod_eq_of_le (by omega) (by omega)
theorem own_pb_val (p : Int64) (j : Nat) (hj : j < 8) : (own_pb p (Int32.ofNat (7 - j))).toInt = own_byte p.toUInt64.toNat j := by
  unfold own_pb own_byte
  have := own_and (XT.ushrL p (8 * (7 - Int32.ofNat (7 - j)))) 255 (Or.inr rfl)
  rw [own_shr p j hj] at this
  exact_mod_cast this
theorem own_oct_val (p : Int64) (j : Nat) (hj : j < 8) : (own_oct p (Int32.ofNat (7 - j))).toInt = own_on p.toUInt64.toNat j := by
  unfold own_oct own_on
  have h := own_and (XT.ushrL p (8 * (7 - Int32.ofNat (7 - j)))) 127 (Or.inl rfl)
  rw [own_shr p j hj] at h
  generalize p.toUInt64.toNat / 256 ^ j = A at h ⊢
  have e1 : (1 : Int32).toInt = 1 := by decide
  have e2 : (127 : Int32).toInt = 127 := by decide
  have h' : ((XT.ushrL p (8 * (7 - Int32.ofNat (7 - j))) &&& 127).toInt32).toInt = ((A % 128 : Nat) : Int) := h
  rw [Int32.toInt_add, Int32.toInt_mod, h', e1, e2, Int.tmod_eq_emod_of_nonneg (by omega)]
  rw [Int.bmod_eq_of_le (by omega) (by omega)]
  omega
theorem own_i32 (x : Int32) (n : Nat) (h : x.toInt = n) : x.toInt64.toUInt64.toNat = n := by
  have e : x.toInt64.toInt = n := by rw [Int32.toInt_toInt64, h]
  show x.toInt64.toBitVec.toNat = n
  have e' : x.toInt64.toBitVec.toInt = n := e
  rw [BitVec.toInt_eq_toNat_cond] at e'
  have hb := x.toInt64.toBitVec.isLt
  have hx := x.toInt_lt
  split at e' <;> omega
theorem own_on_lt (X j : Nat) : 1 ≤ own_on X j ∧ own_on X j ≤ 127 := by unfold own_on; omega
theorem own_pow (j : Nat) (hj : j < 8) : 256 ^ j * 256 ≤ 2 ^ 64 := by
  have : ∀ j < 8, 256 ^ j * 256 ≤ 2 ^ 64 := by decide
  exact this j hj
theorem own_put_val (a : Int64) (k : Int32) (j : Nat) (hj : j < 8) : (own_put a k (Int32.ofNat (7 - j))).toUInt64.toNat = if Int32.ofNat (7 - j) < k then own_on a.toUInt64.toNat j * 256 ^ j else 0 := by
  have e : ∀ j < 8, (((8 * (7 - Int32.ofNat (7 - j))).toInt64 &&& 63).toBitVec.smod 64).toNat = 8 * j := by decide
  unfold own_put
  split
  · show ((own_oct a (Int32.ofNat (7 - j))).toInt64 <<< ((8 * (7 - Int32.ofNat (7 - j))).toInt64 &&& 63)).toBitVec.toNat = _
    rw [Int64.toBitVec_shiftLeft, BitVec.shiftLeft_eq', BitVec.toNat_shiftLeft, e j hj]
    rw [show (own_oct a (Int32.ofNat (7 - j))).toInt64.toBitVec.toNat = own_on a.toUInt64.toNat j from own_i32 _ _ (own_oct_val a j hj)]
    rw [Nat.shiftLeft_eq, Nat.pow_mul]
    have h1 := own_on_lt a.toUInt64.toNat j
    have h2 := own_pow j hj
    refine Nat.mod_eq_of_lt ?_
    calc own_on a.toUInt64.toNat j * (2 ^ 8) ^ j ≤ 127 * (2 ^ 8) ^ j := Nat.mul_le_mul_right _ h1.2
      _ < 2 ^ 64 := by
        have : 0 < (2 ^ 8) ^ j := Nat.pow_pos (by decide)
        have e : (2 ^ 8) ^ j = 256 ^ j := rfl
        omega
  · rfl
/-! the pattern's lead -/
def own_pat (a : Int64) (k : Int32) : Int64 := own_put a k 0 ||| own_put a k 1 ||| own_put a k 2 ||| own_put a k 3 ||| own_put a k 4 ||| own_put a k 5 ||| own_put a k 6 ||| own_put a k 7
def own_sum (A : Nat) (k : Nat) : Nat → Nat
  | 0 => 0
  | n + 1 => own_sum A k n + if n < k then own_on A (7 - n) * 256 ^ (7 - n) else 0
theorem own_or (x y : Int64) : (x ||| y).toUInt64.toNat = x.toUInt64.toNat ||| y.toUInt64.toNat := by rw [Int64.toUInt64_or, UInt64.toNat_or]
theorem own_lor (x y j : Nat) (hy : y < 256 ^ j) (hx : x % 256 ^ j = 0) : x ||| y = x + y := by
  have e : 256 ^ j = 2 ^ (8 * j) := by rw [Nat.pow_mul]
  rw [e] at hy hx
  obtain ⟨c, rfl⟩ := Nat.dvd_of_mod_eq_zero hx
  rw [Nat.two_pow_add_eq_or_of_lt hy]
theorem own_sum_mod (A k : Nat) : ∀ n, n ≤ 8 → own_sum A k n % 256 ^ (8 - n) = 0
  | 0, _ => by simp [own_sum]
  | n + 1, h => by
    have ih := own_sum_mod A k n (by omega)
    have e : 8 - n = (8 - (n + 1)) + 1 := by omega
    have e7 : 7 - n = 8 - (n + 1) := by omega
    rw [e, Nat.pow_succ] at ih
    simp only [own_sum]
    have i2 : own_sum A k n % 256 ^ (8 - (n + 1)) = 0 := by
      obtain ⟨c, hc⟩ := Nat.dvd_of_mod_eq_zero ih
      rw [hc, Nat.mul_assoc, Nat.mul_mod_right]
    split
    · rw [e7, Nat.add_mod, i2, Nat.mul_mod_left]; simp
    · simpa using i2
theorem own_pat_val (a : Int64) (k : Nat) (hk : k ≤ 8) : (own_pat a (Int32.ofNat k)).toUInt64.toNat = own_sum a.toUInt64.toNat k 8 := by
  have hlt : ∀ k ≤ 8, ∀ j < 8, (Int32.ofNat (7 - j) < Int32.ofNat k) ↔ (7 - j < k) := by decide
  have q : ∀ n, n < 8 → (own_put a (Int32.ofNat k) (Int32.ofNat n)).toUInt64.toNat = if n < k then own_on a.toUInt64.toNat (7 - n) * 256 ^ (7 - n) else 0 := by
    intro n hn
    have := own_put_val a (Int32.ofNat k) (7 - n) (by omega)
    have e : 7 - (7 - n) = n := by omega
    rw [e] at this
    rw [this]
    have := hlt k hk (7 - n) (by omega)
    rw [e] at this
    by_cases h : n < k
    · rw [if_pos h, if_pos (this.mpr h)]
    · rw [if_neg h, if_neg (fun u => h (this.mp u))]
  have st : ∀ n, n < 8 → (own_sum a.toUInt64.toNat k n ||| (own_put a (Int32.ofNat k) (Int32.ofNat n)).toUInt64.toNat) = own_sum a.toUInt64.toNat k (n + 1) := by
    intro n hn
    rw [q n hn]
    have m := own_sum_mod a.toUInt64.toNat k n (by omega)
    have e : 8 - n = (7 - n) + 1 := by omega
    rw [e] at m
    simp only [own_sum]
    split
    · refine own_lor _ _ _ ?_ m
      have h1 := own_on_lt a.toUInt64.toNat (7 - n)
      rw [Nat.pow_succ, Nat.mul_comm]
      exact Nat.mul_lt_mul_of_pos_left (by omega) (Nat.pow_pos (by decide))
    · simp
  unfold own_pat
  simp only [own_or]
  have s0 : (own_put a (Int32.ofNat k) 0).toUInt64.toNat = own_sum a.toUInt64.toNat k 1 := by
    have := st 0 (by omega)
    simpa [own_sum] using this
  have s1 := st 1 (by omega); have s2 := st 2 (by omega); have s3 := st 3 (by omega); have s4 := st 4 (by omega); have s5 := st 5 (by omega); have s6 := st 6 (by omega); have s7 := st 7 (by omega)
  rw [s0]
  rw [show (own_put a (Int32.ofNat k) 1) = (own_put a (Int32.ofNat k) (Int32.ofNat 1)) from rfl, s1, show (own_put a (Int32.ofNat k) 2) = (own_put a (Int32.ofNat k) (Int32.ofNat 2)) from rfl, s2, show (own_put a (Int32.ofNat k) 3) = (own_put a (Int32.ofNat k) (Int32.ofNat 3)) from rfl, s3, show (own_put a (Int32.ofNat k) 4) = (own_put a (Int32.ofNat k) (Int32.ofNat 4)) from rfl, s4, show (own_put a (Int32.ofNat k) 5) = (own_put a (Int32.ofNat k) (Int32.ofNat 5)) from rfl, s5, show (own_put a (Int32.ofNat k) 6) = (own_put a (Int32.ofNat k) (Int32.ofNat 6)) from rfl, s6, show (own_put a (Int32.ofNat k) 7) = (own_put a (Int32.ofNat k) (Int32.ofNat 7)) from rfl, s7]
/-! its bytes -/
theorem own_dd (S y j e : Nat) (hS : S % 256 ^ e = 0) (hy : y < 256 ^ e) (hj : e ≤ j) : (S + y) / 256 ^ j = S / 256 ^ j := by
  obtain ⟨d, rfl⟩ : ∃ d, j = e + d := ⟨j - e, by omega⟩
  obtain ⟨c, rfl⟩ := Nat.dvd_of_mod_eq_zero hS
  have hp : 0 < 256 ^ e := Nat.pow_pos (by decide)
  rw [Nat.pow_add, ← Nat.div_div_eq_div_mul, ← Nat.div_div_eq_div_mul, Nat.mul_add_div hp, Nat.div_eq_of_lt hy, Nat.mul_div_cancel_left _ hp]
  rfl
theorem own_sum_byte (A k : Nat) : ∀ n j, n ≤ 8 → 8 - n ≤ j → j < 8 → own_byte (own_sum A k n) j = if 7 - j < k then own_on A j else 0
  | 0, j, _, h1, h2 => by omega
  | n + 1, j, hn, h1, h2 => by
    have m := own_sum_mod A k n (by omega)
    have hc := own_on_lt A (7 - n)
    have hp : 0 < 256 ^ (7 - n) := Nat.pow_pos (by decide)
    have e : 8 - n = (7 - n) + 1 := by omega
    have hlt : own_on A (7 - n) * 256 ^ (7 - n) < 256 ^ (8 - n) := by
      rw [e, Nat.pow_succ, Nat.mul_comm]
      exact Nat.mul_lt_mul_of_pos_left (by omega) hp
    by_cases hj : 8 - n ≤ j
    · have ih := own_sum_byte A k n j (by omega) hj h2
      rw [← ih]
      simp only [own_sum, own_byte]
      split
      · rw [own_dd _ _ _ _ m hlt hj]
      · rfl
    · obtain rfl : j = 7 - n := by omega
      have e7 : 7 - (7 - n) = n := by omega
      rw [e7]
      obtain ⟨c, hc'⟩ := Nat.dvd_of_mod_eq_zero m
      simp only [own_sum, own_byte]
      rw [hc', e, Nat.pow_succ]
      split
      · rw [show 256 ^ (7 - n) * 256 * c + own_on A (7 - n) * 256 ^ (7 - n) = 256 ^ (7 - n) * (256 * c + own_on A (7 - n)) by rw [Nat.mul_add, Nat.mul_assoc, Nat.mul_comm (own_on A (7 - n))], Nat.mul_div_cancel_left _ hp]
        omega
      · rw [Nat.add_zero, Nat.mul_assoc, Nat.mul_div_cancel_left _ hp]
        omega
theorem own_sum_stop (A k : Nat) : ∀ n, k ≤ n → own_sum A k n = own_sum A k k
  | 0, h => by obtain rfl : k = 0 := by omega
               rfl
  | n + 1, h => by
    by_cases hk : k = n + 1
    · rw [hk]
    · simp only [own_sum]
      rw [if_neg (by omega), Nat.add_zero]
      exact own_sum_stop A k n (by omega)
/-! the low bit, and what the mask keeps -/
theorem own_low (x : BitVec 64) (m u : Nat) (h : x.toNat = (2 * m + 1) * 2 ^ u) (hu : u < 64) : (x &&& -x).toNat = 2 ^ u := by
  have hx := x.isLt
  have hpu : 0 < 2 ^ u := Nat.pow_pos (by decide)
  obtain ⟨w, hw⟩ : ∃ w, 64 = (w + 1) + u := ⟨63 - u, by omega⟩
  have e64 : 2 ^ 64 = 2 ^ (w + 1) * 2 ^ u := by rw [← Nat.pow_add, ← hw]
  have hm : 2 * m + 1 < 2 ^ (w + 1) := by
    rw [h, e64] at hx
    exact Nat.lt_of_mul_lt_mul_right hx
  have hm' : m < 2 ^ w := by rw [Nat.pow_succ] at hm; omega
  rw [BitVec.toNat_and, BitVec.toNat_neg, h, Nat.mod_eq_of_lt (by have : 0 < (2 * m + 1) * 2 ^ u := Nat.mul_pos (by omega) hpu
                                                                  omega), e64, ← Nat.sub_mul]
  rw [← Nat.shiftLeft_eq, ← Nat.shiftLeft_eq, ← Nat.shiftLeft_and_distrib, Nat.shiftLeft_eq]
  have e1 : 2 ^ (w + 1) - (2 * m + 1) = 2 * (2 ^ w - (m + 1)) + 1 := by rw [Nat.pow_succ]; omega
  have one : (2 * m + 1) &&& (2 ^ (w + 1) - (2 * m + 1)) = 1 := by
    rw [e1]
    apply Nat.eq_of_testBit_eq
    intro i
    rw [Nat.testBit_and]
    cases i with
    | zero => simp
    | succ i =>
      rw [Nat.testBit_succ, Nat.testBit_succ, Nat.testBit_succ]
      rw [show (2 * m + 1) / 2 = m by omega, show (2 * (2 ^ w - (m + 1)) + 1) / 2 = 2 ^ w - (m + 1) by omega, Nat.testBit_two_pow_sub_succ hm']
      cases m.testBit i <;> simp
  rw [one, Nat.one_mul]
theorem own_mask (x y : BitVec 64) (u : Nat) (h : y.toNat = 2 ^ u) (hu : u < 64) : (x &&& -y).toNat = x.toNat / 2 ^ u * 2 ^ u := by
  have hx := x.isLt
  have hpu : 0 < 2 ^ u := Nat.pow_pos (by decide)
  obtain ⟨w, hw⟩ : ∃ w, 64 = w + u := ⟨64 - u, by omega⟩
  have e64 : 2 ^ 64 = 2 ^ w * 2 ^ u := by rw [← Nat.pow_add, ← hw]
  have hy := y.isLt
  rw [BitVec.toNat_and, BitVec.toNat_neg, h, Nat.mod_eq_of_lt (by omega), e64]
  rw [show 2 ^ w * 2 ^ u - 2 ^ u = (2 ^ w - 1) * 2 ^ u by rw [Nat.sub_mul, Nat.one_mul], ← Nat.shiftLeft_eq, ← Nat.shiftLeft_eq, ← Nat.shiftRight_eq_div_pow]
  apply Nat.eq_of_testBit_eq
  intro i
  rw [Nat.testBit_and, Nat.testBit_shiftLeft, Nat.testBit_shiftLeft, Nat.testBit_two_pow_sub_one, Nat.testBit_shiftRight]
  by_cases hi : u ≤ i
  · rw [show u + (i - u) = i by omega]
    by_cases h64 : i < 64
    · have : i - u < w := by omega
      simp [hi, this]
    · have : x.toNat.testBit i = false := Nat.testBit_lt_two_pow (Nat.lt_of_lt_of_le hx (Nat.pow_le_pow_right (by decide) (by omega)))
      simp [this]
  · simp [hi]
def own_tz (q : Nat) : Nat := if q % 2 = 1 then 0 else if q % 4 = 2 then 1 else if q % 8 = 4 then 2 else if q % 16 = 8 then 3 else if q % 32 = 16 then 4 else if q % 64 = 32 then 5 else 6
theorem own_tz_val : ∀ q < 128, 1 ≤ q → own_tz q ≤ 6 ∧ q = (2 * (q / 2 ^ (own_tz q + 1)) + 1) * 2 ^ own_tz q ∧ (Int32.ofNat q &&& -Int32.ofNat q).toInt = ((2 ^ own_tz q : Nat) : Int) := by decide +kernel
theorem own_core (pat path : Int64) (e : Nat) (he : e < 8) (hm : pat.toUInt64.toNat % 256 ^ e = 0) (h1 : 1 ≤ own_byte pat.toUInt64.toNat e) (h2 : own_byte pat.toUInt64.toNat e ≤ 127) :
    (path &&& -(pat &&& -pat) = pat) ↔ (path.toUInt64.toNat / 256 ^ (e + 1) = pat.toUInt64.toNat / 256 ^ (e + 1) ∧ own_byte pat.toUInt64.toNat e ≤ own_byte path.toUInt64.toNat e ∧ own_byte path.toUInt64.toNat e < own_byte pat.toUInt64.toNat e + 2 ^ own_tz (own_byte pat.toUInt64.toNat e)) := by
  obtain ⟨t6, tq, -⟩ := own_tz_val (own_byte pat.toUInt64.toNat e) (by omega) h1
  generalize ht : own_tz (own_byte pat.toUInt64.toNat e) = t at *
  generalize hr : own_byte pat.toUInt64.toNat e / 2 ^ (t + 1) = r at *
  have e8 : 256 ^ e = 2 ^ (8 * e) := by rw [Nat.pow_mul]
  obtain ⟨c, hc⟩ := Nat.dvd_of_mod_eq_zero hm
  have hp : 0 < 256 ^ e := Nat.pow_pos (by decide)
  have hcq : own_byte pat.toUInt64.toNat e = c % 256 := by unfold own_byte; rw [hc, Nat.mul_div_cancel_left _ hp]
  have hd : ∀ Y : Nat, Y / 256 ^ (e + 1) = Y / 256 ^ e / 256 := fun Y => by rw [Nat.pow_succ, ← Nat.div_div_eq_div_mul]
  have hdu : ∀ Y : Nat, Y / 2 ^ (8 * e + t) = Y / 256 ^ e / 2 ^ t := fun Y => by rw [Nat.pow_add, ← e8, ← Nat.div_div_eq_div_mul]
  have hu : 8 * e + t < 64 := by omega
  have hPc : pat.toUInt64.toNat / 256 ^ e = c := by rw [hc, Nat.mul_div_cancel_left _ hp]
  -- c = odd * 2^t
  have hodd : ∃ m, c = (2 * m + 1) * 2 ^ t := by
    rw [hcq] at tq
    refine ⟨c / 256 * (128 / 2 ^ t) + r, ?_⟩
    have : t = 0 ∨ t = 1 ∨ t = 2 ∨ t = 3 ∨ t = 4 ∨ t = 5 ∨ t = 6 := by omega
    rcases this with rfl | rfl | rfl | rfl | rfl | rfl | rfl <;> omega
  obtain ⟨m, hm2⟩ := hodd
  have hpat : pat.toBitVec.toNat = (2 * m + 1) * 2 ^ (8 * e + t) := by
    show pat.toUInt64.toNat = _
    rw [hc, hm2, e8, Nat.pow_add, Nat.mul_comm (2 ^ (8 * e)), Nat.mul_assoc, Nat.mul_comm (2 ^ t)]
  have low := own_low pat.toBitVec m (8 * e + t) hpat hu
  have mask := own_mask path.toBitVec (pat.toBitVec &&& -pat.toBitVec) (8 * e + t) low hu
  have iff1 : (path &&& -(pat &&& -pat) = pat) ↔ path.toUInt64.toNat / 2 ^ (8 * e + t) * 2 ^ (8 * e + t) = pat.toUInt64.toNat := by
    rw [← Int64.toBitVec_inj, ← BitVec.toNat_inj]
    have : (path &&& -(pat &&& -pat)).toBitVec.toNat = path.toBitVec.toNat / 2 ^ (8 * e + t) * 2 ^ (8 * e + t) := by
      rw [Int64.toBitVec_and, Int64.toBitVec_neg, Int64.toBitVec_and, Int64.toBitVec_neg]; exact mask
    rw [this]
    exact Iff.rfl
  rw [iff1]
  have hpu : 0 < 2 ^ (8 * e + t) := Nat.pow_pos (by decide)
  have iff2 : path.toUInt64.toNat / 2 ^ (8 * e + t) * 2 ^ (8 * e + t) = pat.toUInt64.toNat ↔ path.toUInt64.toNat / 256 ^ e / 2 ^ t = c / 2 ^ t := by
    rw [show pat.toUInt64.toNat = (2 * m + 1) * 2 ^ (8 * e + t) from hpat, hdu]
    have : c / 2 ^ t = 2 * m + 1 := by rw [hm2, Nat.mul_div_cancel _ (Nat.pow_pos (by decide))]
    rw [this]
    exact ⟨fun h => Nat.eq_of_mul_eq_mul_right hpu h, fun h => by rw [h]⟩
  rw [iff2, hd, hd, hPc, hcq]
  rw [hcq] at tq h1 h2
  unfold own_byte
  generalize path.toUInt64.toNat / 256 ^ e = y
  have : t = 0 ∨ t = 1 ∨ t = 2 ∨ t = 3 ∨ t = 4 ∨ t = 5 ∨ t = 6 := by omega
  rcases this with rfl | rfl | rfl | rfl | rfl | rfl | rfl <;> omega
theorem own_bytes (X P : Nat) (hX : X < 2 ^ 64) (hP : P < 2 ^ 64) : ∀ d j, j + d = 8 → (∀ t, j ≤ t → t < 8 → own_byte X t = own_byte P t) → X / 256 ^ j = P / 256 ^ j
  | 0, j, h, _ => by
    obtain rfl : j = 8 := by omega
    rw [Nat.div_eq_of_lt (show X < 256 ^ 8 from hX), Nat.div_eq_of_lt (show P < 256 ^ 8 from hP)]
  | d + 1, j, h, H => by
    have ih := own_bytes X P hX hP d (j + 1) (by omega) (fun t h1 h2 => H t (by omega) h2)
    have hj := H j (by omega) (by omega)
    unfold own_byte at hj
    rw [Nat.pow_succ, ← Nat.div_div_eq_div_mul, ← Nat.div_div_eq_div_mul] at ih
    omega
theorem own_byte_of (X P j t : Nat) (h : X / 256 ^ j = P / 256 ^ j) (ht : j ≤ t) : own_byte X t = own_byte P t := by
  obtain ⟨d, rfl⟩ : ∃ d, t = j + d := ⟨t - j, by omega⟩
  unfold own_byte
  rw [Nat.pow_add, ← Nat.div_div_eq_div_mul, ← Nat.div_div_eq_div_mul, h]
def own_may (pat path : Int64) : Int32 := if path &&& -(pat &&& -pat) = pat then 1 else 0
def own_same (a p : Int64) (k i : Int32) : Int32 := if i < k then (if own_pb p i = own_oct a i then 1 else 0) else 1
def own_early (a p : Int64) (k i : Int32) : Int32 := if i < k - 1 then (if own_pb p i = own_oct a i then 1 else 0) else 1
/-! what the three branches of the law ask -/
theorem own_key (a p : Int64) (k : Nat) (hk : 1 ≤ k) (hk8 : k ≤ 8) :
    (p &&& -(own_pat a (Int32.ofNat k) &&& -own_pat a (Int32.ofNat k)) = own_pat a (Int32.ofNat k)) ↔
      ((∀ i, i < k - 1 → own_pb p (Int32.ofNat i) = own_oct a (Int32.ofNat i)) ∧ ¬ own_pb p (Int32.ofNat (k - 1)) < own_oct a (Int32.ofNat (k - 1)) ∧ own_pb p (Int32.ofNat (k - 1)) < own_oct a (Int32.ofNat (k - 1)) + (own_oct a (Int32.ofNat (k - 1)) &&& -own_oct a (Int32.ofNat (k - 1)))) := by
  have hv := own_pat_val a k hk8
  have hb : ∀ j, j < 8 → own_byte (own_pat a (Int32.ofNat k)).toUInt64.toNat j = if 7 - j < k then own_on a.toUInt64.toNat j else 0 := fun j hj => by rw [hv]; exact own_sum_byte _ k 8 j (by omega) (by omega) hj
  have hm : (own_pat a (Int32.ofNat k)).toUInt64.toNat % 256 ^ (8 - k) = 0 := by rw [hv, own_sum_stop _ k 8 hk8]; exact own_sum_mod _ k k hk8
  have hq := hb (8 - k) (by omega)
  rw [if_pos (by omega)] at hq
  have hon := own_on_lt a.toUInt64.toNat (8 - k)
  rw [own_core _ p (8 - k) (by omega) hm (by omega) (by omega)]
  have pbv : ∀ i, i < 8 → (own_pb p (Int32.ofNat i)).toInt = own_byte p.toUInt64.toNat (7 - i) := fun i hi => by
    have := own_pb_val p (7 - i) (by omega); rwa [show 7 - (7 - i) = i by omega] at this
  have ocv : ∀ i, i < 8 → (own_oct a (Int32.ofNat i)).toInt = own_on a.toUInt64.toNat (7 - i) := fun i hi => by
    have := own_oct_val a (7 - i) (by omega); rwa [show 7 - (7 - i) = i by omega] at this
  have p1 := pbv (k - 1) (by omega)
  have o1 := ocv (k - 1) (by omega)
  rw [show 7 - (k - 1) = 8 - k by omega] at p1 o1
  obtain ⟨t6, tq, tl⟩ := own_tz_val (own_on a.toUInt64.toNat (8 - k)) (by omega) hon.1
  have oe : own_oct a (Int32.ofNat (k - 1)) = Int32.ofNat (own_on a.toUInt64.toNat (8 - k)) := by
    apply Int32.toInt_inj.mp
    rw [o1, Int32.toInt_ofNat_of_lt (by omega)]
  have t64 : 2 ^ own_tz (own_on a.toUInt64.toNat (8 - k)) ≤ 64 := Nat.pow_le_pow_right (n := 2) (by decide) t6
  have sum : (own_oct a (Int32.ofNat (k - 1)) + (own_oct a (Int32.ofNat (k - 1)) &&& -own_oct a (Int32.ofNat (k - 1)))).toInt = (own_on a.toUInt64.toNat (8 - k) : Int) + ((2 ^ own_tz (own_on a.toUInt64.toNat (8 - k)) : Nat) : Int) := by
    rw [Int32.toInt_add, o1, oe, tl]
    have t0 : 0 < 2 ^ own_tz (own_on a.toUInt64.toNat (8 - k)) := Nat.pow_pos (by decide)
    generalize 2 ^ own_tz (own_on a.toUInt64.toNat (8 - k)) = W at t0 t64
    exact Int.bmod_eq_of_le (by omega) (by omega)
  rw [hq]
  have c1 : (¬ own_pb p (Int32.ofNat (k - 1)) < own_oct a (Int32.ofNat (k - 1))) ↔ own_on a.toUInt64.toNat (8 - k) ≤ own_byte p.toUInt64.toNat (8 - k) := by
    rw [Int32.lt_iff_toInt_lt, p1, o1]; omega
  have c2 : (own_pb p (Int32.ofNat (k - 1)) < own_oct a (Int32.ofNat (k - 1)) + (own_oct a (Int32.ofNat (k - 1)) &&& -own_oct a (Int32.ofNat (k - 1)))) ↔ own_byte p.toUInt64.toNat (8 - k) < own_on a.toUInt64.toNat (8 - k) + 2 ^ own_tz (own_on a.toUInt64.toNat (8 - k)) := by
    rw [Int32.lt_iff_toInt_lt, p1, sum]; omega
  rw [c1, c2]
  have c3 : (p.toUInt64.toNat / 256 ^ (8 - k + 1) = (own_pat a (Int32.ofNat k)).toUInt64.toNat / 256 ^ (8 - k + 1)) ↔ (∀ i, i < k - 1 → own_pb p (Int32.ofNat i) = own_oct a (Int32.ofNat i)) := by
    constructor
    · intro h i hi
      apply Int32.toInt_inj.mp
      rw [pbv i (by omega), ocv i (by omega), own_byte_of _ _ _ (7 - i) h (by omega), hb (7 - i) (by omega), if_pos (by omega)]
    · intro h
      refine own_bytes p.toUInt64.toNat (own_pat a (Int32.ofNat k)).toUInt64.toNat p.toUInt64.toBitVec.isLt (own_pat a (Int32.ofNat k)).toUInt64.toBitVec.isLt (k - 1) _ (by omega) fun t h1 h2 => ?_
      rw [hb t h2, if_pos (by omega)]
      have := h (7 - t) (by omega)
      rw [← Int32.toInt_inj, pbv _ (by omega), ocv _ (by omega), show 7 - (7 - t) = t by omega] at this
      exact_mod_cast this
  rw [c3]
theorem own_k (c : Int32) : ∃ k, k ≤ 8 ∧ (c &&& 2147483647) % 9 = Int32.ofNat k := by
  have h : (c &&& 2147483647).toBitVec.toNat ≤ 2147483647 := by
    rw [Int32.toBitVec_and, BitVec.toNat_and]; exact Nat.and_le_right
  have h0 : 0 ≤ (c &&& 2147483647).toInt := by
    show 0 ≤ (c &&& 2147483647).toBitVec.toInt
    rw [BitVec.toInt_eq_toNat_cond, if_pos (by omega)]; omega
  have e : ((c &&& 2147483647) % 9).toInt = (c &&& 2147483647).toInt % 9 := by
    rw [Int32.toInt_mod, show (9 : Int32).toInt = 9 by decide, Int.tmod_eq_emod_of_nonneg h0]
  refine ⟨((c &&& 2147483647).toInt % 9).toNat, by omega, ?_⟩
  apply Int32.toInt_inj.mp
  rw [e, Int32.toInt_ofNat_of_lt (by omega)]
  omega
theorem own_lt8 : ∀ k ≤ 8, ∀ i < 8, ((Int32.ofNat i < Int32.ofNat k) ↔ i < k) ∧ ((Int32.ofNat i < Int32.ofNat k - 1) ↔ i + 1 < k) := by decide
theorem own_A (a p : Int64) (k : Nat) (hk : k ≤ 8) (h : ∀ i, i < 8 → ¬ own_same a p (Int32.ofNat k) (Int32.ofNat i) = 0) : own_may (own_pat a (Int32.ofNat k)) p = 1 := by
  have hs : ∀ i, i < k → own_pb p (Int32.ofNat i) = own_oct a (Int32.ofNat i) := fun i hi => by
    have := h i (by omega)
    unfold own_same at this
    rw [if_pos ((own_lt8 k hk i (by omega)).1.mpr hi)] at this
    by_cases q : own_pb p (Int32.ofNat i) = own_oct a (Int32.ofNat i)
    · exact q
    · rw [if_neg q] at this; exact absurd rfl this
  unfold own_may
  by_cases k0 : k = 0
  · subst k0
    have z : own_pat a (Int32.ofNat 0) = 0 := by
      apply Int64.toBitVec_inj.mp
      apply BitVec.eq_of_toNat_eq
      show (own_pat a (Int32.ofNat 0)).toUInt64.toNat = 0
      rw [own_pat_val a 0 (by omega), own_sum_stop _ 0 8 (by omega)]; rfl
    rw [z, if_pos (by simp)]
  · rw [if_pos ((own_key a p k (by omega) hk).mpr ⟨fun i hi => hs i (by omega), ?_, ?_⟩)]
    · rw [hs (k - 1) (by omega), Int32.lt_iff_toInt_lt]; omega
    · rw [hs (k - 1) (by omega)]
      have o1 := own_oct_val a (8 - k) (by omega)
      rw [show 7 - (8 - k) = k - 1 by omega] at o1
      have hon := own_on_lt a.toUInt64.toNat (8 - k)
      have oe : own_oct a (Int32.ofNat (k - 1)) = Int32.ofNat (own_on a.toUInt64.toNat (8 - k)) := by
        apply Int32.toInt_inj.mp
        rw [o1, Int32.toInt_ofNat_of_lt (by omega)]
      rw [oe]
      have : ∀ q < 128, 1 ≤ q → Int32.ofNat q < Int32.ofNat q + (Int32.ofNat q &&& -Int32.ofNat q) := by decide +kernel
      exact this _ (by omega) hon.1
theorem own_B (a p : Int64) (k : Nat) (hk : k ≤ 8) (i : Nat) (hi : i < 8) (h : own_early a p (Int32.ofNat k) (Int32.ofNat i) = 0) : own_may (own_pat a (Int32.ofNat k)) p = 0 := by
  unfold own_early at h
  by_cases q : Int32.ofNat i < Int32.ofNat k - 1
  · rw [if_pos q] at h
    have hik := (own_lt8 k hk i hi).2.mp q
    unfold own_may
    rw [if_neg]
    intro u
    have := ((own_key a p k (by omega) hk).mp u).1 i (by omega)
    rw [if_pos this] at h
    exact absurd h (by decide)
  · rw [if_neg q] at h; exact absurd h (by decide)
theorem own_C (a p : Int64) (k : Nat) (hk : k ≤ 8) (h0 : 0 < Int32.ofNat k) (h : own_pb p (Int32.ofNat k - 1) < own_oct a (Int32.ofNat k - 1) ∨ ¬ own_pb p (Int32.ofNat k - 1) < own_oct a (Int32.ofNat k - 1) + (own_oct a (Int32.ofNat k - 1) &&& -own_oct a (Int32.ofNat k - 1))) : own_may (own_pat a (Int32.ofNat k)) p = 0 := by
  have e : ∀ k ≤ 8, 0 < Int32.ofNat k → 1 ≤ k ∧ Int32.ofNat k - 1 = Int32.ofNat (k - 1) := by decide
  obtain ⟨h1, h2⟩ := e k hk h0
  rw [h2] at h
  unfold own_may
  rw [if_neg]
  intro u
  have := ((own_key a p k h1 hk).mp u).2
  rcases h with h | h
  · exact this.1 h
  · exact h this.2

set_option maxRecDepth 65536 in
set_option maxHeartbeats 4000000 in
theorem rm_oct (l : Launch) (Z : State) (a0 : Array Value) (hw : ∀ d ∈ tables_1, d.before a0 Z = true) (h0 : Heap) (n0 : Nat) (a : Int64) (i : Int32) :
    Con false l Z (⟨"com/example/bouncr/bouncr/PathPatternMayMatchPinLaw", "oct", "(JI)I"⟩ : MethodName) method_3_code 3 (some .int) ({ frames := 0, cells := 0, slots := 0, locals := 0 } : Room) #[(.long a), (.int i)] h0 n0 (Ret (.int (own_oct a i)) h0) := by
  refine con_of (ls := [.val (.long a), .second, .val (.int i)]) (plainFor_of_name pn0) rfl ?_
  refine go_lload c2_0 rfl ?_
  refine go_push c2_1 ?_
  refine go_push c2_3 ?_
  refine go_iload c2_5 rfl ?_
  refine go_isub c2_6 ?_
  refine go_imul c2_7 ?_
  refine go_lushr c2_8 ?_
  refine go_ldcJ (y := (⟨"com/example/bouncr/bouncr/PathPatternMayMatchPinLaw", "oct", "(JI)I"⟩ : MethodName)) c2_9 (t8 hw) ?_
  refine go_land c2_12 ?_
  refine go_l2i c2_13 ?_
  refine go_push c2_14 ?_
  refine go_irem c2_16 (by decide) ?_
  refine go_push c2_17 ?_
  refine go_iadd c2_18 ?_
  exact go_iret rfl c2_19 (by decide) (by decide) ⟨_, rfl, rfl, rfl⟩
set_option maxRecDepth 65536 in
set_option maxHeartbeats 4000000 in
theorem rm_pb (l : Launch) (Z : State) (a0 : Array Value) (hw : ∀ d ∈ tables_1, d.before a0 Z = true) (h0 : Heap) (n0 : Nat) (p : Int64) (i : Int32) :
    Con false l Z (⟨"com/example/bouncr/bouncr/PathPatternMayMatchPinLaw", "pb", "(JI)I"⟩ : MethodName) method_5_code 3 (some .int) ({ frames := 0, cells := 0, slots := 0, locals := 0 } : Room) #[(.long p), (.int i)] h0 n0 (Ret (.int (own_pb p i)) h0) := by
  refine con_of (ls := [.val (.long p), .second, .val (.int i)]) (plainFor_of_name pn0) rfl ?_
  refine go_lload c6_0 rfl ?_
  refine go_push c6_1 ?_
  refine go_push c6_3 ?_
  refine go_iload c6_5 rfl ?_
  refine go_isub c6_6 ?_
  refine go_imul c6_7 ?_
  refine go_lushr c6_8 ?_
  refine go_ldcJ (y := (⟨"com/example/bouncr/bouncr/PathPatternMayMatchPinLaw", "pb", "(JI)I"⟩ : MethodName)) c6_9 (t23 hw) ?_
  refine go_land c6_12 ?_
  refine go_l2i c6_13 ?_
  exact go_iret rfl c6_14 (by decide) (by decide) ⟨_, rfl, rfl, rfl⟩
set_option maxRecDepth 65536 in
set_option maxHeartbeats 4000000 in
theorem rm_put (l : Launch) (Z : State) (a0 : Array Value) (hw : ∀ d ∈ tables_1, d.before a0 Z = true) (h0 : Heap) (n0 : Nat) (a : Int64) (k : Int32) (i : Int32) :
    Con false l Z (⟨"com/example/bouncr/bouncr/PathPatternMayMatchPinLaw", "put", "(JII)J"⟩ : MethodName) method_4_code 4 (some .long) ({ frames := 1, cells := 0, slots := 0, locals := 20 } : Room) #[(.long a), (.int k), (.int i)] h0 n0 (Ret (.long (own_put a k i)) h0) := by
  refine con_of (ls := [.val (.long a), .second, .val (.int k), .val (.int i)]) (plainFor_of_name pn0) rfl ?_
  refine go_iload c1_0 rfl ?_
  refine go_iload c1_1 rfl ?_
  refine go_icmp_ge c1_2 (fun b2 => ?_) (fun b2 => ?_)
  · refine go_lconst c1_22 ?_
    exact go_lret rfl c1_23 (by decide) (by decide) ⟨_, rfl, by first | (simp [own_put, *]; done) | (simp_all [own_put]; done), rfl⟩
  · refine go_lload c1_5 rfl ?_
    refine go_iload c1_6 rfl ?_
    refine go_callS1 (y := (⟨"com/example/bouncr/bouncr/PathPatternMayMatchPinLaw", "put", "(JII)J"⟩ : MethodName)) (W := 0) (argsL := [(.long a), (.int i)]) (st := []) c1_7 (rm_oct l Z a0 hw h0 n0 a i) (t5 hw) (t6 hw) (t3 hw) (t7 hw) (by decide) (lenOf pd0 rfl) rfl rfl (by decide) (by decide) (by decide) (by decide) rfl ?_
    rintro _ _ ⟨rfl, rfl⟩
    refine go_more (k' := 0) (n' := 0) (by decide) (by decide) ?_
    refine go_i2l c1_10 ?_
    refine go_push c1_11 ?_
    refine go_push c1_13 ?_
    refine go_iload c1_15 rfl ?_
    refine go_isub c1_16 ?_
    refine go_imul c1_17 ?_
    refine go_lshl c1_18 ?_
    refine go_goto c1_19 ?_
    exact go_lret rfl c1_23 (by decide) (by decide) ⟨_, rfl, by first | (simp [own_put, *]; done) | (simp_all [own_put]; done), rfl⟩
def own_lob (x : Int64) : Int64 := x &&& -x
set_option maxRecDepth 65536 in
set_option maxHeartbeats 4000000 in
theorem rm_lowestOneBit (l : Launch) (Z : State) (a0 : Array Value) (hw : ∀ d ∈ tables_1, d.before a0 Z = true) (h0 : Heap) (n0 : Nat) (x : Int64) :
    Con false l Z (⟨"java/lang/Long", "lowestOneBit", "(J)J"⟩ : MethodName) jdk_35_method_47_code 2 (some .long) ({ frames := 0, cells := 0, slots := 0, locals := 0 } : Room) #[(.long x)] h0 n0 (Ret (.long (own_lob x)) h0) := by
  refine con_of (ls := [.val (.long x), .second]) (plainFor_of_name pn1) rfl ?_
  refine go_lload c4_0 rfl ?_
  refine go_lload c4_1 rfl ?_
  refine go_lneg c4_2 ?_
  refine go_land c4_3 ?_
  exact go_lret rfl c4_4 (by decide) (by decide) ⟨_, rfl, rfl, rfl⟩
set_option maxRecDepth 65536 in
set_option maxHeartbeats 4000000 in
theorem rm_mayMatch (l : Launch) (Z : State) (a0 : Array Value) (hw : ∀ d ∈ tables_1, d.before a0 Z = true) (h0 : Heap) (n0 : Nat) (x : Int64) (z : Int64) :
    Con false l Z (⟨"com/example/bouncr/bouncr/PathPattern", "mayMatch", "(JJ)Z"⟩ : MethodName) prog_12_method_7_code 4 (some .boolean) ({ frames := 1, cells := 0, slots := 0, locals := 20 } : Room) #[(.long x), (.long z)] h0 n0 (Ret (.int (own_may x z)) h0) := by
  refine con_of (ls := [.val (.long x), .second, .val (.long z), .second]) (plainFor_of_name pn2) rfl ?_
  refine go_lload c3_0 rfl ?_
  refine go_lload c3_1 rfl ?_
  refine go_callS1 (y := (⟨"com/example/bouncr/bouncr/PathPattern", "mayMatch", "(JJ)Z"⟩ : MethodName)) (W := 2) (argsL := [(.long x)]) (st := [(.long z)]) c3_2 (rm_lowestOneBit l Z a0 hw h0 n0 x) (t13 hw) (t14 hw) (t15 hw) (t16 hw) (by decide) (lenOf pd1 rfl) rfl rfl (by decide) (by decide) (by decide) (by decide) rfl ?_
  rintro _ _ ⟨rfl, rfl⟩
  refine go_more (k' := 0) (n' := 0) (by decide) (by decide) ?_
  refine go_lneg c3_5 ?_
  refine go_land c3_6 ?_
  refine go_lload c3_7 rfl ?_
  refine go_lcmp c3_8 ?_
  refine go_lc_ne c3_9 (fun b9 => ?_) (fun b9 => ?_)
  · refine go_push c3_16 ?_
    exact go_bret rfl c3_17 (by decide) (by decide) (by decide) ⟨_, rfl, by first | (simp [own_may, own_lob, *]; done) | (simp_all [own_may, own_lob]; done), rfl⟩
  · refine go_push c3_12 ?_
    refine go_goto c3_13 ?_
    exact go_bret rfl c3_17 (by decide) (by decide) (by decide) ⟨_, rfl, by first | (simp [own_may, own_lob, *]; done) | (simp_all [own_may, own_lob]; done), rfl⟩
set_option maxRecDepth 65536 in
set_option maxHeartbeats 4000000 in
theorem rm_same (l : Launch) (Z : State) (a0 : Array Value) (hw : ∀ d ∈ tables_1, d.before a0 Z = true) (h0 : Heap) (n0 : Nat) (a : Int64) (p : Int64) (k : Int32) (i : Int32) :
    Con false l Z (⟨"com/example/bouncr/bouncr/PathPatternMayMatchPinLaw", "same", "(JJII)Z"⟩ : MethodName) method_6_code 6 (some .boolean) ({ frames := 1, cells := 0, slots := 0, locals := 20 } : Room) #[(.long a), (.long p), (.int k), (.int i)] h0 n0 (Ret (.int (own_same a p k i)) h0) := by
  refine con_of (ls := [.val (.long a), .second, .val (.long p), .second, .val (.int k), .val (.int i)]) (plainFor_of_name pn0) rfl ?_
  refine go_iload c5_0 rfl ?_
  refine go_iload c5_2 rfl ?_
  refine go_icmp_ge c5_4 (fun b4 => ?_) (fun b4 => ?_)
  · refine go_push c5_22 ?_
    refine go_goto c5_23 ?_
    exact go_bret rfl c5_27 (by decide) (by decide) (by decide) ⟨_, rfl, by first | (simp [own_same, *]; done) | (simp_all [own_same]; done), rfl⟩
  · refine go_lload c5_7 rfl ?_
    refine go_iload c5_8 rfl ?_
    refine go_callS1 (y := (⟨"com/example/bouncr/bouncr/PathPatternMayMatchPinLaw", "same", "(JJII)Z"⟩ : MethodName)) (W := 0) (argsL := [(.long p), (.int i)]) (st := []) c5_10 (rm_pb l Z a0 hw h0 n0 p i) (t20 hw) (t21 hw) (t3 hw) (t22 hw) (by decide) (lenOf pd0 rfl) rfl rfl (by decide) (by decide) (by decide) (by decide) rfl ?_
    rintro _ _ ⟨rfl, rfl⟩
    refine go_more (k' := 0) (n' := 0) (by decide) (by decide) ?_
    refine go_lload c5_13 rfl ?_
    refine go_iload c5_14 rfl ?_
    refine go_callS1 (y := (⟨"com/example/bouncr/bouncr/PathPatternMayMatchPinLaw", "same", "(JJII)Z"⟩ : MethodName)) (W := 1) (argsL := [(.long a), (.int i)]) (st := [(.int (own_pb p i))]) c5_16 (rm_oct l Z a0 hw h0 n0 a i) (t5 hw) (t6 hw) (t3 hw) (t7 hw) (by decide) (lenOf pd0 rfl) rfl rfl (by decide) (by decide) (by decide) (by decide) rfl ?_
    rintro _ _ ⟨rfl, rfl⟩
    refine go_more (k' := 0) (n' := 0) (by decide) (by decide) ?_
    refine go_icmp_ne c5_19 (fun b19 => ?_) (fun b19 => ?_)
    · refine go_push c5_26 ?_
      exact go_bret rfl c5_27 (by decide) (by decide) (by decide) ⟨_, rfl, by first | (simp [own_same, *]; done) | (simp_all [own_same]; done), rfl⟩
    · refine go_push c5_22 ?_
      refine go_goto c5_23 ?_
      exact go_bret rfl c5_27 (by decide) (by decide) (by decide) ⟨_, rfl, by first | (simp [own_same, *]; done) | (simp_all [own_same]; done), rfl⟩
set_option maxRecDepth 65536 in
set_option maxHeartbeats 4000000 in
theorem rm_earlier (l : Launch) (Z : State) (a0 : Array Value) (hw : ∀ d ∈ tables_1, d.before a0 Z = true) (h0 : Heap) (n0 : Nat) (a : Int64) (p : Int64) (k : Int32) (i : Int32) :
    Con false l Z (⟨"com/example/bouncr/bouncr/PathPatternMayMatchPinLaw", "earlier", "(JJII)Z"⟩ : MethodName) method_7_code 6 (some .boolean) ({ frames := 1, cells := 0, slots := 0, locals := 20 } : Room) #[(.long a), (.long p), (.int k), (.int i)] h0 n0 (Ret (.int (own_early a p k i)) h0) := by
  refine con_of (ls := [.val (.long a), .second, .val (.long p), .second, .val (.int k), .val (.int i)]) (plainFor_of_name pn0) rfl ?_
  refine go_iload c7_0 rfl ?_
  refine go_iload c7_2 rfl ?_
  refine go_push c7_4 ?_
  refine go_isub c7_5 ?_
  refine go_icmp_ge c7_6 (fun b6 => ?_) (fun b6 => ?_)
  · refine go_push c7_24 ?_
    refine go_goto c7_25 ?_
    exact go_bret rfl c7_29 (by decide) (by decide) (by decide) ⟨_, rfl, by first | (simp [own_early, *]; done) | (simp_all [own_early]; done), rfl⟩
  · refine go_lload c7_9 rfl ?_
    refine go_iload c7_10 rfl ?_
    refine go_callS1 (y := (⟨"com/example/bouncr/bouncr/PathPatternMayMatchPinLaw", "earlier", "(JJII)Z"⟩ : MethodName)) (W := 0) (argsL := [(.long p), (.int i)]) (st := []) c7_12 (rm_pb l Z a0 hw h0 n0 p i) (t20 hw) (t21 hw) (t3 hw) (t22 hw) (by decide) (lenOf pd0 rfl) rfl rfl (by decide) (by decide) (by decide) (by decide) rfl ?_
    rintro _ _ ⟨rfl, rfl⟩
    refine go_more (k' := 0) (n' := 0) (by decide) (by decide) ?_
    refine go_lload c7_15 rfl ?_
    refine go_iload c7_16 rfl ?_
    refine go_callS1 (y := (⟨"com/example/bouncr/bouncr/PathPatternMayMatchPinLaw", "earlier", "(JJII)Z"⟩ : MethodName)) (W := 1) (argsL := [(.long a), (.int i)]) (st := [(.int (own_pb p i))]) c7_18 (rm_oct l Z a0 hw h0 n0 a i) (t5 hw) (t6 hw) (t3 hw) (t7 hw) (by decide) (lenOf pd0 rfl) rfl rfl (by decide) (by decide) (by decide) (by decide) rfl ?_
    rintro _ _ ⟨rfl, rfl⟩
    refine go_more (k' := 0) (n' := 0) (by decide) (by decide) ?_
    refine go_icmp_ne c7_21 (fun b21 => ?_) (fun b21 => ?_)
    · refine go_push c7_28 ?_
      exact go_bret rfl c7_29 (by decide) (by decide) (by decide) ⟨_, rfl, by first | (simp [own_early, *]; done) | (simp_all [own_early]; done), rfl⟩
    · refine go_push c7_24 ?_
      refine go_goto c7_25 ?_
      exact go_bret rfl c7_29 (by decide) (by decide) (by decide) ⟨_, rfl, by first | (simp [own_early, *]; done) | (simp_all [own_early]; done), rfl⟩
set_option maxRecDepth 65536 in
set_option maxHeartbeats 4000000 in
theorem rm0 (l : Launch) (Z : State) (a0 : Array Value) (hw : ∀ d ∈ tables_1, d.before a0 Z = true) (h0 : Heap) (n0 : Nat) (a : Int64) (c : Int32) (fl : Int64) :
    Con false l Z x code maxLocals ret room_1 #[(.long a), (.int c), (.long fl)] h0 n0 (R1 fun w _ => w = .int 1) := by
  refine con_of (ls := [.val (.long a), .second, .val (.int c), .val (.long fl), .second, .unset, .unset, .unset, .unset, .unset, .unset, .unset, .unset, .unset, .unset, .unset]) (plainFor_of_name pn0) rfl ?_
  refine go_iload c0_0 rfl ?_
  refine go_ldcI (y := x) c0_1 (t0 hw) ?_
  refine go_iand c0_3 ?_
  refine go_push c0_4 ?_
  refine go_irem c0_6 (by decide) ?_
  obtain ⟨kn, hkn, ek⟩ := own_k c
  refine go_isI (Int32.ofNat kn) ek ?_
  refine go_istore c0_7 rfl rfl ?_
  dsimp only [setl]
  refine go_lload c0_9 rfl ?_
  refine go_iload c0_10 rfl ?_
  refine go_push c0_12 ?_
  refine go_callS1 (y := x) (W := 0) (argsL := [(.long a), (.int (Int32.ofNat kn)), (.int 0)]) (st := []) c0_13 (rm_put l Z a0 hw h0 n0 a (Int32.ofNat kn) 0) (t1 hw) (t2 hw) (t3 hw) (t4 hw) (by decide) (lenOf pd2 rfl) rfl rfl (by decide) (by decide) (by decide) (by decide) rfl ?_
  rintro _ _ ⟨rfl, rfl⟩
  refine go_more (k' := 0) (n' := 0) (by decide) (by decide) ?_
  refine go_lload c0_16 rfl ?_
  refine go_iload c0_17 rfl ?_
  refine go_push c0_19 ?_
  refine go_callS1 (y := x) (W := 2) (argsL := [(.long a), (.int (Int32.ofNat kn)), (.int 1)]) (st := [(.long (own_put a (Int32.ofNat kn) 0))]) c0_20 (rm_put l Z a0 hw h0 n0 a (Int32.ofNat kn) 1) (t1 hw) (t2 hw) (t3 hw) (t4 hw) (by decide) (lenOf pd2 rfl) rfl rfl (by decide) (by decide) (by decide) (by decide) rfl ?_
  rintro _ _ ⟨rfl, rfl⟩
  refine go_more (k' := 0) (n' := 0) (by decide) (by decide) ?_
  refine go_lor c0_23 ?_
  refine go_lload c0_24 rfl ?_
  refine go_iload c0_25 rfl ?_
  refine go_push c0_27 ?_
  refine go_callS1 (y := x) (W := 2) (argsL := [(.long a), (.int (Int32.ofNat kn)), (.int 2)]) (st := [(.long ((own_put a (Int32.ofNat kn) 0) ||| (own_put a (Int32.ofNat kn) 1)))]) c0_28 (rm_put l Z a0 hw h0 n0 a (Int32.ofNat kn) 2) (t1 hw) (t2 hw) (t3 hw) (t4 hw) (by decide) (lenOf pd2 rfl) rfl rfl (by decide) (by decide) (by decide) (by decide) rfl ?_
  rintro _ _ ⟨rfl, rfl⟩
  refine go_more (k' := 0) (n' := 0) (by decide) (by decide) ?_
  refine go_lor c0_31 ?_
  refine go_lload c0_32 rfl ?_
  refine go_iload c0_33 rfl ?_
  refine go_push c0_35 ?_
  refine go_callS1 (y := x) (W := 2) (argsL := [(.long a), (.int (Int32.ofNat kn)), (.int 3)]) (st := [(.long (((own_put a (Int32.ofNat kn) 0) ||| (own_put a (Int32.ofNat kn) 1)) ||| (own_put a (Int32.ofNat kn) 2)))]) c0_36 (rm_put l Z a0 hw h0 n0 a (Int32.ofNat kn) 3) (t1 hw) (t2 hw) (t3 hw) (t4 hw) (by decide) (lenOf pd2 rfl) rfl rfl (by decide) (by decide) (by decide) (by decide) rfl ?_
  rintro _ _ ⟨rfl, rfl⟩
  refine go_more (k' := 0) (n' := 0) (by decide) (by decide) ?_
  refine go_lor c0_39 ?_
  refine go_lload c0_40 rfl ?_
  refine go_iload c0_41 rfl ?_
  refine go_push c0_43 ?_
  refine go_callS1 (y := x) (W := 2) (argsL := [(.long a), (.int (Int32.ofNat kn)), (.int 4)]) (st := [(.long ((((own_put a (Int32.ofNat kn) 0) ||| (own_put a (Int32.ofNat kn) 1)) ||| (own_put a (Int32.ofNat kn) 2)) ||| (own_put a (Int32.ofNat kn) 3)))]) c0_44 (rm_put l Z a0 hw h0 n0 a (Int32.ofNat kn) 4) (t1 hw) (t2 hw) (t3 hw) (t4 hw) (by decide) (lenOf pd2 rfl) rfl rfl (by decide) (by decide) (by decide) (by decide) rfl ?_
  rintro _ _ ⟨rfl, rfl⟩
  refine go_more (k' := 0) (n' := 0) (by decide) (by decide) ?_
  refine go_lor c0_47 ?_
  refine go_lload c0_48 rfl ?_
  refine go_iload c0_49 rfl ?_
  refine go_push c0_51 ?_
  refine go_callS1 (y := x) (W := 2) (argsL := [(.long a), (.int (Int32.ofNat kn)), (.int 5)]) (st := [(.long (((((own_put a (Int32.ofNat kn) 0) ||| (own_put a (Int32.ofNat kn) 1)) ||| (own_put a (Int32.ofNat kn) 2)) ||| (own_put a (Int32.ofNat kn) 3)) ||| (own_put a (Int32.ofNat kn) 4)))]) c0_52 (rm_put l Z a0 hw h0 n0 a (Int32.ofNat kn) 5) (t1 hw) (t2 hw) (t3 hw) (t4 hw) (by decide) (lenOf pd2 rfl) rfl rfl (by decide) (by decide) (by decide) (by decide) rfl ?_
  rintro _ _ ⟨rfl, rfl⟩
  refine go_more (k' := 0) (n' := 0) (by decide) (by decide) ?_
  refine go_lor c0_55 ?_
  refine go_lload c0_56 rfl ?_
  refine go_iload c0_57 rfl ?_
  refine go_push c0_59 ?_
  refine go_callS1 (y := x) (W := 2) (argsL := [(.long a), (.int (Int32.ofNat kn)), (.int 6)]) (st := [(.long ((((((own_put a (Int32.ofNat kn) 0) ||| (own_put a (Int32.ofNat kn) 1)) ||| (own_put a (Int32.ofNat kn) 2)) ||| (own_put a (Int32.ofNat kn) 3)) ||| (own_put a (Int32.ofNat kn) 4)) ||| (own_put a (Int32.ofNat kn) 5)))]) c0_61 (rm_put l Z a0 hw h0 n0 a (Int32.ofNat kn) 6) (t1 hw) (t2 hw) (t3 hw) (t4 hw) (by decide) (lenOf pd2 rfl) rfl rfl (by decide) (by decide) (by decide) (by decide) rfl ?_
  rintro _ _ ⟨rfl, rfl⟩
  refine go_more (k' := 0) (n' := 0) (by decide) (by decide) ?_
  refine go_lor c0_64 ?_
  refine go_lload c0_65 rfl ?_
  refine go_iload c0_66 rfl ?_
  refine go_push c0_68 ?_
  refine go_callS1 (y := x) (W := 2) (argsL := [(.long a), (.int (Int32.ofNat kn)), (.int 7)]) (st := [(.long (((((((own_put a (Int32.ofNat kn) 0) ||| (own_put a (Int32.ofNat kn) 1)) ||| (own_put a (Int32.ofNat kn) 2)) ||| (own_put a (Int32.ofNat kn) 3)) ||| (own_put a (Int32.ofNat kn) 4)) ||| (own_put a (Int32.ofNat kn) 5)) ||| (own_put a (Int32.ofNat kn) 6)))]) c0_70 (rm_put l Z a0 hw h0 n0 a (Int32.ofNat kn) 7) (t1 hw) (t2 hw) (t3 hw) (t4 hw) (by decide) (lenOf pd2 rfl) rfl rfl (by decide) (by decide) (by decide) (by decide) rfl ?_
  rintro _ _ ⟨rfl, rfl⟩
  refine go_more (k' := 0) (n' := 0) (by decide) (by decide) ?_
  refine go_lor c0_73 ?_
  refine go_isJ (own_pat a (Int32.ofNat kn)) rfl ?_
  refine go_lstore c0_74 rfl rfl rfl ?_
  dsimp only [setl]
  refine go_lload c0_76 rfl ?_
  refine go_lload c0_78 rfl ?_
  refine go_lxor c0_79 ?_
  refine go_nameJ fun pth e_pth => ?_
  refine go_lstore c0_80 rfl rfl rfl ?_
  dsimp only [setl]
  refine go_lload c0_82 rfl ?_
  refine go_lload c0_84 rfl ?_
  refine go_callS1 (y := x) (W := 0) (argsL := [(.long (own_pat a (Int32.ofNat kn))), (.long pth)]) (st := []) c0_86 (rm_mayMatch l Z a0 hw h0 n0 (own_pat a (Int32.ofNat kn)) pth) (t9 hw) (t10 hw) (t11 hw) (t12 hw) (by decide) (lenOf pd3 rfl) rfl rfl (by decide) (by decide) (by decide) (by decide) rfl ?_
  rintro _ _ ⟨rfl, rfl⟩
  refine go_more (k' := 0) (n' := 0) (by decide) (by decide) ?_
  refine go_istore c0_89 rfl rfl ?_
  dsimp only [setl]
  have hmay : (own_may (own_pat a (Int32.ofNat kn)) pth) = 0 ∨ (own_may (own_pat a (Int32.ofNat kn)) pth) = 1 := by unfold own_may; split <;> simp
  have JF : ∀ (v e q p f : Int32), (v = 0 ∨ (own_may (own_pat a (Int32.ofNat kn)) pth) = 1) → ((e = 1) ∨ (own_may (own_pat a (Int32.ofNat kn)) pth) = 0) → ((f = 0) ∨ (own_may (own_pat a (Int32.ofNat kn)) pth) = 0) → Go false KT l Z room_1 x code maxLocals ret n0 room_1.cells room_1.slots (R1 fun w _ => w = .int 1) h0 0 0 371 [.val (.long a), .second, .val (.int c), .val (.long fl), .second, .val (.int (Int32.ofNat kn)), .val (.long (own_pat a (Int32.ofNat kn))), .second, .val (.long pth), .second, .val (.int (own_may (own_pat a (Int32.ofNat kn)) pth)), .val (.int v), .val (.int e), .val (.int q), .val (.int p), .unset] [(.int f)] := by
    intro v e q p f hv he hf
    refine go_istore c0_371 rfl rfl ?_
    dsimp only [setl]
    refine go_iload c0_373 rfl ?_
    refine go_if_eq c0_375 (fun b375 => ?_) (fun b375 => ?_)
    · refine go_iload c0_381 rfl ?_
      refine go_if_eq c0_383 (fun b383 => ?_) (fun b383 => ?_)
      · refine go_iload c0_391 rfl ?_
        refine go_if_ne c0_393 (fun b393 => ?_) (fun b393 => ?_)
        · first | exact absurd (he.resolve_left (fun u => absurd (u ▸ b383) (by decide))) b393 | exact absurd (hf.resolve_left b388) b393
        · refine go_push c0_396 ?_
          refine go_goto c0_397 ?_
          exact go_bret rfl c0_401 (by decide) (by decide) (by decide) ⟨_, rfl, rfl⟩
      · refine go_iload c0_386 rfl ?_
        refine go_if_eq c0_388 (fun b388 => ?_) (fun b388 => ?_)
        · refine go_push c0_402 ?_
          exact go_bret rfl c0_403 (by decide) (by decide) (by decide) ⟨_, rfl, rfl⟩
        · refine go_iload c0_391 rfl ?_
          refine go_if_ne c0_393 (fun b393 => ?_) (fun b393 => ?_)
          · first | exact absurd (he.resolve_left (fun u => absurd (u ▸ b383) (by decide))) b393 | exact absurd (hf.resolve_left b388) b393
          · refine go_push c0_396 ?_
            refine go_goto c0_397 ?_
            exact go_bret rfl c0_401 (by decide) (by decide) (by decide) ⟨_, rfl, rfl⟩
    · refine go_iload c0_378 rfl ?_
      exact go_bret rfl c0_380 (by decide) (by decide) hmay ⟨_, rfl, by rw [hv.resolve_left b375]⟩
  have JE : ∀ (v e : Int32), (v = 0 ∨ (own_may (own_pat a (Int32.ofNat kn)) pth) = 1) → ((e = 1) ∨ (own_may (own_pat a (Int32.ofNat kn)) pth) = 0) → Go false KT l Z room_1 x code maxLocals ret n0 room_1.cells room_1.slots (R1 fun w _ => w = .int 1) h0 0 0 299 [.val (.long a), .second, .val (.int c), .val (.long fl), .second, .val (.int (Int32.ofNat kn)), .val (.long (own_pat a (Int32.ofNat kn))), .second, .val (.long pth), .second, .val (.int (own_may (own_pat a (Int32.ofNat kn)) pth)), .val (.int v), .unset, .unset, .unset, .unset] [(.int e)] := by
    intro v e hv he
    refine go_istore c0_299 rfl rfl ?_
    dsimp only [setl]
    refine go_iload c0_301 rfl ?_
    refine go_if_ne c0_303 (fun b303 => ?_) (fun b303 => ?_)
    · refine go_lload c0_310 rfl ?_
      refine go_iload c0_311 rfl ?_
      refine go_push c0_313 ?_
      refine go_isub c0_314 ?_
      refine go_callS1 (y := x) (W := 0) (argsL := [(.long a), (.int ((Int32.ofNat kn) - 1))]) (st := []) c0_315 (rm_oct l Z a0 hw h0 n0 a ((Int32.ofNat kn) - 1)) (t5 hw) (t6 hw) (t3 hw) (t7 hw) (by decide) (lenOf pd0 rfl) rfl rfl (by decide) (by decide) (by decide) (by decide) rfl ?_
      rintro _ _ ⟨rfl, rfl⟩
      refine go_more (k' := 0) (n' := 0) (by decide) (by decide) ?_
      refine go_istore c0_318 rfl rfl ?_
      dsimp only [setl]
      refine go_iload c0_320 rfl ?_
      refine go_if_ne c0_322 (fun b322 => ?_) (fun b322 => ?_)
      · refine go_lload c0_329 rfl ?_
        refine go_iload c0_331 rfl ?_
        refine go_push c0_333 ?_
        refine go_isub c0_334 ?_
        refine go_callS1 (y := x) (W := 0) (argsL := [(.long pth), (.int ((Int32.ofNat kn) - 1))]) (st := []) c0_335 (rm_pb l Z a0 hw h0 n0 pth ((Int32.ofNat kn) - 1)) (t20 hw) (t21 hw) (t3 hw) (t22 hw) (by decide) (lenOf pd0 rfl) rfl rfl (by decide) (by decide) (by decide) (by decide) rfl ?_
        rintro _ _ ⟨rfl, rfl⟩
        refine go_more (k' := 0) (n' := 0) (by decide) (by decide) ?_
        refine go_istore c0_338 rfl rfl ?_
        dsimp only [setl]
        refine go_iload c0_340 rfl ?_
        refine go_if_le c0_342 (fun b342 => ?_) (fun b342 => ?_)
        · refine go_push c0_370 ?_
          exact JF _ _ _ _ _ hv he (Or.inl rfl)
        · refine go_iload c0_345 rfl ?_
          refine go_iload c0_347 rfl ?_
          refine go_icmp_lt c0_349 (fun b349 => ?_) (fun b349 => ?_)
          · refine go_push c0_366 ?_
            refine go_goto c0_367 ?_
            first | exact JF _ _ _ _ _ hv he (Or.inr (own_C a pth kn hkn b342 (Or.inr b363))) | exact JF _ _ _ _ _ hv he (Or.inr (own_C a pth kn hkn b342 (Or.inl b349)))
          · refine go_iload c0_352 rfl ?_
            refine go_iload c0_354 rfl ?_
            refine go_iload c0_356 rfl ?_
            refine go_iload c0_358 rfl ?_
            refine go_ineg c0_360 ?_
            refine go_iand c0_361 ?_
            refine go_iadd c0_362 ?_
            refine go_icmp_lt c0_363 (fun b363 => ?_) (fun b363 => ?_)
            · refine go_push c0_370 ?_
              exact JF _ _ _ _ _ hv he (Or.inl rfl)
            · refine go_push c0_366 ?_
              refine go_goto c0_367 ?_
              first | exact JF _ _ _ _ _ hv he (Or.inr (own_C a pth kn hkn b342 (Or.inr b363))) | exact JF _ _ _ _ _ hv he (Or.inr (own_C a pth kn hkn b342 (Or.inl b349)))
      · exact absurd b322 b303
    · refine go_push c0_306 ?_
      refine go_goto c0_307 ?_
      refine go_istore c0_318 rfl rfl ?_
      dsimp only [setl]
      refine go_iload c0_320 rfl ?_
      refine go_if_ne c0_322 (fun b322 => ?_) (fun b322 => ?_)
      · exact absurd b303 b322
      · refine go_push c0_325 ?_
        refine go_goto c0_326 ?_
        refine go_istore c0_338 rfl rfl ?_
        dsimp only [setl]
        refine go_iload c0_340 rfl ?_
        refine go_if_le c0_342 (fun b342 => ?_) (fun b342 => ?_)
        · refine go_push c0_370 ?_
          exact JF _ _ _ _ _ hv he (Or.inl rfl)
        · exact absurd (b303 ▸ b342) (by decide)
  have JA : ∀ (v : Int32), (v = 0 ∨ (own_may (own_pat a (Int32.ofNat kn)) pth) = 1) → Go false KT l Z room_1 x code maxLocals ret n0 room_1.cells room_1.slots (R1 fun w _ => w = .int 1) h0 0 0 194 [.val (.long a), .second, .val (.int c), .val (.long fl), .second, .val (.int (Int32.ofNat kn)), .val (.long (own_pat a (Int32.ofNat kn))), .second, .val (.long pth), .second, .val (.int (own_may (own_pat a (Int32.ofNat kn)) pth)), .unset, .unset, .unset, .unset, .unset] [(.int v)] := by
    intro v hv
    refine go_istore c0_194 rfl rfl ?_
    dsimp only [setl]
    refine go_lload c0_196 rfl ?_
    refine go_lload c0_197 rfl ?_
    refine go_iload c0_199 rfl ?_
    refine go_push c0_201 ?_
    refine go_callS1 (y := x) (W := 0) (argsL := [(.long a), (.long pth), (.int (Int32.ofNat kn)), (.int 0)]) (st := []) c0_202 (rm_earlier l Z a0 hw h0 n0 a pth (Int32.ofNat kn) 0) (t24 hw) (t25 hw) (t3 hw) (t26 hw) (by decide) (lenOf pd4 rfl) rfl rfl (by decide) (by decide) (by decide) (by decide) rfl ?_
    rintro _ _ ⟨rfl, rfl⟩
    refine go_more (k' := 0) (n' := 0) (by decide) (by decide) ?_
    refine go_if_eq c0_205 (fun b205 => ?_) (fun b205 => ?_)
    · refine go_push c0_298 ?_
      first | exact JE _ _ hv (Or.inr (own_B a pth kn hkn 0 (by decide) b205)) | exact JE _ _ hv (Or.inr (own_B a pth kn hkn 1 (by decide) b217)) | exact JE _ _ hv (Or.inr (own_B a pth kn hkn 2 (by decide) b229)) | exact JE _ _ hv (Or.inr (own_B a pth kn hkn 3 (by decide) b241)) | exact JE _ _ hv (Or.inr (own_B a pth kn hkn 4 (by decide) b253)) | exact JE _ _ hv (Or.inr (own_B a pth kn hkn 5 (by decide) b265)) | exact JE _ _ hv (Or.inr (own_B a pth kn hkn 6 (by decide) b278)) | exact JE _ _ hv (Or.inr (own_B a pth kn hkn 7 (by decide) b291))
    · refine go_lload c0_208 rfl ?_
      refine go_lload c0_209 rfl ?_
      refine go_iload c0_211 rfl ?_
      refine go_push c0_213 ?_
      refine go_callS1 (y := x) (W := 0) (argsL := [(.long a), (.long pth), (.int (Int32.ofNat kn)), (.int 1)]) (st := []) c0_214 (rm_earlier l Z a0 hw h0 n0 a pth (Int32.ofNat kn) 1) (t24 hw) (t25 hw) (t3 hw) (t26 hw) (by decide) (lenOf pd4 rfl) rfl rfl (by decide) (by decide) (by decide) (by decide) rfl ?_
      rintro _ _ ⟨rfl, rfl⟩
      refine go_more (k' := 0) (n' := 0) (by decide) (by decide) ?_
      refine go_if_eq c0_217 (fun b217 => ?_) (fun b217 => ?_)
      · refine go_push c0_298 ?_
        first | exact JE _ _ hv (Or.inr (own_B a pth kn hkn 0 (by decide) b205)) | exact JE _ _ hv (Or.inr (own_B a pth kn hkn 1 (by decide) b217)) | exact JE _ _ hv (Or.inr (own_B a pth kn hkn 2 (by decide) b229)) | exact JE _ _ hv (Or.inr (own_B a pth kn hkn 3 (by decide) b241)) | exact JE _ _ hv (Or.inr (own_B a pth kn hkn 4 (by decide) b253)) | exact JE _ _ hv (Or.inr (own_B a pth kn hkn 5 (by decide) b265)) | exact JE _ _ hv (Or.inr (own_B a pth kn hkn 6 (by decide) b278)) | exact JE _ _ hv (Or.inr (own_B a pth kn hkn 7 (by decide) b291))
      · refine go_lload c0_220 rfl ?_
        refine go_lload c0_221 rfl ?_
        refine go_iload c0_223 rfl ?_
        refine go_push c0_225 ?_
        refine go_callS1 (y := x) (W := 0) (argsL := [(.long a), (.long pth), (.int (Int32.ofNat kn)), (.int 2)]) (st := []) c0_226 (rm_earlier l Z a0 hw h0 n0 a pth (Int32.ofNat kn) 2) (t24 hw) (t25 hw) (t3 hw) (t26 hw) (by decide) (lenOf pd4 rfl) rfl rfl (by decide) (by decide) (by decide) (by decide) rfl ?_
        rintro _ _ ⟨rfl, rfl⟩
        refine go_more (k' := 0) (n' := 0) (by decide) (by decide) ?_
        refine go_if_eq c0_229 (fun b229 => ?_) (fun b229 => ?_)
        · refine go_push c0_298 ?_
          first | exact JE _ _ hv (Or.inr (own_B a pth kn hkn 0 (by decide) b205)) | exact JE _ _ hv (Or.inr (own_B a pth kn hkn 1 (by decide) b217)) | exact JE _ _ hv (Or.inr (own_B a pth kn hkn 2 (by decide) b229)) | exact JE _ _ hv (Or.inr (own_B a pth kn hkn 3 (by decide) b241)) | exact JE _ _ hv (Or.inr (own_B a pth kn hkn 4 (by decide) b253)) | exact JE _ _ hv (Or.inr (own_B a pth kn hkn 5 (by decide) b265)) | exact JE _ _ hv (Or.inr (own_B a pth kn hkn 6 (by decide) b278)) | exact JE _ _ hv (Or.inr (own_B a pth kn hkn 7 (by decide) b291))
        · refine go_lload c0_232 rfl ?_
          refine go_lload c0_233 rfl ?_
          refine go_iload c0_235 rfl ?_
          refine go_push c0_237 ?_
          refine go_callS1 (y := x) (W := 0) (argsL := [(.long a), (.long pth), (.int (Int32.ofNat kn)), (.int 3)]) (st := []) c0_238 (rm_earlier l Z a0 hw h0 n0 a pth (Int32.ofNat kn) 3) (t24 hw) (t25 hw) (t3 hw) (t26 hw) (by decide) (lenOf pd4 rfl) rfl rfl (by decide) (by decide) (by decide) (by decide) rfl ?_
          rintro _ _ ⟨rfl, rfl⟩
          refine go_more (k' := 0) (n' := 0) (by decide) (by decide) ?_
          refine go_if_eq c0_241 (fun b241 => ?_) (fun b241 => ?_)
          · refine go_push c0_298 ?_
            first | exact JE _ _ hv (Or.inr (own_B a pth kn hkn 0 (by decide) b205)) | exact JE _ _ hv (Or.inr (own_B a pth kn hkn 1 (by decide) b217)) | exact JE _ _ hv (Or.inr (own_B a pth kn hkn 2 (by decide) b229)) | exact JE _ _ hv (Or.inr (own_B a pth kn hkn 3 (by decide) b241)) | exact JE _ _ hv (Or.inr (own_B a pth kn hkn 4 (by decide) b253)) | exact JE _ _ hv (Or.inr (own_B a pth kn hkn 5 (by decide) b265)) | exact JE _ _ hv (Or.inr (own_B a pth kn hkn 6 (by decide) b278)) | exact JE _ _ hv (Or.inr (own_B a pth kn hkn 7 (by decide) b291))
          · refine go_lload c0_244 rfl ?_
            refine go_lload c0_245 rfl ?_
            refine go_iload c0_247 rfl ?_
            refine go_push c0_249 ?_
            refine go_callS1 (y := x) (W := 0) (argsL := [(.long a), (.long pth), (.int (Int32.ofNat kn)), (.int 4)]) (st := []) c0_250 (rm_earlier l Z a0 hw h0 n0 a pth (Int32.ofNat kn) 4) (t24 hw) (t25 hw) (t3 hw) (t26 hw) (by decide) (lenOf pd4 rfl) rfl rfl (by decide) (by decide) (by decide) (by decide) rfl ?_
            rintro _ _ ⟨rfl, rfl⟩
            refine go_more (k' := 0) (n' := 0) (by decide) (by decide) ?_
            refine go_if_eq c0_253 (fun b253 => ?_) (fun b253 => ?_)
            · refine go_push c0_298 ?_
              first | exact JE _ _ hv (Or.inr (own_B a pth kn hkn 0 (by decide) b205)) | exact JE _ _ hv (Or.inr (own_B a pth kn hkn 1 (by decide) b217)) | exact JE _ _ hv (Or.inr (own_B a pth kn hkn 2 (by decide) b229)) | exact JE _ _ hv (Or.inr (own_B a pth kn hkn 3 (by decide) b241)) | exact JE _ _ hv (Or.inr (own_B a pth kn hkn 4 (by decide) b253)) | exact JE _ _ hv (Or.inr (own_B a pth kn hkn 5 (by decide) b265)) | exact JE _ _ hv (Or.inr (own_B a pth kn hkn 6 (by decide) b278)) | exact JE _ _ hv (Or.inr (own_B a pth kn hkn 7 (by decide) b291))
            · refine go_lload c0_256 rfl ?_
              refine go_lload c0_257 rfl ?_
              refine go_iload c0_259 rfl ?_
              refine go_push c0_261 ?_
              refine go_callS1 (y := x) (W := 0) (argsL := [(.long a), (.long pth), (.int (Int32.ofNat kn)), (.int 5)]) (st := []) c0_262 (rm_earlier l Z a0 hw h0 n0 a pth (Int32.ofNat kn) 5) (t24 hw) (t25 hw) (t3 hw) (t26 hw) (by decide) (lenOf pd4 rfl) rfl rfl (by decide) (by decide) (by decide) (by decide) rfl ?_
              rintro _ _ ⟨rfl, rfl⟩
              refine go_more (k' := 0) (n' := 0) (by decide) (by decide) ?_
              refine go_if_eq c0_265 (fun b265 => ?_) (fun b265 => ?_)
              · refine go_push c0_298 ?_
                first | exact JE _ _ hv (Or.inr (own_B a pth kn hkn 0 (by decide) b205)) | exact JE _ _ hv (Or.inr (own_B a pth kn hkn 1 (by decide) b217)) | exact JE _ _ hv (Or.inr (own_B a pth kn hkn 2 (by decide) b229)) | exact JE _ _ hv (Or.inr (own_B a pth kn hkn 3 (by decide) b241)) | exact JE _ _ hv (Or.inr (own_B a pth kn hkn 4 (by decide) b253)) | exact JE _ _ hv (Or.inr (own_B a pth kn hkn 5 (by decide) b265)) | exact JE _ _ hv (Or.inr (own_B a pth kn hkn 6 (by decide) b278)) | exact JE _ _ hv (Or.inr (own_B a pth kn hkn 7 (by decide) b291))
              · refine go_lload c0_268 rfl ?_
                refine go_lload c0_269 rfl ?_
                refine go_iload c0_271 rfl ?_
                refine go_push c0_273 ?_
                refine go_callS1 (y := x) (W := 0) (argsL := [(.long a), (.long pth), (.int (Int32.ofNat kn)), (.int 6)]) (st := []) c0_275 (rm_earlier l Z a0 hw h0 n0 a pth (Int32.ofNat kn) 6) (t24 hw) (t25 hw) (t3 hw) (t26 hw) (by decide) (lenOf pd4 rfl) rfl rfl (by decide) (by decide) (by decide) (by decide) rfl ?_
                rintro _ _ ⟨rfl, rfl⟩
                refine go_more (k' := 0) (n' := 0) (by decide) (by decide) ?_
                refine go_if_eq c0_278 (fun b278 => ?_) (fun b278 => ?_)
                · refine go_push c0_298 ?_
                  first | exact JE _ _ hv (Or.inr (own_B a pth kn hkn 0 (by decide) b205)) | exact JE _ _ hv (Or.inr (own_B a pth kn hkn 1 (by decide) b217)) | exact JE _ _ hv (Or.inr (own_B a pth kn hkn 2 (by decide) b229)) | exact JE _ _ hv (Or.inr (own_B a pth kn hkn 3 (by decide) b241)) | exact JE _ _ hv (Or.inr (own_B a pth kn hkn 4 (by decide) b253)) | exact JE _ _ hv (Or.inr (own_B a pth kn hkn 5 (by decide) b265)) | exact JE _ _ hv (Or.inr (own_B a pth kn hkn 6 (by decide) b278)) | exact JE _ _ hv (Or.inr (own_B a pth kn hkn 7 (by decide) b291))
                · refine go_lload c0_281 rfl ?_
                  refine go_lload c0_282 rfl ?_
                  refine go_iload c0_284 rfl ?_
                  refine go_push c0_286 ?_
                  refine go_callS1 (y := x) (W := 0) (argsL := [(.long a), (.long pth), (.int (Int32.ofNat kn)), (.int 7)]) (st := []) c0_288 (rm_earlier l Z a0 hw h0 n0 a pth (Int32.ofNat kn) 7) (t24 hw) (t25 hw) (t3 hw) (t26 hw) (by decide) (lenOf pd4 rfl) rfl rfl (by decide) (by decide) (by decide) (by decide) rfl ?_
                  rintro _ _ ⟨rfl, rfl⟩
                  refine go_more (k' := 0) (n' := 0) (by decide) (by decide) ?_
                  refine go_if_eq c0_291 (fun b291 => ?_) (fun b291 => ?_)
                  · refine go_push c0_298 ?_
                    first | exact JE _ _ hv (Or.inr (own_B a pth kn hkn 0 (by decide) b205)) | exact JE _ _ hv (Or.inr (own_B a pth kn hkn 1 (by decide) b217)) | exact JE _ _ hv (Or.inr (own_B a pth kn hkn 2 (by decide) b229)) | exact JE _ _ hv (Or.inr (own_B a pth kn hkn 3 (by decide) b241)) | exact JE _ _ hv (Or.inr (own_B a pth kn hkn 4 (by decide) b253)) | exact JE _ _ hv (Or.inr (own_B a pth kn hkn 5 (by decide) b265)) | exact JE _ _ hv (Or.inr (own_B a pth kn hkn 6 (by decide) b278)) | exact JE _ _ hv (Or.inr (own_B a pth kn hkn 7 (by decide) b291))
                  · refine go_push c0_294 ?_
                    refine go_goto c0_295 ?_
                    exact JE _ _ hv (Or.inl rfl)
  refine go_lload c0_91 rfl ?_
  refine go_lload c0_92 rfl ?_
  refine go_iload c0_94 rfl ?_
  refine go_push c0_96 ?_
  refine go_callS1 (y := x) (W := 0) (argsL := [(.long a), (.long pth), (.int (Int32.ofNat kn)), (.int 0)]) (st := []) c0_97 (rm_same l Z a0 hw h0 n0 a pth (Int32.ofNat kn) 0) (t17 hw) (t18 hw) (t3 hw) (t19 hw) (by decide) (lenOf pd4 rfl) rfl rfl (by decide) (by decide) (by decide) (by decide) rfl ?_
  rintro _ _ ⟨rfl, rfl⟩
  refine go_more (k' := 0) (n' := 0) (by decide) (by decide) ?_
  refine go_if_eq c0_100 (fun b100 => ?_) (fun b100 => ?_)
  · refine go_push c0_193 ?_
    exact JA _ (Or.inl rfl)
  · refine go_lload c0_103 rfl ?_
    refine go_lload c0_104 rfl ?_
    refine go_iload c0_106 rfl ?_
    refine go_push c0_108 ?_
    refine go_callS1 (y := x) (W := 0) (argsL := [(.long a), (.long pth), (.int (Int32.ofNat kn)), (.int 1)]) (st := []) c0_109 (rm_same l Z a0 hw h0 n0 a pth (Int32.ofNat kn) 1) (t17 hw) (t18 hw) (t3 hw) (t19 hw) (by decide) (lenOf pd4 rfl) rfl rfl (by decide) (by decide) (by decide) (by decide) rfl ?_
    rintro _ _ ⟨rfl, rfl⟩
    refine go_more (k' := 0) (n' := 0) (by decide) (by decide) ?_
    refine go_if_eq c0_112 (fun b112 => ?_) (fun b112 => ?_)
    · refine go_push c0_193 ?_
      exact JA _ (Or.inl rfl)
    · refine go_lload c0_115 rfl ?_
      refine go_lload c0_116 rfl ?_
      refine go_iload c0_118 rfl ?_
      refine go_push c0_120 ?_
      refine go_callS1 (y := x) (W := 0) (argsL := [(.long a), (.long pth), (.int (Int32.ofNat kn)), (.int 2)]) (st := []) c0_121 (rm_same l Z a0 hw h0 n0 a pth (Int32.ofNat kn) 2) (t17 hw) (t18 hw) (t3 hw) (t19 hw) (by decide) (lenOf pd4 rfl) rfl rfl (by decide) (by decide) (by decide) (by decide) rfl ?_
      rintro _ _ ⟨rfl, rfl⟩
      refine go_more (k' := 0) (n' := 0) (by decide) (by decide) ?_
      refine go_if_eq c0_124 (fun b124 => ?_) (fun b124 => ?_)
      · refine go_push c0_193 ?_
        exact JA _ (Or.inl rfl)
      · refine go_lload c0_127 rfl ?_
        refine go_lload c0_128 rfl ?_
        refine go_iload c0_130 rfl ?_
        refine go_push c0_132 ?_
        refine go_callS1 (y := x) (W := 0) (argsL := [(.long a), (.long pth), (.int (Int32.ofNat kn)), (.int 3)]) (st := []) c0_133 (rm_same l Z a0 hw h0 n0 a pth (Int32.ofNat kn) 3) (t17 hw) (t18 hw) (t3 hw) (t19 hw) (by decide) (lenOf pd4 rfl) rfl rfl (by decide) (by decide) (by decide) (by decide) rfl ?_
        rintro _ _ ⟨rfl, rfl⟩
        refine go_more (k' := 0) (n' := 0) (by decide) (by decide) ?_
        refine go_if_eq c0_136 (fun b136 => ?_) (fun b136 => ?_)
        · refine go_push c0_193 ?_
          exact JA _ (Or.inl rfl)
        · refine go_lload c0_139 rfl ?_
          refine go_lload c0_140 rfl ?_
          refine go_iload c0_142 rfl ?_
          refine go_push c0_144 ?_
          refine go_callS1 (y := x) (W := 0) (argsL := [(.long a), (.long pth), (.int (Int32.ofNat kn)), (.int 4)]) (st := []) c0_145 (rm_same l Z a0 hw h0 n0 a pth (Int32.ofNat kn) 4) (t17 hw) (t18 hw) (t3 hw) (t19 hw) (by decide) (lenOf pd4 rfl) rfl rfl (by decide) (by decide) (by decide) (by decide) rfl ?_
          rintro _ _ ⟨rfl, rfl⟩
          refine go_more (k' := 0) (n' := 0) (by decide) (by decide) ?_
          refine go_if_eq c0_148 (fun b148 => ?_) (fun b148 => ?_)
          · refine go_push c0_193 ?_
            exact JA _ (Or.inl rfl)
          · refine go_lload c0_151 rfl ?_
            refine go_lload c0_152 rfl ?_
            refine go_iload c0_154 rfl ?_
            refine go_push c0_156 ?_
            refine go_callS1 (y := x) (W := 0) (argsL := [(.long a), (.long pth), (.int (Int32.ofNat kn)), (.int 5)]) (st := []) c0_157 (rm_same l Z a0 hw h0 n0 a pth (Int32.ofNat kn) 5) (t17 hw) (t18 hw) (t3 hw) (t19 hw) (by decide) (lenOf pd4 rfl) rfl rfl (by decide) (by decide) (by decide) (by decide) rfl ?_
            rintro _ _ ⟨rfl, rfl⟩
            refine go_more (k' := 0) (n' := 0) (by decide) (by decide) ?_
            refine go_if_eq c0_160 (fun b160 => ?_) (fun b160 => ?_)
            · refine go_push c0_193 ?_
              exact JA _ (Or.inl rfl)
            · refine go_lload c0_163 rfl ?_
              refine go_lload c0_164 rfl ?_
              refine go_iload c0_166 rfl ?_
              refine go_push c0_168 ?_
              refine go_callS1 (y := x) (W := 0) (argsL := [(.long a), (.long pth), (.int (Int32.ofNat kn)), (.int 6)]) (st := []) c0_170 (rm_same l Z a0 hw h0 n0 a pth (Int32.ofNat kn) 6) (t17 hw) (t18 hw) (t3 hw) (t19 hw) (by decide) (lenOf pd4 rfl) rfl rfl (by decide) (by decide) (by decide) (by decide) rfl ?_
              rintro _ _ ⟨rfl, rfl⟩
              refine go_more (k' := 0) (n' := 0) (by decide) (by decide) ?_
              refine go_if_eq c0_173 (fun b173 => ?_) (fun b173 => ?_)
              · refine go_push c0_193 ?_
                exact JA _ (Or.inl rfl)
              · refine go_lload c0_176 rfl ?_
                refine go_lload c0_177 rfl ?_
                refine go_iload c0_179 rfl ?_
                refine go_push c0_181 ?_
                refine go_callS1 (y := x) (W := 0) (argsL := [(.long a), (.long pth), (.int (Int32.ofNat kn)), (.int 7)]) (st := []) c0_183 (rm_same l Z a0 hw h0 n0 a pth (Int32.ofNat kn) 7) (t17 hw) (t18 hw) (t3 hw) (t19 hw) (by decide) (lenOf pd4 rfl) rfl rfl (by decide) (by decide) (by decide) (by decide) rfl ?_
                rintro _ _ ⟨rfl, rfl⟩
                refine go_more (k' := 0) (n' := 0) (by decide) (by decide) ?_
                refine go_if_eq c0_186 (fun b186 => ?_) (fun b186 => ?_)
                · refine go_push c0_193 ?_
                  exact JA _ (Or.inl rfl)
                · refine go_push c0_189 ?_
                  refine go_goto c0_190 ?_
                  exact JA _ (Or.inr (own_A a pth kn hkn fun i hi => by
                    have : i = 0 ∨ i = 1 ∨ i = 2 ∨ i = 3 ∨ i = 4 ∨ i = 5 ∨ i = 6 ∨ i = 7 := by omega
                    rcases this with rfl | rfl | rfl | rfl | rfl | rfl | rfl | rfl
                    · exact b100
                    · exact b112
                    · exact b124
                    · exact b136
                    · exact b148
                    · exact b160
                    · exact b173
                    · exact b186))
set_option maxRecDepth 65536 in
set_option maxHeartbeats 4000000 in
theorem comes_1 {Post : Tables → Env → Array Value → State → Outcome → State → Prop} (hpost : ∀ tb e args s v u, (limb_1_1.after args s (.returned v) u = true ∧ limb_1_2.after args s (.returned v) u = true ∧ True) → FrameEnd s (.returned v) u (Jvm.fieldLocs frame_1_writes args s ++ Jvm.arrayLocs frame_1_arrays args s ++ Jvm.staticLocs frame_1_statics s) 0 0 → Post tb e args s (.returned v) u) :
    ArmFor flags0 classFile x code maxLocals ret World_1 tables_1 room_1 Calls_1 rest_1 Pre_1 Post := by
  intro l hfl _ _ p e ha hc hk s m args below hf hA hF happ hP
  obtain ⟨hcalls, hrest, hpre⟩ := hP
  obtain ⟨-, -, -, hnamed, -, -, -, hat⟩ := (Spec.applies_iff hf).mp happ
  obtain ⟨hg, hn⟩ := and_e (Cond.before_iff.mp (show (Jvm.Cond.and given_1 narrow_1).before args s = true from hpre))
  obtain ⟨hct, hg0⟩ := and_e hg
  obtain ⟨ga0, hg1⟩ := and_e hg0
  obtain ⟨ga1, hg2⟩ := and_e hg1
  have ga2 := hg2
  obtain ⟨w0, w1, w2, rfl⟩ : ∃ w0 w1 w2 : Value, args = #[w0, w1, w2] := by
    have hs : args.size = 3 := by simpa [Cond.value, given_1] using hct
    obtain ⟨L⟩ := args
    match L, hs with
    | [w0, w1, w2], _ => exact ⟨w0, w1, w2, rfl⟩
  have hw := fun d (hd : d ∈ tables_1) => atoms_spec (ws := Jvm.Cond.code x code maxLocals ret :: tables_1) hat d (List.mem_cons_of_mem _ hd)
  have hfit : Fit s := fun {y c} hc i hi => by
    obtain ⟨ha, rfl⟩ := Array.getElem?_eq_some_iff.mp hc
    have q := List.all_eq_true.mp ((Array.all_eq_true_iff_forall_mem.mp hF) _ (Array.getElem_mem ha)) i (List.mem_range.mpr hi)
    simpa [Array.getElem?_eq_getElem hi] using q
  obtain ⟨i0, ei0⟩ := isL_v ga0
  obtain rfl : w0 = (.long i0) := Option.some.inj ei0
  obtain ⟨i1, ei1⟩ := is_v ga1
  obtain rfl : w1 = (.int i1) := Option.some.inj ei1
  obtain ⟨i2, ei2⟩ := isL_v ga2
  obtain rfl : w2 = (.long i2) := Option.some.inj ei2
  have K := rm0 l s _ hw s.heap s.heap.size i0 i1 i2
  obtain ⟨n, o, h1, h2, h3, v, L, rfl, ⟨⟨⟨w, rfl, rfl⟩, -⟩, N⟩, hq⟩ := K tables_1 p e ha hc hk s m _ below hf ((Spec.applies_iff_loose hf).mp happ).1 ⟨rfl, State.Warmed39.refl s, rfl⟩ trivial
  refine ⟨n, _, h1, h2, h3, hpost _ _ _ _ _ _ ⟨Cond.after_iff.mpr rfl, Cond.after_iff.mpr (eq_i res_at (Term.int_eval (1)) rfl), trivial⟩ ⟨hq.1, hq.2.1, (hq.2.2.sift fun y hy => Or.inr (N y hy)).mono (by decide) (by decide)⟩⟩
theorem main_1_1 : Claimed_1_1 := comes_1 fun _ _ _ _ _ _ h hF => ⟨h.1, hF⟩
theorem main_1_2 : Claimed_1_2 := comes_1 fun _ _ _ _ _ _ h hF => ⟨h.2.1, hF⟩
end Jvm.Pilot.@@N@@
namespace Jvm.Pilot.@@N@@
open Jvm Jvm.ClassFile Sem Op Lib Jvm.Free Jvm.Stand Jvm.Pilot.@@N@@.Jvm.D
/-! MADE BY PROGRAM (witnessworld.py) out of the Statement's table words and the real class files: 14 classes; the members and pool entries that the words name. The judged class is class 1, her method 1. -/
namespace start1
open Jvm.ClassFile
def u (s : String) : CpInfo := .utf8 (stringToUtf16 s)
/-- a pool by its gaps: so many unusable entries, then the entry; so many at the end -/
def gap : Nat → List CpInfo → List CpInfo
  | 0, r => r
  | n + 1, r => .unusable :: gap n r
def poolList (es : List (Nat × CpInfo)) (last : Nat) : List CpInfo := es.foldr (fun e r => gap e.1 (e.2 :: r)) (gap last [])
def pool (es : List (Nat × CpInfo)) (last : Nat) : Array CpInfo := ⟨poolList es last⟩
def fileOf (pool : Array CpInfo) (this : Nat) (attrs : Array Attribute := #[]) (ms : Array MethodInfo := #[]) (fl : Nat := 33) (sup : Nat := 0) (ifs : Array Nat := #[]) (fds : Array FieldInfo := #[]) : ClassFile where
  minorVersion := 0
  majorVersion := 65
  constantPool := pool
  accessFlags := fl
  thisClass := this
  superClass := sup
  interfaces := ifs
  fields := fds
  methods := ms
  attributes := attrs
def plain (name : String) (sup : Option ClassId) : Class where
  name := name
  kind := .ordinary
  loader := none
  accessFlags := 33
  super := sup
  interfaces := #[]
  cf := none
  fields := #[]
  methods := #[]
  instanceTypes := #[]
  staticTypes := #[]
  resolved := #[]
  callSites := []
  init := .initialized
  statics := none
  mirror := none

def pool0 : Array CpInfo := pool [(5, u "<init>"), (0, u "()V"), (1, .class_ 10), (1, u "java/lang/Object")] 113

def k0m0 : Method := { name := "<init>", desc := "()V", sig := { parameters := [], returnType := none }, accessFlags := 1, code := none }
/-- java/lang/Object -/
def k0 : Class := { plain "java/lang/Object" none with
  accessFlags := 33
  interfaces := #[]
  cf := some (fileOf pool0 8 #[] #[{ accessFlags := 1, nameIndex := 5, descriptorIndex := 6, attributes := #[] }] 33 0 #[] #[])
  fields := #[]
  methods := #[k0m0]
  instanceTypes := #[]
  staticTypes := #[]
  resolved := Array.replicate 124 none
  statics := none }

def pool1 : Array CpInfo := pool [(2, .class_ 4), (1, u "java/lang/Object"), (0, u "<init>"), (0, u "()V"), (0, .integer 2147483647), (0, .methodref 9 10), (0, .class_ 11), (0, .nameAndType 12 13), (0, u "com/example/bouncr/bouncr/PathPatternMayMatchPinLaw"), (0, u "put"), (0, u "(JII)J"), (0, .methodref 15 16), (0, .class_ 17), (0, .nameAndType 18 19), (0, u "com/example/bouncr/bouncr/PathPattern"), (0, u "mayMatch"), (0, u "(JJ)Z"), (0, .methodref 9 21), (0, .nameAndType 22 23), (0, u "same"), (0, u "(JJII)Z"), (0, .methodref 9 25), (0, .nameAndType 26 23), (0, u "earlier"), (0, .methodref 9 28), (0, .nameAndType 29 30), (0, u "oct"), (0, u "(JI)I"), (0, .methodref 9 32), (0, .nameAndType 33 30), (0, u "pb"), (0, .long 127), (1, .long 255), (3, u "law"), (0, u "(JIJ)Z")] 3

def k1m0 : Method := { name := "<init>", desc := "()V", sig := { parameters := [], returnType := none }, accessFlags := 1, code := none }
def k1c1 : Code := { maxStack := 6, maxLocals := 16, code := code, exceptionTable := #[], attributes := #[] }
def k1m1 : Method := { name := "law", desc := "(JIJ)Z", sig := { parameters := [.long, .int, .long], returnType := some .boolean }, accessFlags := 9, code := some k1c1 }
def k1c2 : Code := { maxStack := 5, maxLocals := 3, code := method_3_code, exceptionTable := #[], attributes := #[] }
def k1m2 : Method := { name := "oct", desc := "(JI)I", sig := { parameters := [.long, .int], returnType := some .int }, accessFlags := 10, code := some k1c2 }
def k1c3 : Code := { maxStack := 5, maxLocals := 4, code := method_4_code, exceptionTable := #[], attributes := #[] }
def k1m3 : Method := { name := "put", desc := "(JII)J", sig := { parameters := [.long, .int, .int], returnType := some .long }, accessFlags := 10, code := some k1c3 }
def k1c4 : Code := { maxStack := 5, maxLocals := 3, code := method_5_code, exceptionTable := #[], attributes := #[] }
def k1m4 : Method := { name := "pb", desc := "(JI)I", sig := { parameters := [.long, .int], returnType := some .int }, accessFlags := 10, code := some k1c4 }
def k1c5 : Code := { maxStack := 4, maxLocals := 6, code := method_6_code, exceptionTable := #[], attributes := #[] }
def k1m5 : Method := { name := "same", desc := "(JJII)Z", sig := { parameters := [.long, .long, .int, .int], returnType := some .boolean }, accessFlags := 10, code := some k1c5 }
def k1c6 : Code := { maxStack := 4, maxLocals := 6, code := method_7_code, exceptionTable := #[], attributes := #[] }
def k1m6 : Method := { name := "earlier", desc := "(JJII)Z", sig := { parameters := [.long, .long, .int, .int], returnType := some .boolean }, accessFlags := 10, code := some k1c6 }
/-- com/example/bouncr/bouncr/PathPatternMayMatchPinLaw -/
def k1 : Class := { plain "com/example/bouncr/bouncr/PathPatternMayMatchPinLaw" (some 0) with
  accessFlags := 49
  interfaces := #[]
  cf := some (fileOf pool1 9 #[] #[{ accessFlags := 1, nameIndex := 5, descriptorIndex := 6, attributes := #[] }, { accessFlags := 9, nameIndex := 40, descriptorIndex := 41, attributes := #[] }, { accessFlags := 10, nameIndex := 29, descriptorIndex := 30, attributes := #[] }, { accessFlags := 10, nameIndex := 12, descriptorIndex := 13, attributes := #[] }, { accessFlags := 10, nameIndex := 33, descriptorIndex := 30, attributes := #[] }, { accessFlags := 10, nameIndex := 22, descriptorIndex := 23, attributes := #[] }, { accessFlags := 10, nameIndex := 26, descriptorIndex := 23, attributes := #[] }] 49 2 #[] #[])
  fields := #[]
  methods := #[k1m0, k1m1, k1m2, k1m3, k1m4, k1m5, k1m6]
  instanceTypes := #[]
  staticTypes := #[]
  resolved := Array.replicate 45 none
  statics := none }

def pool2 : Array CpInfo := pool [(1, .class_ 2), (0, u "java/lang/Long"), (1, .class_ 6), (1, u "java/lang/Object"), (0, u "<init>"), (0, u "()V"), (1, .class_ 12), (1, u "com/example/bouncr/bouncr/PathPattern"), (4, u "HEX_VALUES"), (0, u "[B"), (53, .methodref 1 73), (0, .nameAndType 74 75), (0, u "lowestOneBit"), (0, u "(J)J"), (22, u "KINDS"), (14, u "UNRESERVED"), (0, u "Ljava/lang/String;"), (1, u "RESERVED"), (0, u "HEX_DIGITS"), (0, u "WILDCARD"), (0, u "C"), (1, u "END_ANCHOR"), (1, u "ESCAPE_LENGTH"), (0, u "I"), (1, u "IS_UNRESERVED"), (0, u "B"), (1, u "IS_RESERVED"), (1, u "LEAD_LENGTH"), (11, u "mayMatch"), (0, u "(JJ)Z")] 5

def k2m0 : Method := { name := "<init>", desc := "()V", sig := { parameters := [], returnType := none }, accessFlags := 2, code := none }
def k2c1 : Code := { maxStack := 4, maxLocals := 4, code := prog_12_method_7_code, exceptionTable := #[], attributes := #[] }
def k2m1 : Method := { name := "mayMatch", desc := "(JJ)Z", sig := { parameters := [.long, .long], returnType := some .boolean }, accessFlags := 8, code := some k2c1 }
/-- com/example/bouncr/bouncr/PathPattern -/
def k2 : Class := { plain "com/example/bouncr/bouncr/PathPattern" (some 0) with
  accessFlags := 48
  interfaces := #[]
  cf := some (fileOf pool2 10 #[] #[{ accessFlags := 2, nameIndex := 7, descriptorIndex := 8, attributes := #[] }, { accessFlags := 8, nameIndex := 143, descriptorIndex := 144, attributes := #[] }] 48 4 #[] #[{ accessFlags := 26, nameIndex := 113, descriptorIndex := 114, attributes := #[] }, { accessFlags := 26, nameIndex := 116, descriptorIndex := 114, attributes := #[] }, { accessFlags := 26, nameIndex := 117, descriptorIndex := 114, attributes := #[] }, { accessFlags := 26, nameIndex := 118, descriptorIndex := 119, attributes := #[] }, { accessFlags := 26, nameIndex := 121, descriptorIndex := 119, attributes := #[] }, { accessFlags := 26, nameIndex := 123, descriptorIndex := 124, attributes := #[] }, { accessFlags := 26, nameIndex := 98, descriptorIndex := 18, attributes := #[] }, { accessFlags := 26, nameIndex := 126, descriptorIndex := 127, attributes := #[] }, { accessFlags := 26, nameIndex := 129, descriptorIndex := 127, attributes := #[] }, { accessFlags := 26, nameIndex := 17, descriptorIndex := 18, attributes := #[] }, { accessFlags := 26, nameIndex := 131, descriptorIndex := 124, attributes := #[] }])
  fields := #[{ name := "UNRESERVED", type := (.object "java/lang/String"), accessFlags := 26, slot := 0, constantValue := 0 }, { name := "RESERVED", type := (.object "java/lang/String"), accessFlags := 26, slot := 1, constantValue := 0 }, { name := "HEX_DIGITS", type := (.object "java/lang/String"), accessFlags := 26, slot := 2, constantValue := 0 }, { name := "WILDCARD", type := .char, accessFlags := 26, slot := 3, constantValue := 0 }, { name := "END_ANCHOR", type := .char, accessFlags := 26, slot := 4, constantValue := 0 }, { name := "ESCAPE_LENGTH", type := .int, accessFlags := 26, slot := 5, constantValue := 0 }, { name := "KINDS", type := (.array .byte), accessFlags := 26, slot := 6, constantValue := 0 }, { name := "IS_UNRESERVED", type := .byte, accessFlags := 26, slot := 7, constantValue := 0 }, { name := "IS_RESERVED", type := .byte, accessFlags := 26, slot := 8, constantValue := 0 }, { name := "HEX_VALUES", type := (.array .byte), accessFlags := 26, slot := 9, constantValue := 0 }, { name := "LEAD_LENGTH", type := .int, accessFlags := 26, slot := 10, constantValue := 0 }]
  methods := #[k2m0, k2m1]
  instanceTypes := #[]
  staticTypes := #[(.object "java/lang/String"), (.object "java/lang/String"), (.object "java/lang/String"), .char, .char, .int, (.array .byte), .byte, .byte, (.array .byte), .int]
  resolved := Array.replicate 150 none
  statics := none }

def pool3 : Array CpInfo := pool [(1, .class_ 2), (0, u "java/io/Serializable"), (0, .class_ 4), (0, u "java/lang/Object")] 2

/-- java/io/Serializable -/
def k3 : Class := { plain "java/io/Serializable" (some 0) with
  accessFlags := 1537
  interfaces := #[]
  cf := some (fileOf pool3 1 #[] #[] 1537 3 #[] #[])
  fields := #[]
  methods := #[]
  instanceTypes := #[]
  staticTypes := #[]
  resolved := Array.replicate 7 none
  statics := none }

def pool4 : Array CpInfo := pool [(2, .class_ 4), (1, u "java/lang/Object"), (0, u "<init>"), (0, u "()V"), (1, .class_ 10), (1, u "java/lang/Number"), (2, .class_ 14), (0, u "java/io/Serializable"), (0, u "serialVersionUID"), (0, u "J")] 20

def k4m0 : Method := { name := "<init>", desc := "()V", sig := { parameters := [], returnType := none }, accessFlags := 1, code := none }
/-- java/lang/Number -/
def k4 : Class := { plain "java/lang/Number" (some 0) with
  accessFlags := 1057
  interfaces := #[3]
  cf := some (fileOf pool4 8 #[] #[{ accessFlags := 1, nameIndex := 5, descriptorIndex := 6, attributes := #[] }] 1057 2 #[13] #[{ accessFlags := 26, nameIndex := 15, descriptorIndex := 16, attributes := #[] }])
  fields := #[{ name := "serialVersionUID", type := .long, accessFlags := 26, slot := 0, constantValue := 0 }]
  methods := #[k4m0]
  instanceTypes := #[]
  staticTypes := #[.long]
  resolved := Array.replicate 37 none
  statics := none }

def pool5 : Array CpInfo := pool [(1, .class_ 2), (0, u "java/lang/Comparable"), (0, .class_ 4), (0, u "java/lang/Object")] 7

/-- java/lang/Comparable -/
def k5 : Class := { plain "java/lang/Comparable" (some 0) with
  accessFlags := 1537
  interfaces := #[]
  cf := some (fileOf pool5 1 #[] #[] 1537 3 #[] #[])
  fields := #[]
  methods := #[]
  instanceTypes := #[]
  staticTypes := #[]
  resolved := Array.replicate 12 none
  statics := none }

def pool6 : Array CpInfo := pool [(1, .class_ 2), (0, u "java/lang/constant/Constable"), (0, .class_ 4), (0, u "java/lang/Object")] 6

/-- java/lang/constant/Constable -/
def k6 : Class := { plain "java/lang/constant/Constable" (some 0) with
  accessFlags := 1537
  interfaces := #[]
  cf := some (fileOf pool6 1 #[] #[] 1537 3 #[] #[])
  fields := #[]
  methods := #[]
  instanceTypes := #[]
  staticTypes := #[]
  resolved := Array.replicate 11 none
  statics := none }

def pool7 : Array CpInfo := pool [(1, .class_ 2), (0, u "java/lang/constant/ConstantDesc"), (0, .class_ 4), (0, u "java/lang/Object")] 32

/-- java/lang/constant/ConstantDesc -/
def k7 : Class := { plain "java/lang/constant/ConstantDesc" (some 0) with
  accessFlags := 1537
  interfaces := #[]
  cf := some (fileOf pool7 1 #[] #[] 1537 3 #[] #[])
  fields := #[]
  methods := #[]
  instanceTypes := #[]
  staticTypes := #[]
  resolved := Array.replicate 37 none
  statics := none }

def pool8 : Array CpInfo := pool [(1, .class_ 2), (0, u "java/lang/Long"), (232, .class_ 237), (1, u "java/lang/Long$LongCache"), (33, .class_ 272), (0, u "java/lang/Number"), (2, u "value"), (0, u "J"), (46, u "(J)J"), (37, u "TYPE"), (0, u "Ljava/lang/Class;"), (0, .class_ 364), (0, u "java/lang/Comparable"), (0, .class_ 366), (0, u "java/lang/constant/Constable"), (0, .class_ 368), (0, u "java/lang/constant/ConstantDesc"), (0, u "MIN_VALUE"), (1, u "MAX_VALUE"), (4, u "SIZE"), (0, u "I"), (1, u "BYTES"), (1, u "serialVersionUID"), (93, u "lowestOneBit")] 48

def k8c0 : Code := { maxStack := 4, maxLocals := 2, code := jdk_35_method_47_code, exceptionTable := #[], attributes := #[] }
def k8m0 : Method := { name := "lowestOneBit", desc := "(J)J", sig := { parameters := [.long], returnType := some .long }, accessFlags := 9, code := some k8c0 }
/-- java/lang/Long -/
def k8 : Class := { plain "java/lang/Long" (some 4) with
  accessFlags := 49
  interfaces := #[5, 6, 7]
  cf := some (fileOf pool8 1 #[.nestMembers #[235]] #[{ accessFlags := 9, nameIndex := 475, descriptorIndex := 323, attributes := #[] }] 49 271 #[363, 365, 367] #[{ accessFlags := 25, nameIndex := 369, descriptorIndex := 276, attributes := #[] }, { accessFlags := 25, nameIndex := 371, descriptorIndex := 276, attributes := #[] }, { accessFlags := 25, nameIndex := 361, descriptorIndex := 362, attributes := #[] }, { accessFlags := 18, nameIndex := 275, descriptorIndex := 276, attributes := #[] }, { accessFlags := 25, nameIndex := 376, descriptorIndex := 377, attributes := #[] }, { accessFlags := 25, nameIndex := 379, descriptorIndex := 377, attributes := #[] }, { accessFlags := 26, nameIndex := 381, descriptorIndex := 276, attributes := #[] }])
  fields := #[{ name := "MIN_VALUE", type := .long, accessFlags := 25, slot := 0, constantValue := 0 }, { name := "MAX_VALUE", type := .long, accessFlags := 25, slot := 1, constantValue := 0 }, { name := "TYPE", type := (.object "java/lang/Class"), accessFlags := 25, slot := 2, constantValue := 0 }, { name := "value", type := .long, accessFlags := 18, slot := 0, constantValue := 0 }, { name := "SIZE", type := .int, accessFlags := 25, slot := 3, constantValue := 0 }, { name := "BYTES", type := .int, accessFlags := 25, slot := 4, constantValue := 0 }, { name := "serialVersionUID", type := .long, accessFlags := 26, slot := 5, constantValue := 0 }]
  methods := #[k8m0]
  instanceTypes := #[.long]
  staticTypes := #[.long, .long, (.object "java/lang/Class"), .int, .int, .long]
  resolved := Array.replicate 524 none
  statics := none }

def pool9 : Array CpInfo := pool [(1, u "java/lang/Cloneable"), (0, .class_ 1), (0, u "java/lang/Object"), (0, .class_ 3)] 3

/-- java/lang/Cloneable -/
def k9 : Class := { plain "java/lang/Cloneable" (some 0) with
  accessFlags := 1537
  interfaces := #[]
  cf := some (fileOf pool9 2 #[] #[] 1537 4 #[] #[])
  fields := #[]
  methods := #[]
  instanceTypes := #[]
  staticTypes := #[]
  resolved := Array.replicate 8 none
  statics := none }

/-- the primitive byte -/
def k10 : Class := { plain "byte" none with kind := .primitive 'B', accessFlags := 0x411 }
/-- [B -/
def k11 : Class := { plain "[B" (some 0) with kind := .array 10 .byte, interfaces := #[9, 3], accessFlags := 1041 }

/-- the primitive int -/
def k12 : Class := { plain "int" none with kind := .primitive 'I', accessFlags := 0x411 }
/-- [I -/
def k13 : Class := { plain "[I" (some 0) with kind := .array 12 .int, interfaces := #[9, 3], accessFlags := 1041 }

def heap : Heap := #[]
def classes : Array Class := #[k0, k1, k2, k3, k4, k5, k6, k7, k8, k9, k10, k11, k12, k13]
def interned : List (Array UInt16 × Addr) := []
def slotsUsed : Nat := 0
def theMethod : MethodId := ⟨1, 1⟩
def args0 : Array Value := #[.long 5, .int 5, .long 5]
def aboutOver (below : List Frame) : State where
  vm := { classes := classes, interned := interned.toArray }
  heap := heap
  slotsUsed := slotsUsed
  threads := #[{ frames := .invoking theMethod args0 :: below }]
def below0 : List Frame := [.native { method := ⟨0, 0⟩, args := #[] }]
def about1 : State := aboutOver below0
def p0 : Program := .bare "" "" ""
def e0 : Env := launch0.env 0 0 0
theorem w_frames : about1.frames = Frame.invoking theMethod args0 :: below0 := rfl
set_option maxRecDepth 65536 in
theorem w_args : argsFit about1.vm theMethod args0 = true := by decide +kernel
set_option maxRecDepth 65536 in
theorem w_heap : heapFits about1 = true := by decide +kernel
set_option maxRecDepth 65536 in
theorem w_runnable : about1.curStatus? = some .runnable := by decide +kernel
set_option maxRecDepth 65536 in
theorem w_alone : about1.alone = true := by decide +kernel
set_option maxRecDepth 65536 in
theorem w_named : about1.methodNamed? x = some theMethod := by decide +kernel
set_option maxRecDepth 65536 in
theorem w_hears : about1.hears theMethod below0 = true := by decide +kernel
set_option maxRecDepth 65536 in
theorem w_ripe : about1.ripe theMethod args0 below0 = true := by decide +kernel
theorem w_running : about1.status = .running := rfl
set_option maxRecDepth 65536 in
theorem w_room : about1.hasRoom e0.platform room_1 = true :=
  launch0.hasRoom_least _ room_1 (by decide +kernel) (by decide +kernel) (by decide +kernel) (by decide +kernel) (by decide +kernel) (by decide +kernel)
theorem allAtoms_all (ts : List Jvm.Cond) (a : Array Jvm.Value) (st : Jvm.State) : (allAtoms ts).before a st = ts.all (fun c => c.before a st) := by
  induction ts with
  | nil => rfl
  | cons c t ih =>
    show (Jvm.Cond.and c (allAtoms t)).before a st = _
    rw [Jvm.Cond.before_and, ih, List.all_cons]
def words1 : List Jvm.Cond := Jvm.Cond.code x code maxLocals ret :: tables_1
/-- a 'code' word, met by the world's own term for the bytes: nothing is compared byte by byte -/
theorem code_word {y : MethodName} {bytes : ByteArray} {mx : Nat} {rt : Option FieldType} {a : Array Value} {s : State} {m : MethodId} {meth : Method} {c : Code} (h1 : s.methodNamed? y = some m) (h2 : s.vm.method? m = some meth) (h3 : meth.code = some c) (h4 : c.code = bytes)
    (h5 : (c.maxLocals == mx && c.exceptionTable.isEmpty && decide (c.maxStack ≤ mostOperands) && decide (meth.sig.returnType = rt) && !meth.locks && decide (parseMethodDescriptor y.desc = some meth.sig)) = true) : (Jvm.Cond.code y bytes mx rt).before a s = true := by
  simp only [Bool.and_eq_true, beq_iff_eq, Bool.not_eq_true', decide_eq_true_eq] at h5
  obtain ⟨⟨⟨⟨⟨g1, g2⟩, g3⟩, g4⟩, g5⟩, g6⟩ := h5
  simp [Cond.before, Cond.holds, Cond.value, h1, h2, h3, h4, g1, g2, g3, g4, g5, g6]
def isCode : Jvm.Cond → Bool
  | .code _ _ _ _ => true
  | _ => false
theorem all_split {L : List Jvm.Cond} {P : Jvm.Cond → Bool} (h1 : L.all (fun c => isCode c || P c) = true) (h2 : ∀ c ∈ L.filter isCode, P c = true) : L.all P = true := by
  refine List.all_eq_true.mpr fun c hc => ?_
  have h := List.all_eq_true.mp h1 c hc
  rcases Bool.eq_false_or_eq_true (isCode c) with hi | hi
  · exact h2 c (List.mem_filter.mpr ⟨hc, hi⟩)
  · simpa [hi] using h
set_option maxRecDepth 65536 in
theorem w_c0 : (Jvm.Cond.code x code maxLocals ret).before args0 about1 = true := code_word (m := ⟨1, 1⟩) (meth := k1m1) (c := k1c1) (by decide +kernel) rfl rfl rfl (by decide +kernel)
set_option maxRecDepth 65536 in
theorem w_c1 : (Jvm.Cond.code ({ cls := "com/example/bouncr/bouncr/PathPatternMayMatchPinLaw", name := "put", desc := "(JII)J" } : Jvm.MethodName) method_4_code (4 : Nat) (Option.some Jvm.ClassFile.FieldType.long)).before args0 about1 = true := code_word (m := ⟨1, 3⟩) (meth := k1m3) (c := k1c3) (by decide +kernel) rfl rfl rfl (by decide +kernel)
set_option maxRecDepth 65536 in
theorem w_c2 : (Jvm.Cond.code ({ cls := "com/example/bouncr/bouncr/PathPatternMayMatchPinLaw", name := "oct", desc := "(JI)I" } : Jvm.MethodName) method_3_code (3 : Nat) (Option.some Jvm.ClassFile.FieldType.int)).before args0 about1 = true := code_word (m := ⟨1, 2⟩) (meth := k1m2) (c := k1c2) (by decide +kernel) rfl rfl rfl (by decide +kernel)
set_option maxRecDepth 65536 in
theorem w_c3 : (Jvm.Cond.code ({ cls := "com/example/bouncr/bouncr/PathPattern", name := "mayMatch", desc := "(JJ)Z" } : Jvm.MethodName) prog_12_method_7_code (4 : Nat) (Option.some Jvm.ClassFile.FieldType.boolean)).before args0 about1 = true := code_word (m := ⟨2, 1⟩) (meth := k2m1) (c := k2c1) (by decide +kernel) rfl rfl rfl (by decide +kernel)
set_option maxRecDepth 65536 in
theorem w_c4 : (Jvm.Cond.code ({ cls := "java/lang/Long", name := "lowestOneBit", desc := "(J)J" } : Jvm.MethodName) jdk_35_method_47_code (2 : Nat) (Option.some Jvm.ClassFile.FieldType.long)).before args0 about1 = true := code_word (m := ⟨8, 0⟩) (meth := k8m0) (c := k8c0) (by decide +kernel) rfl rfl rfl (by decide +kernel)
set_option maxRecDepth 65536 in
theorem w_c5 : (Jvm.Cond.code ({ cls := "com/example/bouncr/bouncr/PathPatternMayMatchPinLaw", name := "same", desc := "(JJII)Z" } : Jvm.MethodName) method_6_code (6 : Nat) (Option.some Jvm.ClassFile.FieldType.boolean)).before args0 about1 = true := code_word (m := ⟨1, 5⟩) (meth := k1m5) (c := k1c5) (by decide +kernel) rfl rfl rfl (by decide +kernel)
set_option maxRecDepth 65536 in
theorem w_c6 : (Jvm.Cond.code ({ cls := "com/example/bouncr/bouncr/PathPatternMayMatchPinLaw", name := "pb", desc := "(JI)I" } : Jvm.MethodName) method_5_code (3 : Nat) (Option.some Jvm.ClassFile.FieldType.int)).before args0 about1 = true := code_word (m := ⟨1, 4⟩) (meth := k1m4) (c := k1c4) (by decide +kernel) rfl rfl rfl (by decide +kernel)
set_option maxRecDepth 65536 in
theorem w_c7 : (Jvm.Cond.code ({ cls := "com/example/bouncr/bouncr/PathPatternMayMatchPinLaw", name := "earlier", desc := "(JJII)Z" } : Jvm.MethodName) method_7_code (6 : Nat) (Option.some Jvm.ClassFile.FieldType.boolean)).before args0 about1 = true := code_word (m := ⟨1, 6⟩) (meth := k1m6) (c := k1c6) (by decide +kernel) rfl rfl rfl (by decide +kernel)
def codes1 : List Jvm.Cond := [Jvm.Cond.code x code maxLocals ret, Jvm.Cond.code ({ cls := "com/example/bouncr/bouncr/PathPatternMayMatchPinLaw", name := "put", desc := "(JII)J" } : Jvm.MethodName) method_4_code (4 : Nat) (Option.some Jvm.ClassFile.FieldType.long), Jvm.Cond.code ({ cls := "com/example/bouncr/bouncr/PathPatternMayMatchPinLaw", name := "oct", desc := "(JI)I" } : Jvm.MethodName) method_3_code (3 : Nat) (Option.some Jvm.ClassFile.FieldType.int), Jvm.Cond.code ({ cls := "com/example/bouncr/bouncr/PathPattern", name := "mayMatch", desc := "(JJ)Z" } : Jvm.MethodName) prog_12_method_7_code (4 : Nat) (Option.some Jvm.ClassFile.FieldType.boolean), Jvm.Cond.code ({ cls := "java/lang/Long", name := "lowestOneBit", desc := "(J)J" } : Jvm.MethodName) jdk_35_method_47_code (2 : Nat) (Option.some Jvm.ClassFile.FieldType.long), Jvm.Cond.code ({ cls := "com/example/bouncr/bouncr/PathPatternMayMatchPinLaw", name := "same", desc := "(JJII)Z" } : Jvm.MethodName) method_6_code (6 : Nat) (Option.some Jvm.ClassFile.FieldType.boolean), Jvm.Cond.code ({ cls := "com/example/bouncr/bouncr/PathPatternMayMatchPinLaw", name := "pb", desc := "(JI)I" } : Jvm.MethodName) method_5_code (3 : Nat) (Option.some Jvm.ClassFile.FieldType.int), Jvm.Cond.code ({ cls := "com/example/bouncr/bouncr/PathPatternMayMatchPinLaw", name := "earlier", desc := "(JJII)Z" } : Jvm.MethodName) method_7_code (6 : Nat) (Option.some Jvm.ClassFile.FieldType.boolean)]
set_option maxRecDepth 65536 in
theorem codes_eq : words1.filter isCode = codes1 := rfl
theorem w_codes : ∀ c ∈ words1.filter isCode, c.before args0 about1 = true := by
  rw [codes_eq]
  intro c hc
  simp only [codes1, List.mem_cons, List.not_mem_nil, or_false] at hc
  rcases hc with rfl | rfl | rfl | rfl | rfl | rfl | rfl | rfl
  · exact w_c0
  · exact w_c1
  · exact w_c2
  · exact w_c3
  · exact w_c4
  · exact w_c5
  · exact w_c6
  · exact w_c7
set_option maxRecDepth 65536 in
theorem w_t1 : (words1.take 24).all (fun c => isCode c || c.before args0 about1) = true := by decide +kernel
set_option maxRecDepth 65536 in
theorem w_t2 : (words1.drop 24).all (fun c => isCode c || c.before args0 about1) = true := by decide +kernel
theorem w_tables : (allAtoms (Jvm.Cond.code x code maxLocals ret :: tables_1)).before args0 about1 = true := by
  rw [allAtoms_all]
  show words1.all (fun c => c.before args0 about1) = true
  refine all_split ?_ w_codes
  rw [← List.take_append_drop 24 words1, List.all_append, w_t1, w_t2]
  rfl
set_option maxRecDepth 65536 in
theorem w_case : (Jvm.Cond.and given_1 narrow_1).before args0 about1 = true := by decide +kernel
theorem w_applies : (headSpec (Jvm.Cond.code x code maxLocals ret :: tables_1) room_1).applies x e0.platform about1 = true :=
  (Spec.applies_iff w_frames).mpr ⟨w_running, w_runnable, w_alone, w_named, w_hears, w_ripe, w_room, w_tables⟩
theorem atStart : AtStart classFile x code maxLocals ret World_1 tables_1 room_1 Calls_1 rest_1 Pre_1 launch0 p0 e0 about1 theMethod args0 below0 :=
  ⟨lists_1, trivial, launch0.admits_env _ _ _, launch0.least_env, fairChoices_fair.cas, fairChoices_fair.clock, w_frames, w_args, w_heap, w_applies, trivial, trivial, w_case⟩
end start1
theorem witness_1 : WitnessClaimed_1 := ⟨start1.p0, start1.e0, start1.about1, start1.theMethod, start1.args0, start1.below0, start1.atStart⟩
end Jvm.Pilot.@@N@@

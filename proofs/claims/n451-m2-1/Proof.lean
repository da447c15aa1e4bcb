import JvmDerived
import JvmDerived.Pilot.@@N@@Statement
import JvmDerived.Pilot.@@N@@Code
set_option linter.unusedVariables false
set_option linter.unusedSimpArgs false
@@BLOCK:NumsL.lean.txt@@
@@BLOCK:Masks.lean.txt@@
namespace Jvm.Own
open Sem ClassFile Op Lib Jvm.Stand Jvm.Free Jvm.LawKit Jvm.RoadKit
/-! ## A program logic over an abstract heap: references count from the start's heap size. -/
def cv (k : Nat) : Value → Value
  | .ref i => .ref (k + i)
  | v => v
def cs (k : Nat) : Slot → Slot
  | .val v => .val (cv k v)
  | .unset => .unset
  | .second => .second
theorem cv_cat (k : Nat) (v : Value) : (cv k v).category = v.category := by cases v <;> rfl
theorem cv_isRef (k : Nat) (v : Value) : (cv k v).isRef = v.isRef := by cases v <;> rfl
theorem cv_fits (k : Nat) (t : FieldType) (v : Value) : fits t (cv k v) = fits t v := by cases v <;> cases t <;> rfl
theorem cv_narrow (k : Nat) (t : FieldType) (v : Value) : narrow t (cv k v) = cv k (narrow t v) := by cases v <;> cases t <;> rfl
theorem cv_default (k : Nat) (t : FieldType) : cv k (defaultValue t) = defaultValue t := by cases t <;> rfl
theorem cat_map (k : Nat) (S : List Value) : ((S.map (cv k)).map fun v => v.category) = S.map fun v => v.category := by
  rw [List.map_map]; exact List.map_congr_left fun v _ => cv_cat k v
/-- an object: the number of its class, its fields' values; or an array: its kind, its values -/
abbrev ACell := (Nat × List Value) ⊕ (FieldType × List Value)
abbrev AHeap := List ACell
/-- the classes: name, slots, fields (declaring class, name, descriptor, type) -/
abbrev KTab := List (String × Nat × List (String × String × String × FieldType))
/-- a method: name, bytes, max_locals, return type -/
abbrev Mth := MethodName × ByteArray × Nat × Option FieldType
def CellOk (Z : State) (K : KTab) (h : Heap) (a : Addr) : ACell → Prop
  | .inl (c, vs) => ∃ (C : String) (n : Nat) (fs : List (String × String × String × FieldType)), K[c]? = some (C, n, fs) ∧ vs.length = fs.length ∧ Exa Z h a C ∧ ∀ (j : Nat) (f : String × String × String × FieldType) (v : Value), fs[j]? = some f → vs[j]? = some v → Fld Z h a f.1 f.2.1 f.2.2.1 (cv Z.heap.size v)
  | .inr (ty, vs) => ∃ cell : Cell, Arr Z h a cell ty ∧ cell.slots = (vs.map (cv Z.heap.size)).toArray ∧ ∀ v ∈ vs, fits ty v = true
def Rel (Z : State) (K : KTab) (h : Heap) (H : AHeap) : Prop :=
  h.size = Z.heap.size + H.length ∧ ∀ (i : Nat) (c : ACell), H[i]? = some c → CellOk Z K h (Z.heap.size + i) c
def FOk (tb : List Cond) (C : String) (f : String × String × String × FieldType) : Prop :=
  (Cond.lays C f.1 f.2.1 f.2.2.1 ∈ tb ∨ Cond.laysFinal C f.1 f.2.1 f.2.2.1 ∈ tb) ∧ parseFieldDescriptor f.2.2.1 = some f.2.2.2
def KOk (tb : List Cond) (K : KTab) : Prop :=
  ∀ q ∈ K, Cond.instantiable q.1 q.2.1 ∈ tb ∧ (∀ f ∈ q.2.2, FOk tb q.1 f) ∧ (q.2.2.map fun f => f.2.1).Nodup
theorem KOk.nil {tb : List Cond} : KOk tb [] := fun _ h => nomatch h
theorem KOk.cons {tb : List Cond} {K : KTab} {q : String × Nat × List (String × String × String × FieldType)} (h1 : Cond.instantiable q.1 q.2.1 ∈ tb) (h2 : ∀ f ∈ q.2.2, FOk tb q.1 f) (h3 : (q.2.2.map fun f => f.2.1).Nodup) (h : KOk tb K) : KOk tb (q :: K) := fun x hx => by
  rcases List.mem_cons.mp hx with rfl | hx
  · exact ⟨h1, h2, h3⟩
  · exact h x hx
theorem fok0 {tb : List Cond} {C : String} : ∀ f ∈ ([] : List (String × String × String × FieldType)), FOk tb C f := fun _ h => nomatch h
theorem fokS {tb : List Cond} {C : String} {g : String × String × String × FieldType} {L : List (String × String × String × FieldType)} (h1 : FOk tb C g) (h2 : ∀ f ∈ L, FOk tb C f) : ∀ f ∈ g :: L, FOk tb C f := fun f hf => by
  rcases List.mem_cons.mp hf with rfl | hf
  · exact h1
  · exact h2 f hf
/-- where a walk stands -/
def Here (tb : List Cond) (K : KTab) (μ : Mth) (rm : Room) (H : AHeap) (Z : State) (a0 : Array Value) (p : Program) (l : Launch) (e : Env) (R : Room) (s : State) (m : MethodId) (args : Array Value) (below : List Frame) (meth : Method) (c : Code)
    (T : State) (locs : List Loc) (cells slots : Nat) : Prop :=
  Stand p l e R s m args below meth c T locs cells slots ∧ p.tables.exec = Jvm.exec ∧ Z.Warmed39 s.vm ∧ (∀ d ∈ tb, d.before a0 Z = true) ∧ c.code = μ.2.1 ∧ c.maxLocals = μ.2.2.1 ∧ meth.sig.returnType = μ.2.2.2 ∧ meth.name = μ.1.name ∧ meth.locks = false ∧
    s.vm.findClass μ.1.cls = some m.cls ∧ Rel Z K T.heap H ∧ Fr Z.heap.size locs ∧ rm.frames ≤ R.frames ∧ cells + rm.cells ≤ R.cells ∧ slots + rm.slots ≤ R.slots ∧ rm.locals ≤ R.locals
/-- how it ends -/
def Ends (K : KTab) (Q : Option Value → AHeap → Prop) (Z : State) (p : Program) (e : Env) (R : Room) (s : State) (below : List Frame) (T0 : State) : Prop :=
  ∃ (v : Option Value) (H' : AHeap) (T : State) (locs : List Loc) (fs : List Frame), Q v H' ∧ Steps p.tables e below T0 (T.setFrames fs) ∧ (T.setFrames fs).status = .running ∧ Ended (T.setFrames fs) below (.returned (v.map (cv Z.heap.size))) ∧
    s.WarmedH (T.setFrames fs).vm ∧ s.sameButNew ({ T.setFrames fs with vm := s.vm } : State) locs R.cells R.slots ∧ Fr Z.heap.size locs ∧ Rel Z K T.heap H'
/-- from the frame (pc, L, S) over the heap H the body returns, and Q -/
def W (tb : List Cond) (K : KTab) (μ : Mth) (rm : Room) (pc : Nat) (L : List Slot) (S : List Value) (H : AHeap) (Q : Option Value → AHeap → Prop) : Prop :=
  L.length = μ.2.2.1 → ∀ (Z : State) (a0 : Array Value) (p : Program) (l : Launch) (e : Env) (R : Room) (s : State) (m : MethodId) (args : Array Value) (below : List Frame) (meth : Method) (c : Code) (T : State) (locs : List Loc) (cells slots : Nat),
    Here tb K μ rm H Z a0 p l e R s m args below meth c T locs cells slots → Ends K Q Z p e R s below (T.setTop (mkF m pc (L.map (cs Z.heap.size)).toArray (S.map (cv Z.heap.size))))
/-- a call of μ comes back, and Q -/
def M (tb : List Cond) (K : KTab) (μ : Mth) (rm : Room) (as : List Value) (H : AHeap) (Q : Option Value → AHeap → Prop) : Prop :=
  ∀ (Z : State) (a0 : Array Value), (∀ d ∈ tb, d.before a0 Z = true) → ∀ (l : Launch) (h : Heap) (ws : List Cond), Rel Z K h H →
    MetFree l μ.1 (head1 (Cond.code μ.1 μ.2.1 μ.2.2.1 μ.2.2.2 :: ws) rm) (fun a U => a = (as.map (cv Z.heap.size)).toArray ∧ Z.Warmed39 U.vm ∧ U.heap = h) (fun _ _ _ _ _ => True)
      (fun _ U o U' => ∃ v L, o = .returned v ∧ (∃ v' H', v = v'.map (cv Z.heap.size) ∧ Rel Z K U'.heap H' ∧ Q v' H' ∧ Fr Z.heap.size L) ∧ FrameEnd U o U' L rm.cells rm.slots)
section Logic
variable {tb : List Cond} {K : KTab} {μ : Mth} {rm : Room} {pc : Nat} {L : List Slot} {S : List Value} {H : AHeap} {Q Q' : Option Value → AHeap → Prop}
theorem Ends.mono {Z : State} {p : Program} {e : Env} {R : Room} {s : State} {below : List Frame} {T0 : State} (h : Ends K Q Z p e R s below T0) (hq : ∀ v H, Q v H → Q' v H) : Ends K Q' Z p e R s below T0 := by
  obtain ⟨v, H', T, locs, fs, h1, r⟩ := h; exact ⟨v, H', T, locs, fs, hq _ _ h1, r⟩
theorem W.mono (h : W tb K μ rm pc L S H Q) (hq : ∀ v H, Q v H → Q' v H) : W tb K μ rm pc L S H Q' := fun hl Z a0 p l e R s m args below meth c T locs cells slots X => (h hl Z a0 p l e R s m args below meth c T locs cells slots X).mono hq
theorem M.mono {as : List Value} (h : M tb K μ rm as H Q) (hq : ∀ v H, Q v H → Q' v H) : M tb K μ rm as H Q' := fun Z a0 hw l h0 ws hr p e ha hc hk s m args below hf happ hP hK => by
  obtain ⟨n, o, h1, h2, h3, v, L, h4, ⟨v', H', h5, h6, h7, h8⟩, h9⟩ := h Z a0 hw l h0 ws hr p e ha hc hk s m args below hf happ hP hK
  exact ⟨n, o, h1, h2, h3, v, L, h4, ⟨v', H', h5, h6, hq _ _ h7, h8⟩, h9⟩
theorem Ends.steps {Z : State} {p : Program} {e : Env} {R : Room} {s : State} {below : List Frame} {T0 T1 : State} (st : ∀ target, Steps p.tables e below T1 target → Steps p.tables e below T0 target) (h : Ends K Q Z p e R s below T1) : Ends K Q Z p e R s below T0 := by
  obtain ⟨v, H', T, locs, fs, h1, h2, r⟩ := h; exact ⟨v, H', T, locs, fs, h1, st _ h2, r⟩
/-- a step that moves the frame alone -/
theorem W.pure {pc' : Nat} {L' : List Slot} {S' : List Value} (hl : L'.length = L.length)
    (st : ∀ (k : Nat) (p : Program) (e : Env) (m : MethodId) (below : List Frame) (c : Code) (T : State), At T m c below → p.tables.exec = Jvm.exec → c.code = μ.2.1 → ∀ target, Steps p.tables e below (T.setTop (mkF m pc' (L'.map (cs k)).toArray (S'.map (cv k)))) target → Steps p.tables e below (T.setTop (mkF m pc (L.map (cs k)).toArray (S.map (cv k)))) target)
    (h : W tb K μ rm pc' L' S' H Q) : W tb K μ rm pc L S H Q := fun hL Z a0 p l e R s m args below meth c T locs cells slots X =>
  (h (hl.trans hL) Z a0 p l e R s m args below meth c T locs cells slots X).steps (st _ p e m below c T X.1.here X.2.1 X.2.2.2.2.1)
theorem get_conc {k : Nat} {i : Nat} {v : Value} (h : L[i]? = some (.val v)) : (L.map (cs k)).toArray[i]? = some (.val (cv k v)) := by
  simp [h, cs]
theorem W.iload_n {i : Fin 4} {x : Int32} (hd : decode μ.2.1 pc = .ok (.iload_n i, 1)) (hl : L[i.val]? = some (.val (.int x))) (h : W tb K μ rm (pc + 1) L (.int x :: S) H Q) : W tb K μ rm pc L S H Q :=
  W.pure rfl (fun k p e m below c T hA hx hb' t ht => XS.iloadN hA hx rfl (hb hb' hd) (get_conc hl) ht) h
theorem W.iload {i : Nat} {x : Int32} (hd : decode μ.2.1 pc = .ok (.iload i, 2)) (hl : L[i]? = some (.val (.int x))) (h : W tb K μ rm (pc + 2) L (.int x :: S) H Q) : W tb K μ rm pc L S H Q :=
  W.pure rfl (fun k p e m below c T hA hx hb' t ht => XS.iload hA hx rfl (hb hb' hd) (get_conc hl) ht) h
theorem W.lload_n {i : Fin 4} {x : Int64} (hd : decode μ.2.1 pc = .ok (.lload_n i, 1)) (hl : L[i.val]? = some (.val (.long x))) (h : W tb K μ rm (pc + 1) L (.long x :: S) H Q) : W tb K μ rm pc L S H Q :=
  W.pure rfl (fun k p e m below c T hA hx hb' t ht => XS.lloadN hA hx rfl (hb hb' hd) (get_conc hl) ht) h
theorem W.lload {i : Nat} {x : Int64} (hd : decode μ.2.1 pc = .ok (.lload i, 2)) (hl : L[i]? = some (.val (.long x))) (h : W tb K μ rm (pc + 2) L (.long x :: S) H Q) : W tb K μ rm pc L S H Q :=
  W.pure rfl (fun k p e m below c T hA hx hb' t ht => XS.lload hA hx rfl (hb hb' hd) (get_conc hl) ht) h
theorem W.aload_n {i : Fin 4} {v : Value} (hd : decode μ.2.1 pc = .ok (.aload_n i, 1)) (hl : L[i.val]? = some (.val v)) (hv : v.isRef = true) (h : W tb K μ rm (pc + 1) L (v :: S) H Q) : W tb K μ rm pc L S H Q :=
  W.pure rfl (fun k p e m below c T hA hx hb' t ht => XS.aloadN hA hx rfl (hb hb' hd) (get_conc hl) (by rw [cv_isRef]; exact hv) ht) h
theorem W.aload {i : Nat} {v : Value} (hd : decode μ.2.1 pc = .ok (.aload i, 2)) (hl : L[i]? = some (.val v)) (hv : v.isRef = true) (h : W tb K μ rm (pc + 2) L (v :: S) H Q) : W tb K μ rm pc L S H Q :=
  W.pure rfl (fun k p e m below c T hA hx hb' t ht => XS.aload hA hx rfl (hb hb' hd) (get_conc hl) (by rw [cv_isRef]; exact hv) ht) h
theorem W.iadd {x y : Int32} (hd : decode μ.2.1 pc = .ok (.iadd, 1)) (h : W tb K μ rm (pc + 1) L (.int (x + y) :: S) H Q) : W tb K μ rm pc L (.int y :: .int x :: S) H Q :=
  W.pure rfl (fun k p e m below c T hA hx hb' t ht => XS.iadd hA hx rfl (hb hb' hd) rfl ht) h
theorem W.isub {x y : Int32} (hd : decode μ.2.1 pc = .ok (.isub, 1)) (h : W tb K μ rm (pc + 1) L (.int (x - y) :: S) H Q) : W tb K μ rm pc L (.int y :: .int x :: S) H Q :=
  W.pure rfl (fun k p e m below c T hA hx hb' t ht => XS.isub hA hx rfl (hb hb' hd) rfl ht) h
theorem W.imul {x y : Int32} (hd : decode μ.2.1 pc = .ok (.imul, 1)) (h : W tb K μ rm (pc + 1) L (.int (x * y) :: S) H Q) : W tb K μ rm pc L (.int y :: .int x :: S) H Q :=
  W.pure rfl (fun k p e m below c T hA hx hb' t ht => XS.imul hA hx rfl (hb hb' hd) rfl ht) h
theorem W.idiv {x y : Int32} (hd : decode μ.2.1 pc = .ok (.idiv, 1)) (hy : y ≠ 0) (h : W tb K μ rm (pc + 1) L (.int (x / y) :: S) H Q) : W tb K μ rm pc L (.int y :: .int x :: S) H Q :=
  W.pure rfl (fun k p e m below c T hA hx hb' t ht => XS.idiv hA hx rfl (hb hb' hd) rfl hy ht) h
theorem W.irem {x y : Int32} (hd : decode μ.2.1 pc = .ok (.irem, 1)) (hy : y ≠ 0) (h : W tb K μ rm (pc + 1) L (.int (x % y) :: S) H Q) : W tb K μ rm pc L (.int y :: .int x :: S) H Q :=
  W.pure rfl (fun k p e m below c T hA hx hb' t ht => XS.irem hA hx rfl (hb hb' hd) rfl hy (by rw [irem_eq_mod x y]; exact ht)) h
theorem W.ineg {x : Int32} (hd : decode μ.2.1 pc = .ok (.ineg, 1)) (h : W tb K μ rm (pc + 1) L (.int (-x) :: S) H Q) : W tb K μ rm pc L (.int x :: S) H Q :=
  W.pure rfl (fun k p e m below c T hA hx hb' t ht => XS.ineg hA hx rfl (hb hb' hd) rfl ht) h
theorem W.iand {x y : Int32} (hd : decode μ.2.1 pc = .ok (.iand, 1)) (h : W tb K μ rm (pc + 1) L (.int (x &&& y) :: S) H Q) : W tb K μ rm pc L (.int y :: .int x :: S) H Q :=
  W.pure rfl (fun k p e m below c T hA hx hb' t ht => XS.iand hA hx rfl (hb hb' hd) rfl ht) h
theorem W.ior {x y : Int32} (hd : decode μ.2.1 pc = .ok (.ior, 1)) (h : W tb K μ rm (pc + 1) L (.int (x ||| y) :: S) H Q) : W tb K μ rm pc L (.int y :: .int x :: S) H Q :=
  W.pure rfl (fun k p e m below c T hA hx hb' t ht => XT.ior hA hx rfl (hb hb' hd) rfl ht) h
theorem W.ixor {x y : Int32} (hd : decode μ.2.1 pc = .ok (.ixor, 1)) (h : W tb K μ rm (pc + 1) L (.int (x ^^^ y) :: S) H Q) : W tb K μ rm pc L (.int y :: .int x :: S) H Q :=
  W.pure rfl (fun k p e m below c T hA hx hb' t ht => XT.ixor hA hx rfl (hb hb' hd) rfl ht) h
theorem W.ishl {x y : Int32} (hd : decode μ.2.1 pc = .ok (.ishl, 1)) (h : W tb K μ rm (pc + 1) L (.int (x <<< (y &&& 31)) :: S) H Q) : W tb K μ rm pc L (.int y :: .int x :: S) H Q :=
  W.pure rfl (fun k p e m below c T hA hx hb' t ht => XT.ishl hA hx rfl (hb hb' hd) rfl ht) h
theorem W.ishr {x y : Int32} (hd : decode μ.2.1 pc = .ok (.ishr, 1)) (h : W tb K μ rm (pc + 1) L (.int (x >>> (y &&& 31)) :: S) H Q) : W tb K μ rm pc L (.int y :: .int x :: S) H Q :=
  W.pure rfl (fun k p e m below c T hA hx hb' t ht => XT.ishr hA hx rfl (hb hb' hd) rfl ht) h
theorem W.iushr {x y : Int32} (hd : decode μ.2.1 pc = .ok (.iushr, 1)) (h : W tb K μ rm (pc + 1) L (.int (XT.ushr x y) :: S) H Q) : W tb K μ rm pc L (.int y :: .int x :: S) H Q :=
  W.pure rfl (fun k p e m below c T hA hx hb' t ht => XT.iushr hA hx rfl (hb hb' hd) rfl ht) h
theorem W.ladd {x y : Int64} (hd : decode μ.2.1 pc = .ok (.ladd, 1)) (h : W tb K μ rm (pc + 1) L (.long (x + y) :: S) H Q) : W tb K μ rm pc L (.long y :: .long x :: S) H Q :=
  W.pure rfl (fun k p e m below c T hA hx hb' t ht => XT.ladd hA hx rfl (hb hb' hd) rfl ht) h
theorem W.lsub {x y : Int64} (hd : decode μ.2.1 pc = .ok (.lsub, 1)) (h : W tb K μ rm (pc + 1) L (.long (x - y) :: S) H Q) : W tb K μ rm pc L (.long y :: .long x :: S) H Q :=
  W.pure rfl (fun k p e m below c T hA hx hb' t ht => XT.lsub hA hx rfl (hb hb' hd) rfl ht) h
theorem W.lmul {x y : Int64} (hd : decode μ.2.1 pc = .ok (.lmul, 1)) (h : W tb K μ rm (pc + 1) L (.long (x * y) :: S) H Q) : W tb K μ rm pc L (.long y :: .long x :: S) H Q :=
  W.pure rfl (fun k p e m below c T hA hx hb' t ht => XT.lmul hA hx rfl (hb hb' hd) rfl ht) h
theorem W.ldiv {x y : Int64} (hd : decode μ.2.1 pc = .ok (.ldiv, 1)) (hy : y ≠ 0) (h : W tb K μ rm (pc + 1) L (.long (x / y) :: S) H Q) : W tb K μ rm pc L (.long y :: .long x :: S) H Q :=
  W.pure rfl (fun k p e m below c T hA hx hb' t ht => XT.ldiv hA hx rfl (hb hb' hd) rfl hy ht) h
theorem W.land {x y : Int64} (hd : decode μ.2.1 pc = .ok (.land, 1)) (h : W tb K μ rm (pc + 1) L (.long (x &&& y) :: S) H Q) : W tb K μ rm pc L (.long y :: .long x :: S) H Q :=
  W.pure rfl (fun k p e m below c T hA hx hb' t ht => XT.land hA hx rfl (hb hb' hd) rfl ht) h
theorem W.lor {x y : Int64} (hd : decode μ.2.1 pc = .ok (.lor, 1)) (h : W tb K μ rm (pc + 1) L (.long (x ||| y) :: S) H Q) : W tb K μ rm pc L (.long y :: .long x :: S) H Q :=
  W.pure rfl (fun k p e m below c T hA hx hb' t ht => XT.lor hA hx rfl (hb hb' hd) rfl ht) h
theorem W.lxor {x y : Int64} (hd : decode μ.2.1 pc = .ok (.lxor, 1)) (h : W tb K μ rm (pc + 1) L (.long (x ^^^ y) :: S) H Q) : W tb K μ rm pc L (.long y :: .long x :: S) H Q :=
  W.pure rfl (fun k p e m below c T hA hx hb' t ht => XT.lxor hA hx rfl (hb hb' hd) rfl ht) h
theorem W.lshl {x : Int64} {y : Int32} (hd : decode μ.2.1 pc = .ok (.lshl, 1)) (h : W tb K μ rm (pc + 1) L (.long (x <<< (y.toInt64 &&& 63)) :: S) H Q) : W tb K μ rm pc L (.int y :: .long x :: S) H Q :=
  W.pure rfl (fun k p e m below c T hA hx hb' t ht => XT.lshl hA hx rfl (hb hb' hd) rfl ht) h
theorem W.lushr {x : Int64} {y : Int32} (hd : decode μ.2.1 pc = .ok (.lushr, 1)) (h : W tb K μ rm (pc + 1) L (.long (XT.ushrL x y) :: S) H Q) : W tb K μ rm pc L (.int y :: .long x :: S) H Q :=
  W.pure rfl (fun k p e m below c T hA hx hb' t ht => XT.lushr hA hx rfl (hb hb' hd) rfl ht) h
theorem W.lcmp {x y : Int64} (hd : decode μ.2.1 pc = .ok (.lcmp, 1)) (h : W tb K μ rm (pc + 1) L (.int (XT.cmpL x y) :: S) H Q) : W tb K μ rm pc L (.long y :: .long x :: S) H Q :=
  W.pure rfl (fun k p e m below c T hA hx hb' t ht => XT.lcmp hA hx rfl (hb hb' hd) rfl ht) h
theorem W.i2l {x : Int32} (hd : decode μ.2.1 pc = .ok (.i2l, 1)) (h : W tb K μ rm (pc + 1) L (.long x.toInt64 :: S) H Q) : W tb K μ rm pc L (.int x :: S) H Q :=
  W.pure rfl (fun k p e m below c T hA hx hb' t ht => XT.i2l hA hx rfl (hb hb' hd) rfl ht) h
theorem W.l2i {x : Int64} (hd : decode μ.2.1 pc = .ok (.l2i, 1)) (h : W tb K μ rm (pc + 1) L (.int x.toInt32 :: S) H Q) : W tb K μ rm pc L (.long x :: S) H Q :=
  W.pure rfl (fun k p e m below c T hA hx hb' t ht => XT.l2i hA hx rfl (hb hb' hd) rfl ht) h
theorem W.i2b {x : Int32} (hd : decode μ.2.1 pc = .ok (.i2b, 1)) (h : W tb K μ rm (pc + 1) L (.int x.toInt8.toInt32 :: S) H Q) : W tb K μ rm pc L (.int x :: S) H Q :=
  W.pure rfl (fun k p e m below c T hA hx hb' t ht => XT.i2b hA hx rfl (hb hb' hd) rfl ht) h
theorem W.i2c {x : Int32} (hd : decode μ.2.1 pc = .ok (.i2c, 1)) (h : W tb K μ rm (pc + 1) L (.int x.toUInt32.toUInt16.toUInt32.toInt32 :: S) H Q) : W tb K μ rm pc L (.int x :: S) H Q :=
  W.pure rfl (fun k p e m below c T hA hx hb' t ht => XT.i2c hA hx rfl (hb hb' hd) rfl ht) h
theorem W.iconst {i : Int} (hd : decode μ.2.1 pc = .ok (.iconst i, 1)) (h : W tb K μ rm (pc + 1) L (.int (Int32.ofInt i) :: S) H Q) : W tb K μ rm pc L (S) H Q :=
  W.pure rfl (fun k p e m below c T hA hx hb' t ht => XS.iconst hA hx rfl (hb hb' hd) ht) h
theorem W.bipush {i : Int} (hd : decode μ.2.1 pc = .ok (.bipush i, 2)) (h : W tb K μ rm (pc + 2) L (.int (Int8.ofInt i).toInt32 :: S) H Q) : W tb K μ rm pc L (S) H Q :=
  W.pure rfl (fun k p e m below c T hA hx hb' t ht => XS.bipush hA hx rfl (hb hb' hd) ht) h
theorem W.sipush {i : Int} (hd : decode μ.2.1 pc = .ok (.sipush i, 3)) (h : W tb K μ rm (pc + 3) L (.int (Int16.ofInt i).toInt32 :: S) H Q) : W tb K μ rm pc L (S) H Q :=
  W.pure rfl (fun k p e m below c T hA hx hb' t ht => XS.sipush hA hx rfl (hb hb' hd) ht) h
theorem W.lconst {i : Fin 2} (hd : decode μ.2.1 pc = .ok (.lconst i, 1)) (h : W tb K μ rm (pc + 1) L (.long (Int64.ofNat i) :: S) H Q) : W tb K μ rm pc L (S) H Q :=
  W.pure rfl (fun k p e m below c T hA hx hb' t ht => XT.lconst hA hx rfl (hb hb' hd) ht) h
theorem W.aconst_null  (hd : decode μ.2.1 pc = .ok (.aconst_null, 1)) (h : W tb K μ rm (pc + 1) L (.null :: S) H Q) : W tb K μ rm pc L (S) H Q :=
  W.pure rfl (fun k p e m below c T hA hx hb' t ht => XS.aconstNull hA hx rfl (hb hb' hd) ht) h
theorem W.dup {v : Value} (hd : decode μ.2.1 pc = .ok (.dup, 1)) (hc : v.category = 1) (h : W tb K μ rm (pc + 1) L (v :: v :: S) H Q) : W tb K μ rm pc L (v :: S) H Q :=
  W.pure rfl (fun k p e m below c T hA hx hb' t ht => XS.dup hA hx rfl (hb hb' hd) rfl (by rw [cv_cat]; exact hc) ht) h
theorem W.pop {v : Value} (hd : decode μ.2.1 pc = .ok (.pop, 1)) (hc : v.category = 1) (h : W tb K μ rm (pc + 1) L (S) H Q) : W tb K μ rm pc L (v :: S) H Q :=
  W.pure rfl (fun k p e m below c T hA hx hb' t ht => XT.pop hA hx rfl (hb hb' hd) rfl (by rw [cv_cat]; exact hc) ht) h
theorem W.dup_x1 {v w : Value} (hd : decode μ.2.1 pc = .ok (.dup_x1, 1)) (hc : v.category = 1) (hc' : w.category = 1) (h : W tb K μ rm (pc + 1) L (v :: w :: v :: S) H Q) : W tb K μ rm pc L (v :: w :: S) H Q :=
  W.pure rfl (fun k p e m below c T hA hx hb' t ht => XT.dupX1 hA hx rfl (hb hb' hd) rfl (by rw [cv_cat]; exact hc) (by rw [cv_cat]; exact hc') ht) h
theorem W.iconst' {i : Int} {x : Int32} (hd : decode μ.2.1 pc = .ok (.iconst i, 1)) (hx : Int32.ofInt i = x) (h : W tb K μ rm (pc + 1) L (.int x :: S) H Q) : W tb K μ rm pc L S H Q := W.iconst hd (by rw [hx]; exact h)
theorem W.bipush' {i : Int} {x : Int32} (hd : decode μ.2.1 pc = .ok (.bipush i, 2)) (hx : (Int8.ofInt i).toInt32 = x) (h : W tb K μ rm (pc + 2) L (.int x :: S) H Q) : W tb K μ rm pc L S H Q := W.bipush hd (by rw [hx]; exact h)
theorem W.sipush' {i : Int} {x : Int32} (hd : decode μ.2.1 pc = .ok (.sipush i, 3)) (hx : (Int16.ofInt i).toInt32 = x) (h : W tb K μ rm (pc + 3) L (.int x :: S) H Q) : W tb K μ rm pc L S H Q := W.sipush hd (by rw [hx]; exact h)
theorem W.lconst' {i : Fin 2} {x : Int64} (hd : decode μ.2.1 pc = .ok (.lconst i, 1)) (hx : Int64.ofNat i = x) (h : W tb K μ rm (pc + 1) L (.long x :: S) H Q) : W tb K μ rm pc L S H Q := W.lconst hd (by rw [hx]; exact h)
/-- a local of one word -/
def one : Slot → Bool
  | .unset => true
  | .val v => v.category == 1
  | .second => false
theorem cs_one {k : Nat} {o : Slot} (h : one o = true) : cs k o = .unset ∨ ∃ w, cs k o = .val w ∧ w.category = 1 := by
  cases o with
  | unset => exact Or.inl rfl
  | second => cases h
  | val v => exact Or.inr ⟨cv k v, rfl, by rw [cv_cat]; simpa [one] using h⟩
theorem set_conc {k i : Nat} {x : Slot} : (L.map (cs k)).toArray.setIfInBounds i (cs k x) = ((L.set i x).map (cs k)).toArray := by
  simp [List.map_set]
theorem sto1 {k i : Nat} {o : Slot} {v : Value} (hl : L[i]? = some o) (ho : one o = true) (hv : v.category = 1) : storeLocals (L.map (cs k)).toArray i (cv k v) = some ((L.set i (.val v)).map (cs k)).toArray := by
  rw [XS.store1 (o := cs k o) (by simp [hl]) (cs_one ho) (by rw [cv_cat]; exact hv)]
  exact congrArg some (set_conc (x := .val v))
/-- over the first half of a long -/
theorem sto1w {k i : Nat} {w v : Value} (hl : L[i]? = some (.val w)) (ho : w.category = 2) (hi : i + 1 < L.length) (hv : v.category = 1) : storeLocals (L.map (cs k)).toArray i (cv k v) = some (((L.set (i + 1) .unset).set i (.val v)).map (cs k)).toArray := by
  have h0 : i < L.length := by omega
  have e : L[i] = .val w := by rw [List.getElem?_eq_getElem h0] at hl; exact Option.some.inj hl
  simp [storeLocals, storeSelf, setAt, h0, e, cs, cv_cat, ho, hi, hv, List.map_set]
/-- over the second half of a long -/
theorem sto1s {k i : Nat} {v : Value} (hl : L[i]? = some .second) (hi : 0 < i) (hv : v.category = 1) : storeLocals (L.map (cs k)).toArray i (cv k v) = some (((L.set (i - 1) .unset).set i (.val v)).map (cs k)).toArray := by
  have h0 : i < L.length := (List.getElem?_eq_some_iff.mp hl).1
  have e : L[i] = .second := by rw [List.getElem?_eq_getElem h0] at hl; exact Option.some.inj hl
  have h1 : i - 1 < L.length := by omega
  simp [storeLocals, storeSelf, setAt, h0, h1, e, cs, cv_cat, hv, List.map_set]
/-- what a long may be stored over -/
def two : Slot → Slot → Bool
  | .second, _ => false
  | _, .val w => w.category == 1
  | _, _ => true
theorem sto2 {k i : Nat} {o o' : Slot} {x : Int64} (hl : L[i]? = some o) (hl' : L[i + 1]? = some o') (ho : two o o' = true) : storeLocals (L.map (cs k)).toArray i (.long x) = some (((L.set i (.val (.long x))).set (i + 1) .second).map (cs k)).toArray := by
  have h0 : i < L.length := (List.getElem?_eq_some_iff.mp hl).1
  have h1 : i + 1 < L.length := (List.getElem?_eq_some_iff.mp hl').1
  have e : L[i] = o := by rw [List.getElem?_eq_getElem h0] at hl; exact Option.some.inj hl
  have e' : L[i + 1] = o' := by rw [List.getElem?_eq_getElem h1] at hl'; exact Option.some.inj hl'
  have ne : ¬ (i = i + 1) := by omega
  have c2 : (Value.long x).category = 2 := rfl
  have cl : cv k (.long x) = .long x := rfl
  have sw : ∀ (l : List Slot) (u v w : Slot), ((l.set (i + 1) u).set i v).set (i + 1) w = (l.set i v).set (i + 1) w := fun l u v w => by
    rw [List.set_comm _ _ (by omega : i + 1 ≠ i), List.set_set]
  cases o with
  | second => cases ho
  | unset =>
    cases o' with
    | unset => simp [storeLocals, storeSelf, setAt, h0, h1, e, e', cs, c2, cl, List.map_set]
    | second => simp [storeLocals, storeSelf, setAt, h0, h1, e, e', cs, c2, cl, List.map_set]
    | val w' =>
      have hc : w'.category = 1 := by simpa [two] using ho
      simp [storeLocals, storeSelf, setAt, h0, h1, e, e', cs, cv_cat, hc, c2, cl, List.map_set]
  | val w =>
    by_cases hw : w.category = 2
    · simp [storeLocals, storeSelf, setAt, h0, h1, e, cs, cv_cat, hw, c2, cl, List.map_set, sw]
    · cases o' with
      | unset => simp [storeLocals, storeSelf, setAt, h0, h1, e, e', cs, cv_cat, hw, c2, cl, List.map_set]
      | second => simp [storeLocals, storeSelf, setAt, h0, h1, e, e', cs, cv_cat, hw, c2, cl, List.map_set]
      | val w' =>
        have hc : w'.category = 1 := by simpa [two] using ho
        simp [storeLocals, storeSelf, setAt, h0, h1, e, e', cs, cv_cat, hw, hc, c2, cl, List.map_set]
theorem W.istore_n {i : Fin 4} {o : Slot} {x : Int32} (hd : decode μ.2.1 pc = .ok (.istore_n i, 1)) (hl : L[i.val]? = some o) (ho : one o = true) (h : W tb K μ rm (pc + 1) (L.set i.val (.val (.int x))) S H Q) : W tb K μ rm pc L (.int x :: S) H Q :=
  W.pure (by simp) (fun k p e m below c T hA hx hb' t ht => XS.istoreN hA hx rfl (hb hb' hd) rfl (sto1 (v := .int x) hl ho rfl) ht) h
theorem W.istore_nW {i : Fin 4} {w : Value} {x : Int32} (hd : decode μ.2.1 pc = .ok (.istore_n i, 1)) (hl : L[i.val]? = some (.val w)) (ho : w.category = 2) (hi : i.val + 1 < L.length) (h : W tb K μ rm (pc + 1) ((L.set (i.val + 1) .unset).set i.val (.val (.int x))) S H Q) : W tb K μ rm pc L (.int x :: S) H Q :=
  W.pure (by simp) (fun k p e m below c T hA hx hb' t ht => XS.istoreN hA hx rfl (hb hb' hd) rfl (sto1w (v := .int x) hl ho hi rfl) ht) h
theorem W.istore_nS {i : Fin 4} {x : Int32} (hd : decode μ.2.1 pc = .ok (.istore_n i, 1)) (hl : L[i.val]? = some .second) (hi : 0 < i.val) (h : W tb K μ rm (pc + 1) ((L.set (i.val - 1) .unset).set i.val (.val (.int x))) S H Q) : W tb K μ rm pc L (.int x :: S) H Q :=
  W.pure (by simp) (fun k p e m below c T hA hx hb' t ht => XS.istoreN hA hx rfl (hb hb' hd) rfl (sto1s (v := .int x) hl hi rfl) ht) h
theorem W.istore {i : Nat} {o : Slot} {x : Int32} (hd : decode μ.2.1 pc = .ok (.istore i, 2)) (hl : L[i]? = some o) (ho : one o = true) (h : W tb K μ rm (pc + 2) (L.set i (.val (.int x))) S H Q) : W tb K μ rm pc L (.int x :: S) H Q :=
  W.pure (by simp) (fun k p e m below c T hA hx hb' t ht => XS.istore hA hx rfl (hb hb' hd) rfl (sto1 (v := .int x) hl ho rfl) ht) h
theorem W.istoreW {i : Nat} {w : Value} {x : Int32} (hd : decode μ.2.1 pc = .ok (.istore i, 2)) (hl : L[i]? = some (.val w)) (ho : w.category = 2) (hi : i + 1 < L.length) (h : W tb K μ rm (pc + 2) ((L.set (i + 1) .unset).set i (.val (.int x))) S H Q) : W tb K μ rm pc L (.int x :: S) H Q :=
  W.pure (by simp) (fun k p e m below c T hA hx hb' t ht => XS.istore hA hx rfl (hb hb' hd) rfl (sto1w (v := .int x) hl ho hi rfl) ht) h
theorem W.istoreS {i : Nat} {x : Int32} (hd : decode μ.2.1 pc = .ok (.istore i, 2)) (hl : L[i]? = some .second) (hi : 0 < i) (h : W tb K μ rm (pc + 2) ((L.set (i - 1) .unset).set i (.val (.int x))) S H Q) : W tb K μ rm pc L (.int x :: S) H Q :=
  W.pure (by simp) (fun k p e m below c T hA hx hb' t ht => XS.istore hA hx rfl (hb hb' hd) rfl (sto1s (v := .int x) hl hi rfl) ht) h
theorem W.astore_n {i : Fin 4} {o : Slot} {v : Value} (hd : decode μ.2.1 pc = .ok (.astore_n i, 1)) (hl : L[i.val]? = some o) (ho : one o = true) (hv : v.isRef = true) (h : W tb K μ rm (pc + 1) (L.set i.val (.val v)) S H Q) : W tb K μ rm pc L (v :: S) H Q :=
  W.pure (by simp) (fun k p e m below c T hA hx hb' t ht => XS.astoreN hA hx rfl (hb hb' hd) rfl (by rw [cv_isRef]; exact hv) (sto1 (v := v) hl ho (by cases v <;> first | rfl | cases hv)) ht) h
theorem W.astore {i : Nat} {o : Slot} {v : Value} (hd : decode μ.2.1 pc = .ok (.astore i, 2)) (hl : L[i]? = some o) (ho : one o = true) (hv : v.isRef = true) (h : W tb K μ rm (pc + 2) (L.set i (.val v)) S H Q) : W tb K μ rm pc L (v :: S) H Q :=
  W.pure (by simp) (fun k p e m below c T hA hx hb' t ht => XS.astore hA hx rfl (hb hb' hd) rfl (by rw [cv_isRef]; exact hv) (sto1 (v := v) hl ho (by cases v <;> first | rfl | cases hv)) ht) h
theorem W.lstore_n {i : Fin 4} {o o' : Slot} {x : Int64} (hd : decode μ.2.1 pc = .ok (.lstore_n i, 1)) (hl : L[i.val]? = some o) (hl' : L[i.val + 1]? = some o') (ho : two o o' = true) (h : W tb K μ rm (pc + 1) ((L.set i.val (.val (.long x))).set (i.val + 1) .second) S H Q) : W tb K μ rm pc L (.long x :: S) H Q :=
  W.pure (by simp) (fun k p e m below c T hA hx hb' t ht => XT.lstoreN hA hx rfl (hb hb' hd) rfl (sto2 hl hl' ho) ht) h
theorem W.lstore {i : Nat} {o o' : Slot} {x : Int64} (hd : decode μ.2.1 pc = .ok (.lstore i, 2)) (hl : L[i]? = some o) (hl' : L[i + 1]? = some o') (ho : two o o' = true) (h : W tb K μ rm (pc + 2) ((L.set i (.val (.long x))).set (i + 1) .second) S H Q) : W tb K μ rm pc L (.long x :: S) H Q :=
  W.pure (by simp) (fun k p e m below c T hA hx hb' t ht => XT.lstore hA hx rfl (hb hb' hd) rfl (sto2 hl hl' ho) ht) h
theorem W.iinc {i : Nat} {n : Int} {x y : Int32} (hd : decode μ.2.1 pc = .ok (.iinc i n, 3)) (hy : Int32.ofInt n = y) (hl : L[i]? = some (.val (.int x))) (h : W tb K μ rm (pc + 3) (L.set i (.val (.int (x + y)))) S H Q) : W tb K μ rm pc L S H Q := by
  subst hy
  exact W.pure (by simp) (fun k p e m below c T hA hx hb' t ht => XS.iinc hA hx rfl (hb hb' hd) (get_conc hl) (sto1 (v := .int (x + Int32.ofInt n)) hl rfl rfl) ht) h
theorem W.goto {o : Int} {pc' : Nat} (hd : decode μ.2.1 pc = .ok (.goto o, 3)) (ho : 0 ≤ (pc : Int) + o) (hp : ((pc : Int) + o).toNat = pc') (h : W tb K μ rm pc' L S H Q) : W tb K μ rm pc L S H Q :=
  W.pure rfl (fun k p e m below c T hA hx hb' t ht => XS.goto hA hx rfl rfl (hb hb' hd) ho hp ht) h
/-- what a comparison asks -/
def cnd : ClassFile.Cond → Int32 → Int32 → Prop
  | .eq, x, y => x = y
  | .ne, x, y => ¬ x = y
  | .lt, x, y => x < y
  | .ge, x, y => ¬ x < y
  | .gt, x, y => y < x
  | .le, x, y => ¬ y < x
def cndN : ClassFile.Cond → Int32 → Int32 → Prop
  | .eq, x, y => ¬ x = y
  | .ne, x, y => x = y
  | .lt, x, y => ¬ x < y
  | .ge, x, y => x < y
  | .gt, x, y => ¬ y < x
  | .le, x, y => y < x
theorem cndN_of (cd : ClassFile.Cond) (x y : Int32) (h : ¬ cnd cd x y) : cndN cd x y := by
  cases cd <;> first | exact h | exact Classical.not_not.mp h
theorem cnd_iff (cd : ClassFile.Cond) (x y : Int32) : if_icmp.holds cd x y = true ↔ cnd cd x y := by
  cases cd <;> simp [if_icmp.holds, cnd, Int32.not_lt]
theorem cnd_not (cd : ClassFile.Cond) (x y : Int32) : if_icmp.holds cd x y = false ↔ ¬ cnd cd x y := by
  rw [← cnd_iff]; cases if_icmp.holds cd x y <;> simp
theorem W.icmp {cd : ClassFile.Cond} {x y : Int32} {o : Int} {pc' : Nat} (hd : decode μ.2.1 pc = .ok (.if_icmp cd o, 3)) (ho : 0 ≤ (pc : Int) + o) (hp : ((pc : Int) + o).toNat = pc') (h1 : cnd cd x y → W tb K μ rm pc' L S H Q) (h2 : cndN cd x y → W tb K μ rm (pc + 3) L S H Q) : W tb K μ rm pc L (.int y :: .int x :: S) H Q := by
  cases hc : if_icmp.holds cd x y
  · exact W.pure rfl (fun k p e m below c T hA hx hb' t ht => XS.icmpNo hA hx rfl (hb hb' hd) rfl hc ht) (h2 (cndN_of cd x y ((cnd_not cd x y).mp hc)))
  · exact W.pure rfl (fun k p e m below c T hA hx hb' t ht => XS.icmpYes hA hx rfl rfl (hb hb' hd) rfl hc ho hp ht) (h1 ((cnd_iff cd x y).mp hc))
theorem W.ifc {cd : ClassFile.Cond} {x : Int32} {o : Int} {pc' : Nat} (hd : decode μ.2.1 pc = .ok (.ifCond cd o, 3)) (ho : 0 ≤ (pc : Int) + o) (hp : ((pc : Int) + o).toNat = pc') (h1 : cnd cd x 0 → W tb K μ rm pc' L S H Q) (h2 : cndN cd x 0 → W tb K μ rm (pc + 3) L S H Q) : W tb K μ rm pc L (.int x :: S) H Q := by
  cases hc : ifCond.holds cd x
  · exact W.pure rfl (fun k p e m below c T hA hx hb' t ht => XS.ifNo hA hx rfl (hb hb' hd) rfl hc ht) (h2 (cndN_of cd x 0 ((cnd_not cd x 0).mp (by rw [← if0]; exact hc))))
  · exact W.pure rfl (fun k p e m below c T hA hx hb' t ht => XS.ifYes hA hx rfl rfl (hb hb' hd) rfl hc ho hp ht) (h1 ((cnd_iff cd x 0).mp (by rw [← if0]; exact hc)))
def cndL : ClassFile.Cond → Int64 → Int64 → Prop
  | .eq, x, y => x = y
  | .ne, x, y => ¬ x = y
  | .lt, x, y => x < y
  | .ge, x, y => ¬ x < y
  | .gt, x, y => y < x
  | .le, x, y => ¬ y < x
def cndLN : ClassFile.Cond → Int64 → Int64 → Prop
  | .eq, x, y => ¬ x = y
  | .ne, x, y => x = y
  | .lt, x, y => ¬ x < y
  | .ge, x, y => x < y
  | .gt, x, y => ¬ y < x
  | .le, x, y => y < x
theorem cndLN_iff (cd : ClassFile.Cond) (x y : Int64) : cndLN cd x y ↔ ¬ cndL cd x y := by
  cases cd <;> first | exact Iff.rfl | exact Classical.not_not.symm
theorem cndN_iff (cd : ClassFile.Cond) (x y : Int32) : cndN cd x y ↔ ¬ cnd cd x y := by
  cases cd <;> first | exact Iff.rfl | exact Classical.not_not.symm
theorem cmpL_iff (cd : ClassFile.Cond) (x y : Int64) : cnd cd (XT.cmpL x y) 0 ↔ cndL cd x y := by
  have e : XT.cmpL x y = lcmpW x y := by simp [XT.cmpL, lcmpW]
  rw [e]
  cases cd
  · exact lw_eq x y
  · exact not_congr (lw_eq x y)
  · exact lw_lt x y
  · exact not_congr (lw_lt x y)
  · exact lw_gt x y
  · exact not_congr (lw_gt x y)
/-- lcmp and the branch behind it -/
theorem W.lcif {cd : ClassFile.Cond} {x y : Int64} {o : Int} {pc1 pc' : Nat} (hd1 : decode μ.2.1 pc = .ok (.lcmp, 1)) (hp1 : pc + 1 = pc1) (hd : decode μ.2.1 pc1 = .ok (.ifCond cd o, 3)) (ho : 0 ≤ (pc1 : Int) + o) (hp : ((pc1 : Int) + o).toNat = pc') (h1 : cndL cd x y → W tb K μ rm pc' L S H Q) (h2 : cndLN cd x y → W tb K μ rm (pc1 + 3) L S H Q) : W tb K μ rm pc L (.long y :: .long x :: S) H Q := by
  subst hp1
  exact W.lcmp hd1 (W.ifc hd ho hp (fun h => h1 ((cmpL_iff cd x y).mp h)) (fun h => h2 ((cndLN_iff cd x y).mpr fun q => (cndN_iff cd _ 0).mp h ((cmpL_iff cd x y).mpr q))))
theorem W.ifnullR {i : Nat} {o : Int} (hd : decode μ.2.1 pc = .ok (.ifnull o, 3)) (h : W tb K μ rm (pc + 3) L S H Q) : W tb K μ rm pc L (.ref i :: S) H Q :=
  W.pure rfl (fun k p e m below c T hA hx hb' t ht => XS.ifnullNo hA hx rfl (hb hb' hd) rfl ht) h
theorem W.ifnonnullR {i : Nat} {o : Int} {pc' : Nat} (hd : decode μ.2.1 pc = .ok (.ifnonnull o, 3)) (ho : 0 ≤ (pc : Int) + o) (hp : ((pc : Int) + o).toNat = pc') (h : W tb K μ rm pc' L S H Q) : W tb K μ rm pc L (.ref i :: S) H Q :=
  W.pure rfl (fun k p e m below c T hA hx hb' t ht => XT.ifnonnullYes hA hx rfl rfl (hb hb' hd) rfl ho hp ht) h
theorem W.lsw {d : Int} {ps : Array (Int × Int)} {len : Nat} {x : Int32} {o : Int} {pc' : Nat} (hd : decode μ.2.1 pc = .ok (.lookupswitch d ps, len)) (hs : (ps.toList.zip (ps.toList.drop 1)).all (fun (a, next) => a.1 < next.1) = true) (ho : lookupswitch.offset ps.toList d x.toInt = o) (h0 : 0 ≤ (pc : Int) + o) (hp : ((pc : Int) + o).toNat = pc')
    (h : W tb K μ rm pc' L S H Q) : W tb K μ rm pc L (.int x :: S) H Q := by
  subst hp
  refine W.pure rfl (fun k p e m below c T hA hx hb' t ht => ?_) h
  have hd' := hb hb' hd
  show Steps p.tables e below (T.setTop (mkF m pc (L.map (cs k)).toArray (.int x :: S.map (cv k)))) _
  jvm_step hA [hA.top, hx, hd', lookupswitch.wp_chain, ho, h0]
  refine ⟨?_, ht⟩
  simpa using hs
end Logic
end Jvm.Own
namespace Jvm.Own
open Sem ClassFile Op Lib Jvm.Stand Jvm.Free Jvm.LawKit Jvm.RoadKit
section Heap
variable {Z : State} {K : KTab} {h h' : Heap} {H : AHeap} {a b : Addr} {tb : List Cond} {a0 : Array Value}
theorem CellOk.ext {c : ACell} (E : Ext h h') (F : CellOk Z K h a c) : CellOk Z K h' a c := by
  cases c with
  | inl q =>
    obtain ⟨C, n, fs, h1, h2, h3, h4⟩ := F
    exact ⟨C, n, fs, h1, h2, h3.ext E, fun j f v hf hv => (h4 j f v hf hv).ext E⟩
  | inr q =>
    obtain ⟨cell, h1, h2⟩ := F
    exact ⟨cell, h1.ext E, h2⟩
theorem CellOk.other {c : ACell} {sl : Nat} {v : Value} (W : Wr h h' b sl v) (F : CellOk Z K h a c) (ne : a ≠ b) : CellOk Z K h' a c := by
  cases c with
  | inl q =>
    obtain ⟨C, n, fs, h1, h2, h3, h4⟩ := F
    exact ⟨C, n, fs, h1, h2, h3.wr W, fun j f v hf hv => (h4 j f v hf hv).other W (Or.inl ne)⟩
  | inr q =>
    obtain ⟨cell, h1, h2⟩ := F
    exact ⟨cell, h1.other W ne, h2⟩
theorem Rel.start (Z : State) (K : KTab) : Rel Z K Z.heap [] := ⟨rfl, fun i c q => by simp at q⟩
theorem Rel.push {c : ACell} {cell : Cell} (R : Rel Z K h H) (F : CellOk Z K (h.push cell) (Z.heap.size + H.length) c) : Rel Z K (h.push cell) (H ++ [c]) := by
  have E : Ext h (h.push cell) := ⟨by simp, fun x c q => by rw [Array.getElem?_push_lt (Array.getElem?_eq_some_iff.mp q).1]; exact (Array.getElem?_eq_getElem _).symm.trans q⟩
  refine ⟨by simp [R.1]; omega, fun i c' q => ?_⟩
  rcases Nat.lt_trichotomy i H.length with hi | hi | hi
  · rw [List.getElem?_append_left hi] at q
    exact (R.2 i c' q).ext E
  · subst hi
    rw [List.getElem?_append_right (Nat.le_refl _)] at q
    simp at q
    subst q
    exact F
  · rw [List.getElem?_append_right (Nat.le_of_lt hi)] at q
    rw [List.getElem?_eq_none (show 1 ≤ i - H.length from Nat.sub_pos_of_lt hi)] at q
    cases q
theorem Rel.set {c : ACell} {i sl : Nat} {v : Value} (R : Rel Z K h H) (W : Wr h h' (Z.heap.size + i) sl v) (F : CellOk Z K h' (Z.heap.size + i) c) : Rel Z K h' (H.set i c) := by
  refine ⟨by rw [W.size, List.length_set]; exact R.1, fun j c' q => ?_⟩
  by_cases e : j = i
  · subst e
    obtain ⟨hl, -⟩ := List.getElem?_eq_some_iff.mp q
    rw [List.getElem?_set_self (by simpa using hl)] at q
    cases q
    exact F
  · rw [List.getElem?_set_ne (Ne.symm e)] at q
    exact (R.2 j c' q).other W (fun q' => e (Nat.add_left_cancel q'))
theorem mem_of_get {q : String × Nat × List (String × String × String × FieldType)} {c : Nat} (hK : K[c]? = some q) : q ∈ K := List.mem_of_getElem? hK
theorem FOk.laid {C : String} {f : String × String × String × FieldType} (F : FOk tb C f) (hw : ∀ d ∈ tb, d.before a0 Z = true) : Laid Z a0 C f.1 f.2.1 f.2.2.1 := F.1.imp (hw _) (hw _)
theorem CellOk.put {c i j : Nat} {vs : List Value} {C : String} {n : Nat} {fs : List (String × String × String × FieldType)} {f : String × String × String × FieldType} {v : Value} (hKO : KOk tb K) (hw : ∀ d ∈ tb, d.before a0 Z = true) (hK : K[c]? = some (C, n, fs)) (hf : fs[j]? = some f)
    (W : Wr h h' a (RoadKit.slotOf Z f.1 f.2.1 f.2.2.1) (cv Z.heap.size v)) (F : CellOk Z K h a (.inl (c, vs))) : CellOk Z K h' a (.inl (c, vs.set j v)) := by
  obtain ⟨C', n', fs', h1, h2, h3, h4⟩ := F
  cases hK.symm.trans h1
  obtain ⟨k1, k2, k3⟩ := hKO _ (mem_of_get hK)
  refine ⟨C, n, fs, hK, by simpa using h2, h3.wr W, fun j' f' v' hf' hv' => ?_⟩
  by_cases e : j' = j
  · subst e
    cases hf.symm.trans hf'
    have hl : j' < vs.length := by rw [h2]; exact (List.getElem?_eq_some_iff.mp hf).1
    rw [List.getElem?_set_self hl] at hv'
    cases hv'
    obtain ⟨w, hw'⟩ : ∃ w, vs[j']? = some w := ⟨vs[j'], List.getElem?_eq_getElem hl⟩
    exact (h4 j' f w hf hw').same W
  · rw [List.getElem?_set_ne (Ne.symm e)] at hv'
    have m1 : f ∈ fs := List.mem_of_getElem? hf
    have m2 : f' ∈ fs := List.mem_of_getElem? hf'
    have hn : f'.2.1 ≠ f.2.1 := fun q => by
      have g1 : (fs.map fun f => f.2.1)[j']? = some f'.2.1 := by simp [hf']
      have g2 : (fs.map fun f => f.2.1)[j]? = some f.2.1 := by simp [hf]
      rw [q] at g1
      obtain ⟨l1, e1⟩ := List.getElem?_eq_some_iff.mp g1
      obtain ⟨l2, e2⟩ := List.getElem?_eq_some_iff.mp g2
      rcases Nat.lt_or_gt_of_ne e with lt | lt
      · exact (List.pairwise_iff_getElem.mp k3) j' j l1 l2 lt (e1.trans e2.symm)
      · exact (List.pairwise_iff_getElem.mp k3) j j' l2 l1 lt (e2.trans e1.symm)
    exact (h4 j' f' v' hf' hv').other W (Or.inr (slot_ne ((k2 f' m2).laid hw) ((k2 f m1).laid hw) hn (k2 f' m2).2 (k2 f m1).2))
theorem CellOk.sto {ty : FieldType} {vs : List Value} {j : Nat} {v : Value} (W : Wr h h' a j (cv Z.heap.size v)) (F : CellOk Z K h a (.inr (ty, vs))) (hv : fits ty v = true) : CellOk Z K h' a (.inr (ty, vs.set j v)) := by
  obtain ⟨cell, h1, h2, h3⟩ := F
  refine ⟨_, h1.same W, ?_, fun w hw => ?_⟩
  · simp [Cell.setSlot, h2, List.map_set]
  · rcases List.mem_or_eq_of_mem_set hw with q | q
    · exact h3 w q
    · exact q ▸ hv
end Heap
section Logic
variable {tb : List Cond} {K : KTab} {μ : Mth} {rm : Room} {pc : Nat} {L : List Slot} {S : List Value} {H : AHeap} {Q Q' : Option Value → AHeap → Prop}
theorem via_of {Z : State} {a0 : Array Value} (hw : ∀ d ∈ tb, d.before a0 Z = true) {R0 O n d : String} (via : R0 = O ∨ Cond.sameField R0 O n d ∈ tb) : Via Z R0 O n d := by
  rcases via with rfl | q
  · exact Via.refl
  · exact Via.of (hw _ q)
theorem W.getF {idx i j c n : Nat} {C R0 host : String} {fs : List (String × String × String × FieldType)} {vs : List Value} {f : String × String × String × FieldType} {v : Value} (hd : decode μ.2.1 pc = .ok (.getfield idx, 3))
    (w : Cond.fieldLink μ.1.cls idx R0 f.2.1 f.2.2.1 ∈ tb ∨ Cond.fieldLinkNest μ.1.cls idx R0 f.2.1 f.2.2.1 host ∈ tb) (via : R0 = f.1 ∨ Cond.sameField R0 f.1 f.2.1 f.2.2.1 ∈ tb) (hK : K[c]? = some (C, n, fs)) (hf : fs[j]? = some f) (hH : H[i]? = some (.inl (c, vs))) (hv : vs[j]? = some v)
    (h : W tb K μ rm (pc + 3) L (v :: S) H Q) : W tb K μ rm pc L (.ref i :: S) H Q := by
  intro hL Z a0 p l e R s m args below meth c' T locs cells slots X
  obtain ⟨X0, hx, hZ, hw, hby, hml, hrt, hnm, hlk, hown, hR, hr⟩ := X
  obtain ⟨C', n', fs', k1, k2, k3, k4⟩ := hR.2 _ _ hH
  cases hK.symm.trans k1
  have F := k4 j f v hf hv
  obtain ⟨T1, X1, e1, st⟩ := RoadKit.getF X0 hx hZ hown (w.imp (hw _) (hw _)) (via_of hw via) rfl F (g := mkF m pc (L.map (cs Z.heap.size)).toArray ((Value.ref i :: S).map (cv Z.heap.size))) rfl rfl (hb hby hd)
  exact (h hL Z a0 p l e R s m args below meth c' T1 locs cells slots ⟨X1, hx, hZ, hw, hby, hml, hrt, hnm, hlk, hown, e1 ▸ hR, hr⟩).steps st
theorem W.putF {idx i j c n : Nat} {C R0 host : String} {fs : List (String × String × String × FieldType)} {vs : List Value} {f : String × String × String × FieldType} {v : Value} (hKO : KOk tb K) (hd : decode μ.2.1 pc = .ok (.putfield idx, 3))
    (w : Cond.fieldLink μ.1.cls idx R0 f.2.1 f.2.2.1 ∈ tb ∨ Cond.fieldLinkNest μ.1.cls idx R0 f.2.1 f.2.2.1 host ∈ tb) (via : R0 = f.1 ∨ Cond.sameField R0 f.1 f.2.1 f.2.2.1 ∈ tb) (hK : K[c]? = some (C, n, fs)) (hf : fs[j]? = some f)
    (la : Cond.lays C f.1 f.2.1 f.2.2.1 ∈ tb ∨ (Cond.laysFinal C f.1 f.2.1 f.2.2.1 ∈ tb ∧ μ.1.cls = f.1 ∧ μ.1.name = "<init>")) (hn : narrow f.2.2.2 v = v) (hfi : fits f.2.2.2 v = true) (hH : H[i]? = some (.inl (c, vs)))
    (h : W tb K μ rm (pc + 3) L S (H.set i (.inl (c, vs.set j v))) Q) : W tb K μ rm pc L (v :: .ref i :: S) H Q := by
  intro hL Z a0 p l e R s m args below meth c' T locs cells slots X
  obtain ⟨X0, hx, hZ, hw, hby, hml, hrt, hnm, hlk, hown, hR, hFr, hr⟩ := X
  have CO := hR.2 _ _ hH
  obtain ⟨C', n', fs', k1, k2, k3, k4⟩ := CO
  cases hK.symm.trans k1
  have hl : j < vs.length := by rw [k2]; exact (List.getElem?_eq_some_iff.mp hf).1
  have F := k4 j f vs[j] hf (List.getElem?_eq_getElem hl)
  obtain ⟨o1, o2, o3⟩ := hKO _ (mem_of_get hK)
  obtain ⟨T1, h1, X1, e1, W1, st⟩ := RoadKit.putF X0 hx hZ hown (w.imp (hw _) (hw _)) (via_of hw via) rfl F k3 (la.imp (hw _) fun q => ⟨hw _ q.1, q.2.1, hnm.trans q.2.2⟩) (hw _ o1) (o2 f (List.mem_of_getElem? hf)).2 (v := cv Z.heap.size v) (by rw [cv_narrow, hn]) (by rw [cv_fits]; exact hfi) (g := mkF m pc (L.map (cs Z.heap.size)).toArray ((v :: Value.ref i :: S).map (cv Z.heap.size))) rfl rfl (hb hby hd)
  exact (h hL Z a0 p l e R s m args below meth c' T1 _ cells slots ⟨X1, hx, hZ, hw, hby, hml, hrt, hnm, hlk, hown, e1 ▸ hR.set W1 (CellOk.put (i := i) hKO hw hK hf W1 (hR.2 _ _ hH)), Fr.snoc X1 hFr (Nat.le_add_right _ _), hr⟩).steps st
/-- a field of a boolean, byte, char or short -/
theorem W.putFN {idx i j c n : Nat} {C R0 : String} {fs : List (String × String × String × FieldType)} {vs : List Value} {f : String × String × String × FieldType} {v v' : Value} (hKO : KOk tb K) (hd : decode μ.2.1 pc = .ok (.putfield idx, 3))
    (w : Cond.fieldLink μ.1.cls idx R0 f.2.1 f.2.2.1 ∈ tb) (via : R0 = f.1 ∨ Cond.sameField R0 f.1 f.2.1 f.2.2.1 ∈ tb) (hK : K[c]? = some (C, n, fs)) (hf : fs[j]? = some f)
    (la : Cond.lays C f.1 f.2.1 f.2.2.1 ∈ tb ∨ (Cond.laysFinal C f.1 f.2.1 f.2.2.1 ∈ tb ∧ μ.1.cls = f.1 ∧ μ.1.name = "<init>")) (hn : narrow f.2.2.2 v = v') (hfi : fits f.2.2.2 v' = true) (hH : H[i]? = some (.inl (c, vs)))
    (h : W tb K μ rm (pc + 3) L S (H.set i (.inl (c, vs.set j v'))) Q) : W tb K μ rm pc L (v :: .ref i :: S) H Q := by
  intro hL Z a0 p l e R s m args below meth c' T locs cells slots X
  obtain ⟨X0, hx, hZ, hw, hby, hml, hrt, hnm, hlk, hown, hR, hFr, hr⟩ := X
  have CO := hR.2 _ _ hH
  obtain ⟨C', n', fs', k1, k2, k3, k4⟩ := CO
  cases hK.symm.trans k1
  have hl : j < vs.length := by rw [k2]; exact (List.getElem?_eq_some_iff.mp hf).1
  have F := k4 j f vs[j] hf (List.getElem?_eq_getElem hl)
  obtain ⟨o1, o2, o3⟩ := hKO _ (mem_of_get hK)
  obtain ⟨T1, h1, X1, e1, W1, st⟩ := RoadKit.putFN X0 hx hZ hown (hw _ w) (via_of hw via) rfl F k3 (la.imp (hw _) fun q => ⟨hw _ q.1, q.2.1, hnm.trans q.2.2⟩) (hw _ o1) (o2 f (List.mem_of_getElem? hf)).2 (v := cv Z.heap.size v) (v' := cv Z.heap.size v') (by rw [cv_narrow, hn]) (by rw [cv_fits]; exact hfi) (g := mkF m pc (L.map (cs Z.heap.size)).toArray ((v :: Value.ref i :: S).map (cv Z.heap.size))) rfl rfl (hb hby hd)
  exact (h hL Z a0 p l e R s m args below meth c' T1 _ cells slots ⟨X1, hx, hZ, hw, hby, hml, hrt, hnm, hlk, hown, e1 ▸ hR.set W1 (CellOk.put (i := i) hKO hw hK hf W1 (hR.2 _ _ hH)), Fr.snoc X1 hFr (Nat.le_add_right _ _), hr⟩).steps st
/-- the index j is the natural N -/
abbrev ix (j : Int32) (N : Nat) : Prop := ¬ j < 0 ∧ j.toNatClampNeg = N
theorem ix_ofNat {N : Nat} (h : N < 2 ^ 31) : ix (Int32.ofNat N) N := by
  have e : (Int32.ofNat N).toInt = N := Int32.toInt_ofNat_of_lt h
  refine ⟨?_, ?_⟩
  · rw [Int32.lt_iff_toInt_lt, e]; simp
  · rw [Int32.toNatClampNeg, e]; rfl
theorem inb {cell : Cell} {j : Int32} {N : Nat} {vs : List Value} {k : Nat} (k2 : cell.slots = (vs.map (cv k)).toArray) (hj : ¬ j < 0) (hN : j.toNatClampNeg = N) (hl : N < vs.length) : ¬ (j < 0 ∨ cell.slots.size ≤ j.toNatClampNeg) := by
  rw [k2, hN]; simp; exact ⟨by simpa using hj, hl⟩
/-- room for an object of n slots -/
def nok (rm : Room) (n : Nat) : Bool := Nat.ble 1 rm.cells && (Nat.ble n rm.slots && Nat.ble n 67108864)
theorem nok_spec {rm : Room} {n : Nat} (h : nok rm n = true) : 1 ≤ rm.cells ∧ n ≤ rm.slots ∧ n * 8 ≤ 536870912 := by
  simp only [nok, Bool.and_eq_true, Nat.ble_eq] at h
  omega
theorem W.new {idx c n i : Nat} {C : String} {fs : List (String × String × String × FieldType)} (hKO : KOk tb K) (hd : decode μ.2.1 pc = .ok (.new idx, 3)) (w : Cond.classLink μ.1.cls idx C ∈ tb) (wz : Cond.initialized C ∈ tb) (hK : K[c]? = some (C, n, fs)) (hi : H.length = i) (hr : nok rm n = true)
    (h : W tb K μ ⟨rm.frames, rm.cells - 1, rm.slots - n, rm.locals⟩ (pc + 3) L (.ref i :: S) (H ++ [.inl (c, fs.map fun f => defaultValue f.2.2.2)]) Q) : W tb K μ rm pc L S H Q := by
  intro hL Z a0 p l e R s m args below meth c' T locs cells slots X
  obtain ⟨X0, hx, hZ, hw, hby, hml, hrt, hnm, hlk, hown, hR, hFr, hr1, hr2, hr3, hr4⟩ := X
  obtain ⟨hc, hs, hb'⟩ := nok_spec hr
  obtain ⟨o1, o2, o3⟩ := hKO _ (mem_of_get hK)
  obtain ⟨vm', cC, kC, h1, h2, h3, h4, X', st⟩ := X0.newCold hx hown (mv hZ (hw _ w)) (mv hZ (hw _ (show Cond.instantiable C n ∈ tb from o1))) (mv hZ (hw _ wz)) (g := mkF m pc (L.map (cs Z.heap.size)).toArray (S.map (cv Z.heap.size))) rfl (hb hby hd) (by omega) (by omega)
  rw [hZ.alike.findClass] at h1
  obtain ⟨kZ, z1, -⟩ := Vm.findClass_spec h1
  obtain ⟨k', z2, z3⟩ := hZ.alike.2.2 _ _ z1
  cases h2.symm.trans z2
  have ei : kC.instanceTypes = kZ.instanceTypes := by rw [z3]
  have hN : (T.heap.push { cls := cC, slots := kC.instanceTypes.map defaultValue, vm := .none })[T.heap.size]? = some { cls := cC, slots := kC.instanceTypes.map defaultValue, vm := .none } := by simp
  have ea : Z.heap.size + i = T.heap.size := by rw [hR.1, hi]
  have CO : CellOk Z K (T.heap.push { cls := cC, slots := kC.instanceTypes.map defaultValue, vm := .none }) (Z.heap.size + H.length) (.inl (c, fs.map fun f => defaultValue f.2.2.2)) := by
    refine ⟨C, n, fs, hK, by simp, ⟨_, kZ, by rw [← hR.1]; exact hN, h1, z1, rfl, fun _ => by simp [ei]⟩, fun j f v hf hv => ?_⟩
    have hv' : v = defaultValue f.2.2.2 := by simpa [hf] using hv.symm
    subst hv'
    obtain ⟨f1, f2⟩ := o2 f (List.mem_of_getElem? hf)
    obtain ⟨c1, k1, cf, kf, i1, ff, b1, b2, b3, b4, b5, b6, -⟩ := (FOk.laid ⟨f1, f2⟩ hw).spec
    cases h1.symm.trans b1
    cases z1.symm.trans b2
    rw [cv_default]
    exact ⟨_, cf, kf, i1, ff, by rw [← hR.1]; exact hN, b3, b4, by simp, rfl, b5, by simp [ei, b6, (State.fieldFound?_type b3 f2).2]⟩
  have := h hL Z a0 p l e R s m args below meth c' _ locs (cells + 1) (slots + n) ⟨X', hx, hZ, hw, hby, hml, hrt, hnm, hlk, hown, hR.push CO, hFr, hr1, by show cells + 1 + (rm.cells - 1) ≤ _; omega, by show slots + n + (rm.slots - n) ≤ _; omega, hr4⟩
  refine this.steps fun t ht => st t ?_
  rw [← ea]; exact ht
theorem W.newarray {aty : ArrayType} {ty : FieldType} {N i : Nat} {n : Int32} {d : Value} (hd : decode μ.2.1 pc = .ok (.newarray aty, 2)) (hty : newarray.typeOf aty = ty) (w : Cond.arrayClass ty ∈ tb) (hdv : defaultValue ty = d) (hn : ix n N) (hi : H.length = i) (hr : nok rm N = true)
    (h : W tb K μ ⟨rm.frames, rm.cells - 1, rm.slots - N, rm.locals⟩ (pc + 2) L (.ref i :: S) (H ++ [.inr (ty, List.replicate N d)]) Q) : W tb K μ rm pc L (.int n :: S) H Q := by
  intro hL Z a0 p l e R s m args below meth c' T locs cells slots X
  obtain ⟨X0, hx, hZ, hw, hby, hml, hrt, hnm, hlk, hown, hR, hFr, hr1, hr2, hr3, hr4⟩ := X
  obtain ⟨hn, hN⟩ := hn
  subst hty hdv hN
  obtain ⟨hc, hs, hb'⟩ := nok_spec hr
  have hcb : componentBytes (newarray.typeOf aty) ≤ 8 := by cases aty <;> decide
  obtain ⟨cA, kA, comp, h1, h2, h3, X', st⟩ := X0.newarrayPrim hx (mvA hZ (hw _ w)) (g := mkF m pc (L.map (cs Z.heap.size)).toArray ((Value.int n :: S).map (cv Z.heap.size))) rfl (hb hby hd) (n := n) rfl hn (Nat.le_trans (Nat.mul_le_mul (Nat.le_refl _) hcb) hb') (by omega) (by omega)
  rw [hZ.alike.findClass] at h1
  obtain ⟨kZ, z1, -⟩ := Vm.findClass_spec h1
  obtain ⟨k', z2, z3⟩ := hZ.alike.2.2 _ _ z1
  cases h2.symm.trans z2
  have hN : (T.heap.push { cls := cA, slots := Array.replicate n.toNatClampNeg (defaultValue (newarray.typeOf aty)), vm := .none })[T.heap.size]? = some { cls := cA, slots := Array.replicate n.toNatClampNeg (defaultValue (newarray.typeOf aty)), vm := .none } := by simp
  have ea : Z.heap.size + i = T.heap.size := by rw [hR.1, hi]
  have CO : CellOk Z K (T.heap.push { cls := cA, slots := Array.replicate n.toNatClampNeg (defaultValue (newarray.typeOf aty)), vm := .none }) (Z.heap.size + H.length) (.inr (newarray.typeOf aty, List.replicate n.toNatClampNeg (defaultValue (newarray.typeOf aty)))) := by
    refine ⟨_, ⟨by rw [← hR.1]; exact hN, ⟨by simp, kZ, z1, comp, by rw [← h3, z3]⟩, by simp⟩, by simp [cv_default], fun v hv => ?_⟩
    rw [(List.mem_replicate.mp hv).2]
    cases aty <;> rfl
  have := h hL Z a0 p l e R s m args below meth c' _ locs (cells + 1) (slots + n.toNatClampNeg) ⟨X', hx, hZ, hw, hby, hml, hrt, hnm, hlk, hown, hR.push CO, hFr, hr1, by show cells + 1 + (rm.cells - 1) ≤ _; omega, by show slots + n.toNatClampNeg + (rm.slots - n.toNatClampNeg) ≤ _; omega, hr4⟩
  refine this.steps fun t ht => st t ?_
  rw [← ea]; exact ht
theorem W.arraylength {i : Nat} {ty : FieldType} {vs : List Value} (hd : decode μ.2.1 pc = .ok (.arraylength, 1)) (hH : H[i]? = some (.inr (ty, vs))) (h : W tb K μ rm (pc + 1) L (.int (Int32.ofNat vs.length) :: S) H Q) : W tb K μ rm pc L (.ref i :: S) H Q := by
  intro hL Z a0 p l e R s m args below meth c' T locs cells slots X
  have X' := X
  obtain ⟨X0, hx, hZ, hw, hby, hml, hrt, hnm, hlk, hown, hR, hr⟩ := X
  obtain ⟨cell, A, k2, k3⟩ := hR.2 _ _ hH
  refine (h hL Z a0 p l e R s m args below meth c' T locs cells slots X').steps fun t ht => ?_
  refine X0.arraylength hx A.1 (State.isArrayOf_alike hZ.alike A.2.1) (g := mkF m pc (L.map (cs Z.heap.size)).toArray ((Value.ref i :: S).map (cv Z.heap.size))) rfl rfl (hb hby hd) t ?_
  have e : cell.slots.size.toInt32 = Int32.ofNat vs.length := by rw [k2]; simp
  rw [e]; exact ht
theorem W.xaload {ins : Instr} {ty : FieldType} (hk : (ins = .iaload ∧ ty = .int) ∨ (ins = .laload ∧ ty = .long) ∨ (ins = .baload ∧ (ty = .byte ∨ ty = .boolean))) {i N : Nat} {j : Int32} {vs : List Value} {v : Value} (hd : decode μ.2.1 pc = .ok (ins, 1)) (hH : H[i]? = some (.inr (ty, vs))) (hj : ix j N) (hv : vs[N]? = some v)
    (h : W tb K μ rm (pc + 1) L (v :: S) H Q) : W tb K μ rm pc L (.int j :: .ref i :: S) H Q := by
  intro hL Z a0 p l e R s m args below meth c' T locs cells slots X
  have X' := X
  obtain ⟨X0, hx, hZ, hw, hby, hml, hrt, hnm, hlk, hown, hR, hr⟩ := X
  obtain ⟨cell, A, k2, k3⟩ := hR.2 _ _ hH
  have hN := hj.2
  have hin := inb k2 hj.1 hN (List.getElem?_eq_some_iff.mp hv).1
  have hv' : cell.slots[j.toNatClampNeg]? = some (cv Z.heap.size v) := by rw [k2, hN]; simp [hv]
  refine (h hL Z a0 p l e R s m args below meth c' T locs cells slots X').steps fun t ht => ?_
  rcases hk with ⟨rfl, rfl⟩ | ⟨rfl, rfl⟩ | ⟨rfl, rfl | rfl⟩
  · exact X0.iaload hx A.1 (State.isArrayOf_alike hZ.alike A.2.1) A.2.2 hin hv' (g := mkF m pc (L.map (cs Z.heap.size)).toArray ((Value.int j :: Value.ref i :: S).map (cv Z.heap.size))) rfl rfl (hb hby hd) t ht
  · exact X0.laload hx A.1 (State.isArrayOf_alike hZ.alike A.2.1) A.2.2 hin hv' (g := mkF m pc (L.map (cs Z.heap.size)).toArray ((Value.int j :: Value.ref i :: S).map (cv Z.heap.size))) rfl rfl (hb hby hd) t ht
  · exact X0.baloadBytes hx A.1 (State.isArrayOf_alike hZ.alike A.2.1) A.2.2 hin hv' (g := mkF m pc (L.map (cs Z.heap.size)).toArray ((Value.int j :: Value.ref i :: S).map (cv Z.heap.size))) rfl rfl (hb hby hd) t ht
  · exact X0.baloadBooleans hx A.1 (State.isArrayOf_alike hZ.alike A.2.1) A.2.2 hin hv' (g := mkF m pc (L.map (cs Z.heap.size)).toArray ((Value.int j :: Value.ref i :: S).map (cv Z.heap.size))) rfl rfl (hb hby hd) t ht
theorem W.iastore {i N : Nat} {j x : Int32} {vs : List Value} (hd : decode μ.2.1 pc = .ok (.iastore, 1)) (hH : H[i]? = some (.inr (.int, vs))) (hj : ix j N) (hl : Nat.blt N vs.length = true)
    (h : W tb K μ rm (pc + 1) L S (H.set i (.inr (.int, vs.set N (.int x)))) Q) : W tb K μ rm pc L (.int x :: .int j :: .ref i :: S) H Q := by
  intro hL Z a0 p l e R s m args below meth c' T locs cells slots X
  obtain ⟨X0, hx, hZ, hw, hby, hml, hrt, hnm, hlk, hown, hR, hFr, hr⟩ := X
  have CO := hR.2 _ _ hH
  obtain ⟨cell, A, k2, k3⟩ := CO
  obtain ⟨T1, h1, X1, e1, W1, st⟩ := stI X0 hx hZ rfl A (inb k2 hj.1 hj.2 (Nat.blt_eq.mp hl)) (g := mkF m pc (L.map (cs Z.heap.size)).toArray ((Value.int x :: Value.int j :: Value.ref i :: S).map (cv Z.heap.size))) rfl rfl (hb hby hd)
  rw [hj.2] at W1
  exact (h hL Z a0 p l e R s m args below meth c' T1 _ cells slots ⟨X1, hx, hZ, hw, hby, hml, hrt, hnm, hlk, hown, e1 ▸ hR.set W1 (CellOk.sto (v := .int x) W1 (hR.2 _ _ hH) rfl), Fr.snoc X1 hFr (Nat.le_add_right _ _), hr⟩).steps st
theorem W.lastore {i N : Nat} {j : Int32} {x : Int64} {vs : List Value} (hd : decode μ.2.1 pc = .ok (.lastore, 1)) (hH : H[i]? = some (.inr (.long, vs))) (hj : ix j N) (hl : Nat.blt N vs.length = true)
    (h : W tb K μ rm (pc + 1) L S (H.set i (.inr (.long, vs.set N (.long x)))) Q) : W tb K μ rm pc L (.long x :: .int j :: .ref i :: S) H Q := by
  intro hL Z a0 p l e R s m args below meth c' T locs cells slots X
  obtain ⟨X0, hx, hZ, hw, hby, hml, hrt, hnm, hlk, hown, hR, hFr, hr⟩ := X
  have CO := hR.2 _ _ hH
  obtain ⟨cell, A, k2, k3⟩ := CO
  obtain ⟨T1, h1, X1, e1, W1, st⟩ := stJ X0 hx hZ rfl A (inb k2 hj.1 hj.2 (Nat.blt_eq.mp hl)) (g := mkF m pc (L.map (cs Z.heap.size)).toArray ((Value.long x :: Value.int j :: Value.ref i :: S).map (cv Z.heap.size))) rfl rfl (hb hby hd)
  rw [hj.2] at W1
  exact (h hL Z a0 p l e R s m args below meth c' T1 _ cells slots ⟨X1, hx, hZ, hw, hby, hml, hrt, hnm, hlk, hown, e1 ▸ hR.set W1 (CellOk.sto (v := .long x) W1 (hR.2 _ _ hH) rfl), Fr.snoc X1 hFr (Nat.le_add_right _ _), hr⟩).steps st
theorem W.bastore {i N : Nat} {j x : Int32} {vs : List Value} (hd : decode μ.2.1 pc = .ok (.bastore, 1)) (hH : H[i]? = some (.inr (.byte, vs))) (hj : ix j N) (hl : Nat.blt N vs.length = true)
    (h : W tb K μ rm (pc + 1) L S (H.set i (.inr (.byte, vs.set N (.int x.toInt8.toInt32)))) Q) : W tb K μ rm pc L (.int x :: .int j :: .ref i :: S) H Q := by
  intro hL Z a0 p l e R s m args below meth c' T locs cells slots X
  obtain ⟨X0, hx, hZ, hw, hby, hml, hrt, hnm, hlk, hown, hR, hFr, hr⟩ := X
  have CO := hR.2 _ _ hH
  obtain ⟨cell, A, k2, k3⟩ := CO
  obtain ⟨T1, h1, X1, e1, W1, st⟩ := stB X0 hx hZ rfl A (inb k2 hj.1 hj.2 (Nat.blt_eq.mp hl)) (g := mkF m pc (L.map (cs Z.heap.size)).toArray ((Value.int x :: Value.int j :: Value.ref i :: S).map (cv Z.heap.size))) rfl rfl (hb hby hd)
  rw [hj.2] at W1
  exact (h hL Z a0 p l e R s m args below meth c' T1 _ cells slots ⟨X1, hx, hZ, hw, hby, hml, hrt, hnm, hlk, hown, e1 ▸ hR.set W1 (CellOk.sto (v := .int x.toInt8.toInt32) W1 (hR.2 _ _ hH) (fits_nar_byte x)), Fr.snoc X1 hFr (Nat.le_add_right _ _), hr⟩).steps st
theorem W.bastoreZ {i N : Nat} {j x : Int32} {vs : List Value} (hd : decode μ.2.1 pc = .ok (.bastore, 1)) (hH : H[i]? = some (.inr (.boolean, vs))) (hj : ix j N) (hl : Nat.blt N vs.length = true)
    (h : W tb K μ rm (pc + 1) L S (H.set i (.inr (.boolean, vs.set N (.int (x &&& 1))))) Q) : W tb K μ rm pc L (.int x :: .int j :: .ref i :: S) H Q := by
  intro hL Z a0 p l e R s m args below meth c' T locs cells slots X
  obtain ⟨X0, hx, hZ, hw, hby, hml, hrt, hnm, hlk, hown, hR, hFr, hr⟩ := X
  have CO := hR.2 _ _ hH
  obtain ⟨cell, A, k2, k3⟩ := CO
  obtain ⟨T1, h1, X1, e1, W1, st⟩ := stZ X0 hx hZ rfl A (inb k2 hj.1 hj.2 (Nat.blt_eq.mp hl)) (g := mkF m pc (L.map (cs Z.heap.size)).toArray ((Value.int x :: Value.int j :: Value.ref i :: S).map (cv Z.heap.size))) rfl rfl (hb hby hd)
  rw [hj.2] at W1
  exact (h hL Z a0 p l e R s m args below meth c' T1 _ cells slots ⟨X1, hx, hZ, hw, hby, hml, hrt, hnm, hlk, hown, e1 ▸ hR.set W1 (CellOk.sto (v := .int (x &&& 1)) W1 (hR.2 _ _ hH) (fits_nar_bool x)), Fr.snoc X1 hFr (Nat.le_add_right _ _), hr⟩).steps st
theorem W.ldcInt {idx : Nat} {x : Int32} (hd : decode μ.2.1 pc = .ok (.ldc idx, 2)) (w : Cond.constant μ.1.cls idx x ∈ tb) (h : W tb K μ rm (pc + 2) L (.int x :: S) H Q) : W tb K μ rm pc L S H Q := by
  intro hL Z a0 p l e R s m args below meth c' T locs cells slots X
  have X' := X
  obtain ⟨X0, hx, hZ, hw, hby, hml, hrt, hnm, hlk, hown, hR, hr⟩ := X
  exact (h hL Z a0 p l e R s m args below meth c' T locs cells slots X').steps (X0.ldcInt hx hown (mvT hZ (hw _ w)) (g := mkF m pc (L.map (cs Z.heap.size)).toArray (S.map (cv Z.heap.size))) rfl (hb hby hd))
theorem W.ldcLong {idx : Nat} {x : Int64} (hd : decode μ.2.1 pc = .ok (.ldc2_w idx, 3)) (w : Cond.constantLong μ.1.cls idx x ∈ tb) (h : W tb K μ rm (pc + 3) L (.long x :: S) H Q) : W tb K μ rm pc L S H Q := by
  intro hL Z a0 p l e R s m args below meth c' T locs cells slots X
  have X' := X
  obtain ⟨X0, hx, hZ, hw, hby, hml, hrt, hnm, hlk, hown, hR, hr⟩ := X
  exact (h hL Z a0 p l e R s m args below meth c' T locs cells slots X').steps (X0.ldc2Long hx hown (mvT hZ (hw _ w)) (g := mkF m pc (L.map (cs Z.heap.size)).toArray (S.map (cv Z.heap.size))) rfl (hb hby hd))
end Logic
end Jvm.Own
namespace Jvm.Own
open Sem ClassFile Op Lib Jvm.Stand Jvm.Free Jvm.LawKit Jvm.RoadKit
section Logic
variable {tb : List Cond} {K : KTab} {μ μ' : Mth} {rm rm' : Room} {pc : Nat} {L : List Slot} {S : List Value} {H : AHeap} {Q Q' : Option Value → AHeap → Prop}
theorem W.ret_ (hd : decode μ.2.1 pc = .ok (.return_, 1)) (hr0 : μ.2.2.2 = none) (hQ : Q none H) : W tb K μ rm pc L [] H Q := by
  intro hL Z a0 p l e R s m args below meth c' T locs cells slots X
  obtain ⟨X0, hx, hZ, hw, hby, hml, hrt, hnm, hlk, hown, hR, hFr, hr1, hr2, hr3, hr4⟩ := X
  obtain ⟨fs, hr, hrun, hended, hW, hsame⟩ := X0.leave (v := none) (fun _ => rfl) hlk
  exact ⟨none, H, T, locs, fs, hQ, X0.returnOut hx (hrt.trans hr0) (hb hby hd) hr, hrun, hended, hW, hsame.mono (by omega) (by omega), hFr, hR⟩
theorem W.ireturn {x : Int32} (hd : decode μ.2.1 pc = .ok (.ireturn, 1)) (hr0 : μ.2.2.2 = some .int) (hQ : Q (some (.int x)) H) : W tb K μ rm pc L (.int x :: S) H Q := by
  intro hL Z a0 p l e R s m args below meth c' T locs cells slots X
  obtain ⟨X0, hx, hZ, hw, hby, hml, hrt, hnm, hlk, hown, hR, hFr, hr1, hr2, hr3, hr4⟩ := X
  obtain ⟨fs, hr, hrun, hended, hW, hsame⟩ := X0.leave (v := some (.int x)) (fun h => by rw [hrt, hr0] at h; cases h) hlk
  exact ⟨some (.int x), H, T, locs, fs, hQ, retOut X0 hx (hrt.trans hr0) rfl (Or.inl ⟨rfl, Or.inl rfl, _, rfl⟩) (hb hby hd) hr, hrun, hended, hW, hsame.mono (by omega) (by omega), hFr, hR⟩
theorem W.ireturnN {t : FieldType} {x : Int32} (hd : decode μ.2.1 pc = .ok (.ireturn, 1)) (hr0 : μ.2.2.2 = some t) (ht : t = .boolean ∨ t = .byte ∨ t = .char ∨ t = .short) (hQ : Q (some (.int (nar t x))) H) : W tb K μ rm pc L (.int x :: S) H Q := by
  intro hL Z a0 p l e R s m args below meth c' T locs cells slots X
  obtain ⟨X0, hx, hZ, hw, hby, hml, hrt, hnm, hlk, hown, hR, hFr, hr1, hr2, hr3, hr4⟩ := X
  obtain ⟨fs, hr, hrun, hended, hW, hsame⟩ := X0.leave (v := some (.int (nar t x))) (fun h => by rw [hrt, hr0] at h; cases h) hlk
  exact ⟨some (.int (nar t x)), H, T, locs, fs, hQ, retN X0 hx (hrt.trans hr0) ht (hb hby hd) hr, hrun, hended, hW, hsame.mono (by omega) (by omega), hFr, hR⟩
theorem W.ireturnZ {x : Int32} (hd : decode μ.2.1 pc = .ok (.ireturn, 1)) (hr0 : μ.2.2.2 = some .boolean) (hQ : Q (some (.int (x &&& 1))) H) : W tb K μ rm pc L (.int x :: S) H Q := W.ireturnN hd hr0 (Or.inl rfl) hQ
theorem W.lreturn {x : Int64} (hd : decode μ.2.1 pc = .ok (.lreturn, 1)) (hr0 : μ.2.2.2 = some .long) (hQ : Q (some (.long x)) H) : W tb K μ rm pc L (.long x :: S) H Q := by
  intro hL Z a0 p l e R s m args below meth c' T locs cells slots X
  obtain ⟨X0, hx, hZ, hw, hby, hml, hrt, hnm, hlk, hown, hR, hFr, hr1, hr2, hr3, hr4⟩ := X
  obtain ⟨fs, hr, hrun, hended, hW, hsame⟩ := X0.leave (v := some (.long x)) (fun h => by rw [hrt, hr0] at h; cases h) hlk
  exact ⟨some (.long x), H, T, locs, fs, hQ, retOut X0 hx (hrt.trans hr0) rfl (Or.inr (Or.inl ⟨rfl, rfl, _, rfl⟩)) (hb hby hd) hr, hrun, hended, hW, hsame.mono (by omega) (by omega), hFr, hR⟩
theorem W.areturn {t : FieldType} {v : Value} (hd : decode μ.2.1 pc = .ok (.areturn, 1)) (hr0 : μ.2.2.2 = some t) (ht : t.isReference = true) (hv : v.isRef = true) (hQ : Q (some v) H) : W tb K μ rm pc L (v :: S) H Q := by
  intro hL Z a0 p l e R s m args below meth c' T locs cells slots X
  obtain ⟨X0, hx, hZ, hw, hby, hml, hrt, hnm, hlk, hown, hR, hFr, hr1, hr2, hr3, hr4⟩ := X
  obtain ⟨fs, hr, hrun, hended, hW, hsame⟩ := X0.leave (v := some (cv Z.heap.size v)) (fun h => by rw [hrt, hr0] at h; cases h) hlk
  exact ⟨some v, H, T, locs, fs, hQ, retOut X0 hx (hrt.trans hr0) (by cases v <;> first | (cases t <;> rfl) | cases hv) (Or.inr (Or.inr (Or.inr (Or.inr ⟨rfl, ht, by rw [cv_isRef]; exact hv⟩)))) (hb hby hd) hr, hrun, hended, hW, hsame.mono (by omega) (by omega), hFr, hR⟩
/-- what a call leaves of the room -/
abbrev less (rm rm' : Room) : Room := ⟨rm.frames, rm.cells - rm'.cells, rm.slots - rm'.slots, rm.locals⟩
abbrev wt (S : List Value) : Nat := (S.map fun v => v.category).sum
abbrev plainCls (μ' : Mth) : Prop := μ'.1.cls ≠ "java/lang/invoke/MethodHandle" ∧ μ'.1.cls ≠ "java/lang/invoke/VarHandle"
/-- room for a call: S stays on the stack, n locals -/
def rok (rm rm' : Room) (n : Nat) (S : List Value) : Bool := Nat.ble (rm'.frames + 1) rm.frames && (Nat.ble (wt S + (n + 11) + rm'.locals) rm.locals && (Nat.ble rm'.cells rm.cells && Nat.ble rm'.slots rm.slots))
theorem rok_spec {rm rm' : Room} {n : Nat} {S : List Value} (h : rok rm rm' n S = true) : rm'.frames + 1 ≤ rm.frames ∧ wt S + (n + 11) + rm'.locals ≤ rm.locals ∧ rm'.cells ≤ rm.cells ∧ rm'.slots ≤ rm.slots := by
  simp only [rok, Bool.and_eq_true, Nat.ble_eq] at h
  exact h
/-- room for Object's constructor -/
def iok (rm : Room) (S : List Value) : Bool := Nat.ble 1 rm.frames && Nat.ble (wt S + 12) rm.locals
/-- a callee that answers one value and leaves one heap -/
abbrev Is (v0 : Option Value) (H0 : AHeap) : Option Value → AHeap → Prop := fun v H => v = v0 ∧ H = H0
theorem hs {H : AHeap} {i : Nat} {c c' : ACell} (h : H[i]? = some c) : (H.set i c')[i]? = some c' := List.getElem?_set_self (List.getElem?_eq_some_iff.mp h).1
theorem hn {H : AHeap} {i j : Nat} {c c' : ACell} (h : H[j]? = some c) (ne : i ≠ j) : (H.set i c')[j]? = some c := by rw [List.getElem?_set_ne ne]; exact h
theorem ha {H H' : AHeap} {j : Nat} {c : ACell} (h : H[j]? = some c) : (H ++ H')[j]? = some c := by rw [List.getElem?_append_left (List.getElem?_eq_some_iff.mp h).1]; exact h
theorem back_st (k : Nat) (v : Option Value) (S : List Value) : (v.map (cv k)).toList ++ S.map (cv k) = (v.toList ++ S).map (cv k) := by cases v <;> rfl
theorem W.callS {idx : Nat} {as : List Value} {S0 : List Value} {ps : List FieldType} {r : Option FieldType} (hd : decode μ.2.1 pc = .ok (.invokestatic idx, 3)) (w1 : Cond.methodLink μ.1.cls idx μ'.1 ∈ tb) (w2 : Cond.static μ'.1 ∈ tb) (w3 : Cond.initialized μ'.1.cls ∈ tb) (w4 : Cond.code μ'.1 μ'.2.1 μ'.2.2.1 μ'.2.2.2 ∈ tb) (hy : plainCls μ')
    (hp : parseMethodDescriptor μ'.1.desc = some ⟨ps, r⟩) (hlen : as.length = ps.length) (hS : S0 = as.reverse ++ S) (hM : M tb K μ' rm' as H Q') (hr : rok rm rm' μ'.2.2.1 S = true)
    (h : ∀ v H', Q' v H' → W tb K μ (less rm rm') (pc + 3) L (v.toList ++ S) H' Q) : W tb K μ rm pc L S0 H Q := by
  intro hL Z a0 p l e R s m args below meth c' T locs cells slots X
  obtain ⟨X0, hx, hZ, hw, hby, hml, hrt, hnm, hlk, hown, hR, hFr, hr1, hr2, hr3, hr4⟩ := X
  obtain ⟨hf, hl, hc, hs⟩ := rok_spec hr
  obtain ⟨_, vm1, ⟨T1, L1, k1, n1⟩, hW1, X1, ⟨Lc, ⟨v', H', rfl, hR', hq', hFr'⟩, l1, y1, z1⟩, st⟩ := Jvm.LawKit.callS X0 hx (y := μ'.1) hown (mvT hZ (hw _ w1)) (mvT hZ (hw _ w2)) (mvT hZ (hw _ w3)) (mvT hZ (hw _ w4)) hy (backOf (R := R) (rm := rm') (h := T.heap) (Q := fun v h L => ∃ v' H', v = Option.map (cv Z.heap.size) v' ∧ Rel Z K h H' ∧ Q' v' H' ∧ Fr Z.heap.size L) (W := wt S) (hM Z a0 hw l T.heap [] hR) hZ (hw _ w4) (hw _ w3) (by omega) (by omega))
    (g := mkF m pc (L.map (cs Z.heap.size)).toArray (S0.map (cv Z.heap.size))) rfl (by simp [hL, hml]) (argsL := as.map (cv Z.heap.size)) (rest := S.map (cv Z.heap.size)) (lenOf hp (by simpa using hlen)) (by rw [hS]; simp) (by show 2 * 0 + _ ≤ _; rw [cat_map]; exact Nat.le_of_eq (by simp)) (hb hby hd) (fun _ _ => ⟨rfl, rfl, by show cells + _ ≤ _; omega, by show slots + _ ≤ _; omega⟩)
  dsimp only [Pt.U, Pt.locs, Pt.cells, Pt.slots] at X1 l1 y1 z1 st hR'
  subst l1 y1 z1
  rw [back_st] at st
  exact (h v' H' hq' hL Z a0 p l e R s m args below meth c' T1 _ _ _ ⟨X1, hx, hZ, hw, hby, hml, hrt, hnm, hlk, hown, hR', Fr.app hFr hFr', hr1, by show cells + _ + (rm.cells - _) ≤ _; omega, by show slots + _ + (rm.slots - _) ≤ _; omega, hr4⟩).steps st
theorem W.callI {idx i : Nat} {as : List Value} {S0 : List Value} {ps : List FieldType} {r : Option FieldType} (hd : decode μ.2.1 pc = .ok (.invokespecial idx, 3)) (hn : μ'.1.name = "<init>") (hr0 : μ'.2.2.2 = none) (w1 : Cond.methodLink μ.1.cls idx μ'.1 ∈ tb) (w2 : Cond.instanceMethod μ'.1 ∈ tb) (w3 : Cond.initialized μ'.1.cls ∈ tb) (w4 : Cond.code μ'.1 μ'.2.1 μ'.2.2.1 μ'.2.2.2 ∈ tb) (hy : plainCls μ')
    (hp : parseMethodDescriptor μ'.1.desc = some ⟨ps, r⟩) (hlen : as.length = ps.length) (hS : S0 = as.reverse ++ .ref i :: S) (hM : M tb K μ' rm' (.ref i :: as) H Q') (hr : rok rm rm' μ'.2.2.1 S = true)
    (h : ∀ v H', Q' v H' → W tb K μ (less rm rm') (pc + 3) L (v.toList ++ S) H' Q) : W tb K μ rm pc L S0 H Q := by
  intro hL Z a0 p l e R s m args below meth c' T locs cells slots X
  obtain ⟨X0, hx, hZ, hw, hby, hml, hrt, hnm, hlk, hown, hR, hFr, hr1, hr2, hr3, hr4⟩ := X
  obtain ⟨hf, hl, hc, hs⟩ := rok_spec hr
  have w4' : (Cond.code μ'.1 μ'.2.1 μ'.2.2.1 none).before a0 Z = true := by have q := hw _ w4; rw [hr0] at q; exact q
  obtain ⟨_, vm1, ⟨T1, L1, k1, n1⟩, hW1, X1, ⟨Lc, ⟨v', H', rfl, hR', hq', hFr'⟩, l1, y1, z1⟩, st⟩ := X0.specialBack hx (y := μ'.1) hn hown (mvT hZ (hw _ w1)) (mvT hZ (hw _ w2)) (mvT hZ w4') hy (backOf (R := R) (rm := rm') (h := T.heap) (Q := fun v h L => ∃ v' H', v = Option.map (cv Z.heap.size) v' ∧ Rel Z K h H' ∧ Q' v' H' ∧ Fr Z.heap.size L) (W := wt S) (hM Z a0 hw l T.heap [] hR) hZ (hw _ w4) (hw _ w3) (by omega) (by omega))
    (g := mkF m pc (L.map (cs Z.heap.size)).toArray (S0.map (cv Z.heap.size))) rfl (by simp [hL, hml]) (Steps.refl _) (a := Z.heap.size + i) (argsL := as.map (cv Z.heap.size)) (rest := S.map (cv Z.heap.size)) (lenOf hp (by simpa using hlen)) (by rw [hS]; simp [cv]) (by show 2 * 0 + _ ≤ _; rw [cat_map]; exact Nat.le_of_eq (by simp)) (hb hby hd) (fun _ _ => ⟨rfl, rfl, by show cells + _ ≤ _; omega, by show slots + _ ≤ _; omega⟩)
  dsimp only [Pt.U, Pt.locs, Pt.cells, Pt.slots] at X1 l1 y1 z1 st hR'
  subst l1 y1 z1
  rw [back_st] at st
  exact (h v' H' hq' hL Z a0 p l e R s m args below meth c' T1 _ _ _ ⟨X1, hx, hZ, hw, hby, hml, hrt, hnm, hlk, hown, hR', Fr.app hFr hFr', hr1, by show cells + _ + (rm.cells - _) ≤ _; omega, by show slots + _ + (rm.slots - _) ≤ _; omega, hr4⟩).steps (fun t ht => st.trans ht)
/-- the opcode that returns nothing -/
def opReturn : UInt8 := 177
/-- java/lang/Object's constructor -/
theorem W.initO {idx i : Nat} (hd : decode μ.2.1 pc = .ok (.invokespecial idx, 3)) (w1 : Cond.methodLink μ.1.cls idx Lib.objectInit ∈ tb) (w2 : Cond.instanceMethod Lib.objectInit ∈ tb) (w3 : Cond.code Lib.objectInit ⟨#[opReturn]⟩ 1 none ∈ tb) (hr : iok rm S = true)
    (h : W tb K μ rm (pc + 3) L S H Q) : W tb K μ rm pc L (.ref i :: S) H Q := by
  intro hL Z a0 p l e R s m args below meth c' T locs cells slots X
  obtain ⟨X0, hx, hZ, hw, hby, hml, hrt, hnm, hlk, hown, hR, hFr, hr1, hr2, hr3, hr4⟩ := X
  simp only [iok, Bool.and_eq_true, Nat.ble_eq] at hr
  obtain ⟨hf, hl⟩ := hr
  obtain ⟨T1, X1, e1, st⟩ := RoadKit.initO X0 hx hZ hown (hw _ w1) (hw _ w2) (hw _ w3) rfl (g := mkF m pc (L.map (cs Z.heap.size)).toArray ((Value.ref i :: S).map (cv Z.heap.size))) rfl (by simp [hL, hml]) rfl (hb hby hd) (by omega) (W := wt S) (by show 2 * 0 + _ ≤ _; rw [cat_map]; exact Nat.le_of_eq (by simp)) (by omega)
  exact (h hL Z a0 p l e R s m args below meth c' T1 locs cells slots ⟨X1, hx, hZ, hw, hby, hml, hrt, hnm, hlk, hown, e1 ▸ hR, hFr, hr1, hr2, hr3, hr4⟩).steps st
theorem W.callV {idx i c n : Nat} {C : String} {fs : List (String × String × String × FieldType)} {vs : List Value} {y : MethodName} {as : List Value} {S0 : List Value} {ps : List FieldType} {r : Option FieldType} (hd : decode μ.2.1 pc = .ok (.invokevirtual idx, 3)) (w1 : Cond.methodLink μ.1.cls idx y ∈ tb) (w2 : Cond.declares y ∈ tb) (w3 : Cond.selects C y μ'.1 ∈ tb) (hnf : y = μ'.1 ∨ ∃ q ∈ K, q.1 = y.cls) (hKO : KOk tb K)
    (w4 : Cond.instanceMethod μ'.1 ∈ tb) (w5 : Cond.initialized μ'.1.cls ∈ tb) (w6 : Cond.code μ'.1 μ'.2.1 μ'.2.2.1 μ'.2.2.2 ∈ tb) (hy : y.cls ≠ "java/lang/invoke/MethodHandle" ∧ y.cls ≠ "java/lang/invoke/VarHandle") (hK : K[c]? = some (C, n, fs)) (hp : parseMethodDescriptor y.desc = some ⟨ps, r⟩) (hlen : as.length = ps.length) (hS : S0 = as.reverse ++ .ref i :: S)
    (hH : H[i]? = some (.inl (c, vs))) (hM : M tb K μ' rm' (.ref i :: as) H Q') (hr : rok rm rm' μ'.2.2.1 S = true)
    (h : ∀ v H', Q' v H' → W tb K μ (less rm rm') (pc + 3) L (v.toList ++ S) H' Q) : W tb K μ rm pc L S0 H Q := by
  intro hL Z a0 p l e R s m args below meth c' T locs cells slots X
  obtain ⟨X0, hx, hZ, hw, hby, hml, hrt, hnm, hlk, hown, hR, hFr, hr1, hr2, hr3, hr4⟩ := X
  obtain ⟨hf, hl, hc, hs⟩ := rok_spec hr
  obtain ⟨C', n', fs', q1, q2, q3, q4⟩ := hR.2 _ _ hH
  cases hK.symm.trans q1
  obtain ⟨cB, kB, b1, b2, b3⟩ := isOf (T := T) hZ rfl q3
  have nf : NotFace s y := by
    rcases hnf with rfl | ⟨q, hq, hqc⟩
    · exact notFace_of_selects (args := #[]) (mvT hZ (hw _ w3))
    · intro r0 h0
      have g1 := findClass_of_methodNamed h0
      obtain ⟨c1, k1, i1, i2, i3, i4, -⟩ := Cond.instantiable_spec (args := #[]) (s := s) (mv hZ (hw _ (hKO q hq).1))
      rw [hqc] at i1
      cases g1.symm.trans i1
      exact ⟨k1, i2, by simp only [Bool.or_eq_false_iff] at i4; exact i4.1⟩
  obtain ⟨_, vm1, ⟨T1, L1, k1, n1⟩, hW1, X1, ⟨Lc, ⟨v', H', rfl, hR', hq', hFr'⟩, l1, y1, z1⟩, st⟩ := X0.virtualBack hx (y := y) (z := μ'.1) hown (mvT hZ (hw _ w1)) (mvT hZ (hw _ w2)) nf (mvT hZ (hw _ w3)) (mvT hZ (hw _ w4)) hy (backOf (R := R) (rm := rm') (h := T.heap) (Q := fun v h L => ∃ v' H', v = Option.map (cv Z.heap.size) v' ∧ Rel Z K h H' ∧ Q' v' H' ∧ Fr Z.heap.size L) (W := wt S) (hM Z a0 hw l T.heap [] hR) hZ (hw _ w6) (hw _ w5) (by omega) (by omega)) b1 b3
    (g := mkF m pc (L.map (cs Z.heap.size)).toArray (S0.map (cv Z.heap.size))) rfl (by simp [hL, hml]) (Steps.refl _) (argsL := as.map (cv Z.heap.size)) (rest := S.map (cv Z.heap.size)) (lenOf hp (by simpa using hlen)) (by rw [hS]; simp [cv]) (by show 2 * 0 + _ ≤ _; rw [cat_map]; exact Nat.le_of_eq (by simp)) (hb hby hd) (fun _ _ => ⟨rfl, rfl, by show cells + _ ≤ _; omega, by show slots + _ ≤ _; omega⟩)
  dsimp only [Pt.U, Pt.locs, Pt.cells, Pt.slots] at X1 l1 y1 z1 st hR'
  subst l1 y1 z1
  rw [back_st] at st
  exact (h v' H' hq' hL Z a0 p l e R s m args below meth c' T1 _ _ _ ⟨X1, hx, hZ, hw, hby, hml, hrt, hnm, hlk, hown, hR', Fr.app hFr hFr', hr1, by show cells + _ + (rm.cells - _) ≤ _; omega, by show slots + _ + (rm.slots - _) ≤ _; omega, hr4⟩).steps (fun t ht => st.trans ht)
/-- a private method, by invokevirtual -/
theorem W.callP {idx i c n : Nat} {C : String} {fs : List (String × String × String × FieldType)} {vs : List Value} {as : List Value} {S0 : List Value} {ps : List FieldType} {r : Option FieldType} (hd : decode μ.2.1 pc = .ok (.invokevirtual idx, 3)) (w1 : Cond.methodLink μ.1.cls idx μ'.1 ∈ tb) (w2 : Cond.privateMethod μ'.1 ∈ tb) (hKO : KOk tb K)
    (w4 : Cond.instanceMethod μ'.1 ∈ tb) (w5 : Cond.initialized μ'.1.cls ∈ tb) (w6 : Cond.code μ'.1 μ'.2.1 μ'.2.2.1 μ'.2.2.2 ∈ tb) (hy : plainCls μ') (hK : K[c]? = some (C, n, fs)) (hC : C = μ'.1.cls) (hp : parseMethodDescriptor μ'.1.desc = some ⟨ps, r⟩) (hlen : as.length = ps.length) (hS : S0 = as.reverse ++ .ref i :: S)
    (hH : H[i]? = some (.inl (c, vs))) (hM : M tb K μ' rm' (.ref i :: as) H Q') (hr : rok rm rm' μ'.2.2.1 S = true)
    (h : ∀ v H', Q' v H' → W tb K μ (less rm rm') (pc + 3) L (v.toList ++ S) H' Q) : W tb K μ rm pc L S0 H Q := by
  intro hL Z a0 p l e R s m args below meth c' T locs cells slots X
  obtain ⟨X0, hx, hZ, hw, hby, hml, hrt, hnm, hlk, hown, hR, hFr, hr1, hr2, hr3, hr4⟩ := X
  obtain ⟨hf, hl, hc, hs⟩ := rok_spec hr
  obtain ⟨C', n', fs', q1, q2, q3, q4⟩ := hR.2 _ _ hH
  cases hK.symm.trans q1
  obtain ⟨cell, c1, c2⟩ := q3.cell
  obtain ⟨mk, methM, m1, m2, m3, m4⟩ := Cond.instanceMethod_spec (args := args) (mv hZ (hw _ w4))
  obtain ⟨methM', cM, hmethM', -, -, -, -, -, -, hsigM⟩ := Cond.code_spec m1 (mv (args := args) hZ (hw _ w6))
  cases m2.symm.trans hmethM'
  obtain ⟨cc, kk, i1, i2, i3, i4, -⟩ := Cond.instantiable_spec (args := args) (s := s) (mv hZ (hw _ (hKO _ (mem_of_get hK)).1))
  have g1 := findClass_of_methodNamed m1
  rw [← hC] at g1
  cases g1.symm.trans i1
  have hni : kk.isInterface = false := by simp only [Bool.or_eq_false_iff] at i4; exact i4.1
  have hpriv : s.PrivateAt μ'.1 := Cond.privateMethod_at (mvP hZ (hw _ w2) (args := #[]))
  have hsel : selectMethod e.platform s.vm cell.cls mk = .method mk := selectMethod_private m2 (hpriv mk methM m1 m2)
  obtain ⟨vm1, X1', st1⟩ := X0.invokevirtual hx hown (mvT hZ (hw _ w1)) m1 m2 m3 i2 hni hy (a := Z.heap.size + i) (cell := cell) c1 c2 hsel m2 m4 i2 hni (g := mkF m pc (L.map (cs Z.heap.size)).toArray (S0.map (cv Z.heap.size))) rfl (argsL := as.map (cv Z.heap.size)) (rest := S.map (cv Z.heap.size)) (lenOf hp (by simpa using hlen) _ hsigM) (by rw [hS]; simp [cv]) (hb hby hd)
  obtain ⟨_, ⟨T1, L1, k1, n1⟩, X1, ⟨Lc, ⟨v', H', rfl, hR', hq', hFr'⟩, l1, y1, z1⟩, st⟩ := (backOf (R := R) (rm := rm') (h := T.heap) (Q := fun v h L => ∃ v' H', v = Option.map (cv Z.heap.size) v' ∧ Rel Z K h H' ∧ Q' v' H' ∧ Fr Z.heap.size L) (W := wt S) (hM Z a0 hw l T.heap [] hR) hZ (hw _ w6) (hw _ w5) (by omega) (by omega)) m meth c' ⟨T.setVm vm1, locs, cells, slots⟩ (mkF m pc (L.map (cs Z.heap.size)).toArray (S.map (cv Z.heap.size))) (.invokevirtual idx) mk (.ref (Z.heap.size + i) :: as.map (cv Z.heap.size)).toArray X1' rfl (by simp [hL, hml]) (hb hby hd) (by show 2 * 0 + _ ≤ _; rw [cat_map]; exact Nat.le_of_eq (by simp)) (X1'.named m1) ⟨rfl, rfl, by show cells + _ ≤ _; omega, by show slots + _ ≤ _; omega⟩
  dsimp only [Pt.U, Pt.locs, Pt.cells, Pt.slots] at X1 l1 y1 z1 st hR'
  subst l1 y1 z1
  rw [back_st] at st
  exact (h v' H' hq' hL Z a0 p l e R s m args below meth c' T1 _ _ _ ⟨X1, hx, hZ, hw, hby, hml, hrt, hnm, hlk, hown, hR', Fr.app hFr hFr', hr1, by show cells + _ + (rm.cells - _) ≤ _; omega, by show slots + _ + (rm.slots - _) ≤ _; omega, hr4⟩).steps (fun t ht => (st1 _ fun acts => by rw [doInvoke_state]; exact Steps.refl _).trans (st.trans ht))
/-- the locals at the entry -/
def ent : List Value → List Slot
  | [] => []
  | v :: r => if v.category = 2 then .val v :: .second :: ent r else .val v :: ent r
theorem ent_map (k : Nat) (as : List Value) : ent (as.map (cv k)) = (ent as).map (cs k) := by
  induction as with
  | nil => rfl
  | cons v r ih => by_cases h : v.category = 2 <;> simp [ent, h, cv_cat, ih, cs]
theorem fold_ent (as : List Value) : ∀ acc : Array Slot, as.foldl (fun acc v => if v.category = 2 then (acc.push (.val v)).push .second else acc.push (.val v)) acc = acc ++ (ent as).toArray := by
  induction as with
  | nil => intro acc; simp [ent]
  | cons v r ih => intro acc; by_cases h : v.category = 2 <;> simp [ent, h, ih]
theorem locals_of (k n : Nat) (as : List Value) : argsToLocals (as.map (cv k)).toArray n = ((ent as ++ List.replicate (n - (ent as).length) Slot.unset).map (cs k)).toArray := by
  have h : (as.map (cv k)).toArray.foldl (fun (acc : Array Slot) v => if v.category = 2 then (acc.push (.val v)).push .second else acc.push (.val v)) #[] = ((ent as).map (cs k)).toArray := by
    rw [List.foldl_toArray, fold_ent, ent_map]; simp
  simp only [argsToLocals]
  rw [h]
  simp [cs]
theorem M.of {as : List Value} (hn : plainFor μ.1 = true) (hl : ent as ++ List.replicate (μ.2.2.1 - (ent as).length) .unset = L) (hl' : L.length = μ.2.2.1) (h : W tb K μ rm 0 L [] H Q) : M tb K μ rm as H Q := by
  intro Z a0 hw l h0 ws hR
  refine MetFree.of_bodySF hn hisR ?_
  intro p e s m args below meth c s₁ Bd hml0 hP hK
  obtain ⟨rfl, hZ, hh⟩ := hP
  have e0 : s₁.heap = h0 := by rw [← hh, Bd.state]; rfl
  obtain ⟨v, H', T, locs, fs, hq, st, hrun, hended, hW, hsame, hFr, hR'⟩ := h hl' Z a0 p l e rm s m _ below meth c s₁ [] 0 0 ⟨Stand.of_body Bd, Bd.exec, hZ, hw, Bd.bytes, hml0, Bd.returns, (name_of_methodNamed Bd.named Bd.method).1, Bd.notSynchronized, findClass_of_methodNamed Bd.named, e0 ▸ hR, Fr.nil _, Nat.le_refl _, Nat.le_of_eq (Nat.zero_add _), Nat.le_of_eq (Nat.zero_add _), Nat.le_refl _⟩
  have q : entryFrame m (as.map (cv Z.heap.size)).toArray μ.2.2.1 = mkF m 0 (L.map (cs Z.heap.size)).toArray [] := by
    rw [← hl, entryFrame, locals_of]
  exact ⟨_, _, castTop q st, hrun, hended, _, locs, rfl, ⟨v, H', rfl, hR', hq, hFr⟩, ⟨_, rfl⟩, hW, hsame⟩
end Logic
end Jvm.Own
namespace Jvm.Pilot.@@N@@
open Jvm Jvm.ClassFile Sem Op Lib Jvm.Free Jvm.Stand Jvm.LawKit Jvm.RoadKit Jvm.Own Bundle Jvm.Pilot.@@N@@.Jvm.D
/-! PRINTED BY gen.py: the classes, the methods, one lemma a site -/
def KT : KTab := [("com/example/quorate/quorate/cluster/ClientIds", 2, [("com/example/quorate/quorate/cluster/ClientIds", "first", "I", .int), ("com/example/quorate/quorate/cluster/ClientIds", "last", "I", .int)])]
theorem kt : KOk tables_1 KT := (KOk.cons (List.mem_of_getElem? (i := 9) rfl) (fokS ⟨Or.inr (List.mem_of_getElem? (i := 23) rfl), by decide⟩ (fokS ⟨Or.inr (List.mem_of_getElem? (i := 25) rfl), by decide⟩ fok0)) (by decide) KOk.nil)
abbrev μ0 : Mth := (x, code, 10, ret)
abbrev W0 := W tables_1 KT μ0
abbrev M0 := M tables_1 KT μ0
theorem pf0 : plainFor μ0.1 = true := by first | (refine plainFor_of_name ?_; simp [plainName, overriddenIn, x]; done) | decide +kernel
theorem pd0 : parseMethodDescriptor "(II)Z" = some ⟨[.int, .int], some .boolean⟩ := by decide +kernel
abbrev μ1 : Mth := (⟨"java/lang/Math", "min", "(II)I"⟩, jdk_29_method_69_code, 2, some .int)
abbrev W1 := W tables_1 KT μ1
abbrev M1 := M tables_1 KT μ1
theorem pf1 : plainFor μ1.1 = true := by first | (refine plainFor_of_name ?_; simp [plainName, overriddenIn, x]; done) | decide +kernel
theorem pd1 : parseMethodDescriptor "(II)I" = some ⟨[.int, .int], some .int⟩ := by decide +kernel
abbrev μ2 : Mth := (⟨"java/lang/Math", "max", "(II)I"⟩, jdk_29_method_65_code, 2, some .int)
abbrev W2 := W tables_1 KT μ2
abbrev M2 := M tables_1 KT μ2
theorem pf2 : plainFor μ2.1 = true := by first | (refine plainFor_of_name ?_; simp [plainName, overriddenIn, x]; done) | decide +kernel
abbrev μ3 : Mth := (⟨"com/example/quorate/quorate/cluster/ClientIds", "<init>", "(II)V"⟩, prog_16_method_1_code, 3, none)
abbrev W3 := W tables_1 KT μ3
abbrev M3 := M tables_1 KT μ3
theorem pf3 : plainFor μ3.1 = true := by first | (refine plainFor_of_name ?_; simp [plainName, overriddenIn, x]; done) | decide +kernel
theorem pd2 : parseMethodDescriptor "(II)V" = some ⟨[.int, .int], none⟩ := by decide +kernel
abbrev μ4 : Mth := (⟨"java/lang/Record", "<init>", "()V"⟩, jdk_30_method_1_code, 1, none)
abbrev W4 := W tables_1 KT μ4
abbrev M4 := M tables_1 KT μ4
theorem pf4 : plainFor μ4.1 = true := by first | (refine plainFor_of_name ?_; simp [plainName, overriddenIn, x]; done) | decide +kernel
theorem pd3 : parseMethodDescriptor "()V" = some ⟨[], none⟩ := by decide +kernel
abbrev μ5 : Mth := (⟨"com/example/quorate/quorate/cluster/ClientIds", "count", "()I"⟩, prog_16_method_3_code, 1, some .int)
abbrev W5 := W tables_1 KT μ5
abbrev M5 := M tables_1 KT μ5
theorem pf5 : plainFor μ5.1 = true := by first | (refine plainFor_of_name ?_; simp [plainName, overriddenIn, x]; done) | decide +kernel
theorem pd4 : parseMethodDescriptor "()I" = some ⟨[], some .int⟩ := by decide +kernel
theorem e0 {rm : Room} {H : AHeap} {Q : Option Value → AHeap → Prop} {a0 : Int32} {a1 : Int32} (h : W0 rm 0 [.val (.int a0), .val (.int a1), .unset, .unset, .unset, .unset, .unset, .unset, .unset, .unset] [] H Q) : M0 rm [.int a0, .int a1] H Q := M.of pf0 rfl rfl h
theorem e0L {rm : Room} {H : AHeap} {Q : Option Value → AHeap → Prop} {L : List Slot} {as : List Value} (h : W0 rm 0 L [] H Q) (hl : ent as ++ List.replicate (10 - (ent as).length) .unset = L := by rfl) (hn : L.length = 10 := by rfl) : M0 rm as H Q := M.of pf0 hl hn h
theorem s0_0 {rm : Room} {S : List Value} {H : AHeap} {Q : Option Value → AHeap → Prop} {l1 l2 l3 l4 l5 l6 l7 l8 l9 : Slot} {x : Int32} (h : W0 rm 1 [.val (.int x), l1, l2, l3, l4, l5, l6, l7, l8, l9] (.int x :: S) (H) Q) : W0 rm 0 [.val (.int x), l1, l2, l3, l4, l5, l6, l7, l8, l9] (S) H Q := W.iload_n at_0 rfl h
theorem s0_1 {rm : Room} {S : List Value} {H : AHeap} {Q : Option Value → AHeap → Prop} {l0 l1 l2 l3 l4 l5 l6 l7 l8 l9 : Slot}  (h : W0 rm 3 [l0, l1, l2, l3, l4, l5, l6, l7, l8, l9] (.int 2147483647 :: S) (H) Q) : W0 rm 1 [l0, l1, l2, l3, l4, l5, l6, l7, l8, l9] (S) H Q := W.ldcInt at_1 (List.mem_of_getElem? (i := 0) rfl) h
theorem s0_3 {rm : Room} {S : List Value} {H : AHeap} {Q : Option Value → AHeap → Prop} {l0 l1 l2 l3 l4 l5 l6 l7 l8 l9 : Slot} {x y : Int32} (h : W0 rm 4 [l0, l1, l2, l3, l4, l5, l6, l7, l8, l9] (.int (x &&& y) :: S) (H) Q) : W0 rm 3 [l0, l1, l2, l3, l4, l5, l6, l7, l8, l9] (.int y :: .int x :: S) H Q := W.iand at_3 h
theorem s0_4 {rm : Room} {S : List Value} {H : AHeap} {Q : Option Value → AHeap → Prop} {l0 l1 l2 l3 l4 l5 l6 l7 l8 l9 : Slot} {x : Int32} (ho : one l2 = true) (h : W0 rm 5 [l0, l1, .val (.int x), l3, l4, l5, l6, l7, l8, l9] (S) (H) Q) : W0 rm 4 [l0, l1, l2, l3, l4, l5, l6, l7, l8, l9] (.int x :: S) H Q := W.istore_n at_4 rfl ho h
theorem s0_4w {rm : Room} {S : List Value} {H : AHeap} {Q : Option Value → AHeap → Prop} {l0 l1 l3 l4 l5 l6 l7 l8 l9 : Slot} {w : Value} {x : Int32} (ho : w.category = 2) (h : W0 rm 5 [l0, l1, .val (.int x), .unset, l4, l5, l6, l7, l8, l9] (S) (H) Q) : W0 rm 4 [l0, l1, .val w, l3, l4, l5, l6, l7, l8, l9] (.int x :: S) H Q := W.istore_nW at_4 rfl ho (Nat.le_of_ble_eq_true rfl) h
theorem s0_4s {rm : Room} {S : List Value} {H : AHeap} {Q : Option Value → AHeap → Prop} {l0 l1 l3 l4 l5 l6 l7 l8 l9 : Slot} {x : Int32} (h : W0 rm 5 [l0, .unset, .val (.int x), l3, l4, l5, l6, l7, l8, l9] (S) (H) Q) : W0 rm 4 [l0, l1, .second, l3, l4, l5, l6, l7, l8, l9] (.int x :: S) H Q := W.istore_nS at_4 rfl (by decide) h
theorem s0_5 {rm : Room} {S : List Value} {H : AHeap} {Q : Option Value → AHeap → Prop} {l0 l2 l3 l4 l5 l6 l7 l8 l9 : Slot} {x : Int32} (h : W0 rm 6 [l0, .val (.int x), l2, l3, l4, l5, l6, l7, l8, l9] (.int x :: S) (H) Q) : W0 rm 5 [l0, .val (.int x), l2, l3, l4, l5, l6, l7, l8, l9] (S) H Q := W.iload_n at_5 rfl h
theorem s0_6 {rm : Room} {S : List Value} {H : AHeap} {Q : Option Value → AHeap → Prop} {l0 l1 l2 l3 l4 l5 l6 l7 l8 l9 : Slot}  (h : W0 rm 8 [l0, l1, l2, l3, l4, l5, l6, l7, l8, l9] (.int 2147483647 :: S) (H) Q) : W0 rm 6 [l0, l1, l2, l3, l4, l5, l6, l7, l8, l9] (S) H Q := W.ldcInt at_6 (List.mem_of_getElem? (i := 0) rfl) h
theorem s0_8 {rm : Room} {S : List Value} {H : AHeap} {Q : Option Value → AHeap → Prop} {l0 l1 l2 l3 l4 l5 l6 l7 l8 l9 : Slot} {x y : Int32} (h : W0 rm 9 [l0, l1, l2, l3, l4, l5, l6, l7, l8, l9] (.int (x &&& y) :: S) (H) Q) : W0 rm 8 [l0, l1, l2, l3, l4, l5, l6, l7, l8, l9] (.int y :: .int x :: S) H Q := W.iand at_8 h
theorem s0_9 {rm : Room} {S : List Value} {H : AHeap} {Q : Option Value → AHeap → Prop} {l0 l1 l2 l3 l4 l5 l6 l7 l8 l9 : Slot} {x : Int32} (ho : one l3 = true) (h : W0 rm 10 [l0, l1, l2, .val (.int x), l4, l5, l6, l7, l8, l9] (S) (H) Q) : W0 rm 9 [l0, l1, l2, l3, l4, l5, l6, l7, l8, l9] (.int x :: S) H Q := W.istore_n at_9 rfl ho h
theorem s0_9w {rm : Room} {S : List Value} {H : AHeap} {Q : Option Value → AHeap → Prop} {l0 l1 l2 l4 l5 l6 l7 l8 l9 : Slot} {w : Value} {x : Int32} (ho : w.category = 2) (h : W0 rm 10 [l0, l1, l2, .val (.int x), .unset, l5, l6, l7, l8, l9] (S) (H) Q) : W0 rm 9 [l0, l1, l2, .val w, l4, l5, l6, l7, l8, l9] (.int x :: S) H Q := W.istore_nW at_9 rfl ho (Nat.le_of_ble_eq_true rfl) h
theorem s0_9s {rm : Room} {S : List Value} {H : AHeap} {Q : Option Value → AHeap → Prop} {l0 l1 l2 l4 l5 l6 l7 l8 l9 : Slot} {x : Int32} (h : W0 rm 10 [l0, l1, .unset, .val (.int x), l4, l5, l6, l7, l8, l9] (S) (H) Q) : W0 rm 9 [l0, l1, l2, .second, l4, l5, l6, l7, l8, l9] (.int x :: S) H Q := W.istore_nS at_9 rfl (by decide) h
theorem s0_10 {rm : Room} {S : List Value} {H : AHeap} {Q : Option Value → AHeap → Prop} {l0 l1 l2 l3 l4 l5 l6 l7 l8 l9 : Slot}  (h : W0 rm 11 [l0, l1, l2, l3, l4, l5, l6, l7, l8, l9] (.int 1 :: S) (H) Q) : W0 rm 10 [l0, l1, l2, l3, l4, l5, l6, l7, l8, l9] (S) H Q := W.iconst' at_10 (by decide) h
theorem s0_11 {rm : Room} {S : List Value} {H : AHeap} {Q : Option Value → AHeap → Prop} {l0 l1 l3 l4 l5 l6 l7 l8 l9 : Slot} {x : Int32} (h : W0 rm 12 [l0, l1, .val (.int x), l3, l4, l5, l6, l7, l8, l9] (.int x :: S) (H) Q) : W0 rm 11 [l0, l1, .val (.int x), l3, l4, l5, l6, l7, l8, l9] (S) H Q := W.iload_n at_11 rfl h
theorem s0_12 {rm : Room} {S : List Value} {H : AHeap} {Q : Option Value → AHeap → Prop} {l0 l1 l2 l4 l5 l6 l7 l8 l9 : Slot} {x : Int32} (h : W0 rm 13 [l0, l1, l2, .val (.int x), l4, l5, l6, l7, l8, l9] (.int x :: S) (H) Q) : W0 rm 12 [l0, l1, l2, .val (.int x), l4, l5, l6, l7, l8, l9] (S) H Q := W.iload_n at_12 rfl h
theorem s0_13 {rm : Room} {S : List Value} {H : AHeap} {Q : Option Value → AHeap → Prop} {l0 l1 l2 l3 l4 l5 l6 l7 l8 l9 : Slot} {rm' : Room} {H' : AHeap} {a0 : Int32} {a1 : Int32} {r : Int32} (hM : M1 rm' [.int a0, .int a1] H (Is (some (.int r)) H')) (hr : rok rm rm' 2 S = true) (h : W0 (less rm rm') 16 [l0, l1, l2, l3, l4, l5, l6, l7, l8, l9] (.int r :: S) H' Q) : W0 rm 13 [l0, l1, l2, l3, l4, l5, l6, l7, l8, l9] (.int a1 :: .int a0 :: S) H Q := W.callS (S := S) (as := [.int a0, .int a1]) (rm' := rm') at_13 (List.mem_of_getElem? (i := 1) rfl) (List.mem_of_getElem? (i := 2) rfl) (List.mem_of_getElem? (i := 3) rfl) (List.mem_of_getElem? (i := 4) rfl) (by decide) pd1 rfl rfl hM hr (fun _ _ q => by obtain ⟨rfl, rfl⟩ := q; exact h)
theorem s0_13q {rm : Room} {S : List Value} {H : AHeap} {Q : Option Value → AHeap → Prop} {l0 l1 l2 l3 l4 l5 l6 l7 l8 l9 : Slot} {rm' : Room} {Q' : Option Value → AHeap → Prop} {a0 a1 : Value} (hM : M1 rm' [a0, a1] H Q') (hr : rok rm rm' 2 S = true) (h : ∀ v H', Q' v H' → W0 (less rm rm') 16 [l0, l1, l2, l3, l4, l5, l6, l7, l8, l9] (v.toList ++ S) H' Q) : W0 rm 13 [l0, l1, l2, l3, l4, l5, l6, l7, l8, l9] (a1 :: a0 :: S) H Q := W.callS (S := S) (as := [a0, a1]) (rm' := rm') at_13 (List.mem_of_getElem? (i := 1) rfl) (List.mem_of_getElem? (i := 2) rfl) (List.mem_of_getElem? (i := 3) rfl) (List.mem_of_getElem? (i := 4) rfl) (by decide) pd1 rfl rfl hM hr h
theorem s0_16 {rm : Room} {S : List Value} {H : AHeap} {Q : Option Value → AHeap → Prop} {l0 l1 l2 l3 l4 l5 l6 l7 l8 l9 : Slot} {rm' : Room} {H' : AHeap} {a0 : Int32} {a1 : Int32} {r : Int32} (hM : M2 rm' [.int a0, .int a1] H (Is (some (.int r)) H')) (hr : rok rm rm' 2 S = true) (h : W0 (less rm rm') 19 [l0, l1, l2, l3, l4, l5, l6, l7, l8, l9] (.int r :: S) H' Q) : W0 rm 16 [l0, l1, l2, l3, l4, l5, l6, l7, l8, l9] (.int a1 :: .int a0 :: S) H Q := W.callS (S := S) (as := [.int a0, .int a1]) (rm' := rm') at_16 (List.mem_of_getElem? (i := 5) rfl) (List.mem_of_getElem? (i := 6) rfl) (List.mem_of_getElem? (i := 3) rfl) (List.mem_of_getElem? (i := 7) rfl) (by decide) pd1 rfl rfl hM hr (fun _ _ q => by obtain ⟨rfl, rfl⟩ := q; exact h)
theorem s0_16q {rm : Room} {S : List Value} {H : AHeap} {Q : Option Value → AHeap → Prop} {l0 l1 l2 l3 l4 l5 l6 l7 l8 l9 : Slot} {rm' : Room} {Q' : Option Value → AHeap → Prop} {a0 a1 : Value} (hM : M2 rm' [a0, a1] H Q') (hr : rok rm rm' 2 S = true) (h : ∀ v H', Q' v H' → W0 (less rm rm') 19 [l0, l1, l2, l3, l4, l5, l6, l7, l8, l9] (v.toList ++ S) H' Q) : W0 rm 16 [l0, l1, l2, l3, l4, l5, l6, l7, l8, l9] (a1 :: a0 :: S) H Q := W.callS (S := S) (as := [a0, a1]) (rm' := rm') at_16 (List.mem_of_getElem? (i := 5) rfl) (List.mem_of_getElem? (i := 6) rfl) (List.mem_of_getElem? (i := 3) rfl) (List.mem_of_getElem? (i := 7) rfl) (by decide) pd1 rfl rfl hM hr h
theorem s0_19 {rm : Room} {S : List Value} {H : AHeap} {Q : Option Value → AHeap → Prop} {l0 l1 l2 l3 l4 l5 l6 l7 l8 l9 : Slot} {x : Int32} (ho : one l4 = true) (h : W0 rm 21 [l0, l1, l2, l3, .val (.int x), l5, l6, l7, l8, l9] (S) (H) Q) : W0 rm 19 [l0, l1, l2, l3, l4, l5, l6, l7, l8, l9] (.int x :: S) H Q := W.istore at_19 rfl ho h
theorem s0_19w {rm : Room} {S : List Value} {H : AHeap} {Q : Option Value → AHeap → Prop} {l0 l1 l2 l3 l5 l6 l7 l8 l9 : Slot} {w : Value} {x : Int32} (ho : w.category = 2) (h : W0 rm 21 [l0, l1, l2, l3, .val (.int x), .unset, l6, l7, l8, l9] (S) (H) Q) : W0 rm 19 [l0, l1, l2, l3, .val w, l5, l6, l7, l8, l9] (.int x :: S) H Q := W.istoreW at_19 rfl ho (Nat.le_of_ble_eq_true rfl) h
theorem s0_19s {rm : Room} {S : List Value} {H : AHeap} {Q : Option Value → AHeap → Prop} {l0 l1 l2 l3 l5 l6 l7 l8 l9 : Slot} {x : Int32} (h : W0 rm 21 [l0, l1, l2, .unset, .val (.int x), l5, l6, l7, l8, l9] (S) (H) Q) : W0 rm 19 [l0, l1, l2, l3, .second, l5, l6, l7, l8, l9] (.int x :: S) H Q := W.istoreS at_19 rfl (by decide) h
theorem s0_21 {rm : Room} {S : List Value} {H : AHeap} {Q : Option Value → AHeap → Prop} {l0 l1 l2 l3 l5 l6 l7 l8 l9 : Slot} {x : Int32} (h : W0 rm 23 [l0, l1, l2, l3, .val (.int x), l5, l6, l7, l8, l9] (.int x :: S) (H) Q) : W0 rm 21 [l0, l1, l2, l3, .val (.int x), l5, l6, l7, l8, l9] (S) H Q := W.iload at_21 rfl h
theorem s0_23 {rm : Room} {S : List Value} {H : AHeap} {Q : Option Value → AHeap → Prop} {l0 l1 l3 l4 l5 l6 l7 l8 l9 : Slot} {x : Int32} (h : W0 rm 24 [l0, l1, .val (.int x), l3, l4, l5, l6, l7, l8, l9] (.int x :: S) (H) Q) : W0 rm 23 [l0, l1, .val (.int x), l3, l4, l5, l6, l7, l8, l9] (S) H Q := W.iload_n at_23 rfl h
theorem s0_24 {rm : Room} {S : List Value} {H : AHeap} {Q : Option Value → AHeap → Prop} {l0 l1 l2 l4 l5 l6 l7 l8 l9 : Slot} {x : Int32} (h : W0 rm 25 [l0, l1, l2, .val (.int x), l4, l5, l6, l7, l8, l9] (.int x :: S) (H) Q) : W0 rm 24 [l0, l1, l2, .val (.int x), l4, l5, l6, l7, l8, l9] (S) H Q := W.iload_n at_24 rfl h
theorem s0_25 {rm : Room} {S : List Value} {H : AHeap} {Q : Option Value → AHeap → Prop} {l0 l1 l2 l3 l4 l5 l6 l7 l8 l9 : Slot} {rm' : Room} {H' : AHeap} {a0 : Int32} {a1 : Int32} {r : Int32} (hM : M2 rm' [.int a0, .int a1] H (Is (some (.int r)) H')) (hr : rok rm rm' 2 S = true) (h : W0 (less rm rm') 28 [l0, l1, l2, l3, l4, l5, l6, l7, l8, l9] (.int r :: S) H' Q) : W0 rm 25 [l0, l1, l2, l3, l4, l5, l6, l7, l8, l9] (.int a1 :: .int a0 :: S) H Q := W.callS (S := S) (as := [.int a0, .int a1]) (rm' := rm') at_25 (List.mem_of_getElem? (i := 5) rfl) (List.mem_of_getElem? (i := 6) rfl) (List.mem_of_getElem? (i := 3) rfl) (List.mem_of_getElem? (i := 7) rfl) (by decide) pd1 rfl rfl hM hr (fun _ _ q => by obtain ⟨rfl, rfl⟩ := q; exact h)
theorem s0_25q {rm : Room} {S : List Value} {H : AHeap} {Q : Option Value → AHeap → Prop} {l0 l1 l2 l3 l4 l5 l6 l7 l8 l9 : Slot} {rm' : Room} {Q' : Option Value → AHeap → Prop} {a0 a1 : Value} (hM : M2 rm' [a0, a1] H Q') (hr : rok rm rm' 2 S = true) (h : ∀ v H', Q' v H' → W0 (less rm rm') 28 [l0, l1, l2, l3, l4, l5, l6, l7, l8, l9] (v.toList ++ S) H' Q) : W0 rm 25 [l0, l1, l2, l3, l4, l5, l6, l7, l8, l9] (a1 :: a0 :: S) H Q := W.callS (S := S) (as := [a0, a1]) (rm' := rm') at_25 (List.mem_of_getElem? (i := 5) rfl) (List.mem_of_getElem? (i := 6) rfl) (List.mem_of_getElem? (i := 3) rfl) (List.mem_of_getElem? (i := 7) rfl) (by decide) pd1 rfl rfl hM hr h
theorem s0_28 {rm : Room} {S : List Value} {H : AHeap} {Q : Option Value → AHeap → Prop} {l0 l1 l2 l3 l4 l5 l6 l7 l8 l9 : Slot} {rm' : Room} {H' : AHeap} {a0 : Int32} {a1 : Int32} {r : Int32} (hM : M2 rm' [.int a0, .int a1] H (Is (some (.int r)) H')) (hr : rok rm rm' 2 S = true) (h : W0 (less rm rm') 31 [l0, l1, l2, l3, l4, l5, l6, l7, l8, l9] (.int r :: S) H' Q) : W0 rm 28 [l0, l1, l2, l3, l4, l5, l6, l7, l8, l9] (.int a1 :: .int a0 :: S) H Q := W.callS (S := S) (as := [.int a0, .int a1]) (rm' := rm') at_28 (List.mem_of_getElem? (i := 5) rfl) (List.mem_of_getElem? (i := 6) rfl) (List.mem_of_getElem? (i := 3) rfl) (List.mem_of_getElem? (i := 7) rfl) (by decide) pd1 rfl rfl hM hr (fun _ _ q => by obtain ⟨rfl, rfl⟩ := q; exact h)
theorem s0_28q {rm : Room} {S : List Value} {H : AHeap} {Q : Option Value → AHeap → Prop} {l0 l1 l2 l3 l4 l5 l6 l7 l8 l9 : Slot} {rm' : Room} {Q' : Option Value → AHeap → Prop} {a0 a1 : Value} (hM : M2 rm' [a0, a1] H Q') (hr : rok rm rm' 2 S = true) (h : ∀ v H', Q' v H' → W0 (less rm rm') 31 [l0, l1, l2, l3, l4, l5, l6, l7, l8, l9] (v.toList ++ S) H' Q) : W0 rm 28 [l0, l1, l2, l3, l4, l5, l6, l7, l8, l9] (a1 :: a0 :: S) H Q := W.callS (S := S) (as := [a0, a1]) (rm' := rm') at_28 (List.mem_of_getElem? (i := 5) rfl) (List.mem_of_getElem? (i := 6) rfl) (List.mem_of_getElem? (i := 3) rfl) (List.mem_of_getElem? (i := 7) rfl) (by decide) pd1 rfl rfl hM hr h
theorem s0_31 {rm : Room} {S : List Value} {H : AHeap} {Q : Option Value → AHeap → Prop} {l0 l1 l2 l3 l4 l5 l6 l7 l8 l9 : Slot} {x : Int32} (ho : one l5 = true) (h : W0 rm 33 [l0, l1, l2, l3, l4, .val (.int x), l6, l7, l8, l9] (S) (H) Q) : W0 rm 31 [l0, l1, l2, l3, l4, l5, l6, l7, l8, l9] (.int x :: S) H Q := W.istore at_31 rfl ho h
theorem s0_31w {rm : Room} {S : List Value} {H : AHeap} {Q : Option Value → AHeap → Prop} {l0 l1 l2 l3 l4 l6 l7 l8 l9 : Slot} {w : Value} {x : Int32} (ho : w.category = 2) (h : W0 rm 33 [l0, l1, l2, l3, l4, .val (.int x), .unset, l7, l8, l9] (S) (H) Q) : W0 rm 31 [l0, l1, l2, l3, l4, .val w, l6, l7, l8, l9] (.int x :: S) H Q := W.istoreW at_31 rfl ho (Nat.le_of_ble_eq_true rfl) h
theorem s0_31s {rm : Room} {S : List Value} {H : AHeap} {Q : Option Value → AHeap → Prop} {l0 l1 l2 l3 l4 l6 l7 l8 l9 : Slot} {x : Int32} (h : W0 rm 33 [l0, l1, l2, l3, .unset, .val (.int x), l6, l7, l8, l9] (S) (H) Q) : W0 rm 31 [l0, l1, l2, l3, l4, .second, l6, l7, l8, l9] (.int x :: S) H Q := W.istoreS at_31 rfl (by decide) h
theorem s0_33 {rm : Room} {S : List Value} {H : AHeap} {Q : Option Value → AHeap → Prop} {l0 l1 l2 l3 l4 l5 l6 l7 l8 l9 : Slot} (i : Nat) (hi : H.length = i) (hr : nok rm 2 = true) (h : W0 ⟨rm.frames, rm.cells - 1, rm.slots - 2, rm.locals⟩ 36 [l0, l1, l2, l3, l4, l5, l6, l7, l8, l9] (.ref i :: S) (H ++ [.inl (0, [.int 0, .int 0])]) Q) : W0 rm 33 [l0, l1, l2, l3, l4, l5, l6, l7, l8, l9] (S) H Q := W.new (c := 0) kt at_33 (List.mem_of_getElem? (i := 8) rfl) (List.mem_of_getElem? (i := 10) rfl) rfl hi hr h
theorem s0_36 {rm : Room} {S : List Value} {H : AHeap} {Q : Option Value → AHeap → Prop} {l0 l1 l2 l3 l4 l5 l6 l7 l8 l9 : Slot} {v : Value} (hc : v.category = 1) (h : W0 rm 37 [l0, l1, l2, l3, l4, l5, l6, l7, l8, l9] (v :: v :: S) (H) Q) : W0 rm 36 [l0, l1, l2, l3, l4, l5, l6, l7, l8, l9] (v :: S) H Q := W.dup at_36 hc h
theorem s0_37 {rm : Room} {S : List Value} {H : AHeap} {Q : Option Value → AHeap → Prop} {l0 l1 l2 l3 l5 l6 l7 l8 l9 : Slot} {x : Int32} (h : W0 rm 39 [l0, l1, l2, l3, .val (.int x), l5, l6, l7, l8, l9] (.int x :: S) (H) Q) : W0 rm 37 [l0, l1, l2, l3, .val (.int x), l5, l6, l7, l8, l9] (S) H Q := W.iload at_37 rfl h
theorem s0_39 {rm : Room} {S : List Value} {H : AHeap} {Q : Option Value → AHeap → Prop} {l0 l1 l2 l3 l4 l6 l7 l8 l9 : Slot} {x : Int32} (h : W0 rm 41 [l0, l1, l2, l3, l4, .val (.int x), l6, l7, l8, l9] (.int x :: S) (H) Q) : W0 rm 39 [l0, l1, l2, l3, l4, .val (.int x), l6, l7, l8, l9] (S) H Q := W.iload at_39 rfl h
theorem s0_41 {rm : Room} {S : List Value} {H : AHeap} {Q : Option Value → AHeap → Prop} {l0 l1 l2 l3 l4 l5 l6 l7 l8 l9 : Slot} {rm' : Room} {H' : AHeap} {i : Nat} {a0 : Int32} {a1 : Int32}  (hM : M3 rm' [.ref i, .int a0, .int a1] H (Is none H')) (hr : rok rm rm' 3 S = true) (h : W0 (less rm rm') 44 [l0, l1, l2, l3, l4, l5, l6, l7, l8, l9] (S) H' Q) : W0 rm 41 [l0, l1, l2, l3, l4, l5, l6, l7, l8, l9] (.int a1 :: .int a0 :: .ref i :: S) H Q := W.callI (S := S) (as := [.int a0, .int a1]) (rm' := rm') at_41 rfl rfl (List.mem_of_getElem? (i := 11) rfl) (List.mem_of_getElem? (i := 12) rfl) (List.mem_of_getElem? (i := 10) rfl) (List.mem_of_getElem? (i := 13) rfl) (by decide) pd2 rfl rfl hM hr (fun _ _ q => by obtain ⟨rfl, rfl⟩ := q; exact h)
theorem s0_41q {rm : Room} {S : List Value} {H : AHeap} {Q : Option Value → AHeap → Prop} {l0 l1 l2 l3 l4 l5 l6 l7 l8 l9 : Slot} {rm' : Room} {Q' : Option Value → AHeap → Prop} {i : Nat} {a0 a1 : Value} (hM : M3 rm' [.ref i, a0, a1] H Q') (hr : rok rm rm' 3 S = true) (h : ∀ v H', Q' v H' → W0 (less rm rm') 44 [l0, l1, l2, l3, l4, l5, l6, l7, l8, l9] (v.toList ++ S) H' Q) : W0 rm 41 [l0, l1, l2, l3, l4, l5, l6, l7, l8, l9] (a1 :: a0 :: .ref i :: S) H Q := W.callI (S := S) (as := [a0, a1]) (rm' := rm') at_41 rfl rfl (List.mem_of_getElem? (i := 11) rfl) (List.mem_of_getElem? (i := 12) rfl) (List.mem_of_getElem? (i := 10) rfl) (List.mem_of_getElem? (i := 13) rfl) (by decide) pd2 rfl rfl hM hr h
theorem s0_44 {rm : Room} {S : List Value} {H : AHeap} {Q : Option Value → AHeap → Prop} {l0 l1 l2 l3 l4 l5 l6 l7 l8 l9 : Slot} {i : Nat} (ho : one l6 = true) (h : W0 rm 46 [l0, l1, l2, l3, l4, l5, .val (.ref i), l7, l8, l9] (S) (H) Q) : W0 rm 44 [l0, l1, l2, l3, l4, l5, l6, l7, l8, l9] (.ref i :: S) H Q := W.astore at_44 rfl ho rfl h
theorem s0_46 {rm : Room} {S : List Value} {H : AHeap} {Q : Option Value → AHeap → Prop} {l0 l1 l2 l3 l4 l5 l7 l8 l9 : Slot} {i : Nat} (h : W0 rm 48 [l0, l1, l2, l3, l4, l5, .val (.ref i), l7, l8, l9] (.ref i :: S) (H) Q) : W0 rm 46 [l0, l1, l2, l3, l4, l5, .val (.ref i), l7, l8, l9] (S) H Q := W.aload at_46 rfl rfl h
theorem s0_46n {rm : Room} {S : List Value} {H : AHeap} {Q : Option Value → AHeap → Prop} {l0 l1 l2 l3 l4 l5 l7 l8 l9 : Slot}  (h : W0 rm 48 [l0, l1, l2, l3, l4, l5, .val .null, l7, l8, l9] (.null :: S) (H) Q) : W0 rm 46 [l0, l1, l2, l3, l4, l5, .val .null, l7, l8, l9] (S) H Q := W.aload at_46 rfl rfl h
theorem s0_48 {rm : Room} {S : List Value} {H : AHeap} {Q : Option Value → AHeap → Prop} {l0 l1 l2 l3 l4 l5 l6 l7 l8 l9 : Slot} {rm' : Room} {H' : AHeap} {i : Nat} {vs : List Value}  {r : Int32} (hH : H[i]? = some (.inl (0, vs))) (hM : M5 rm' [.ref i] H (Is (some (.int r)) H')) (hr : rok rm rm' 1 S = true) (h : W0 (less rm rm') 51 [l0, l1, l2, l3, l4, l5, l6, l7, l8, l9] (.int r :: S) H' Q) : W0 rm 48 [l0, l1, l2, l3, l4, l5, l6, l7, l8, l9] (.ref i :: S) H Q := W.callV (c := 0) (S := S) (as := []) (rm' := rm') at_48 (List.mem_of_getElem? (i := 26) rfl) (List.mem_of_getElem? (i := 27) rfl) (List.mem_of_getElem? (i := 29) rfl) (Or.inl rfl) kt (List.mem_of_getElem? (i := 28) rfl) (List.mem_of_getElem? (i := 10) rfl) (List.mem_of_getElem? (i := 30) rfl) (by decide) rfl pd4 rfl rfl hH hM hr (fun _ _ q => by obtain ⟨rfl, rfl⟩ := q; exact h)
theorem s0_48q {rm : Room} {S : List Value} {H : AHeap} {Q : Option Value → AHeap → Prop} {l0 l1 l2 l3 l4 l5 l6 l7 l8 l9 : Slot} {rm' : Room} {Q' : Option Value → AHeap → Prop} {i : Nat} {vs : List Value}  (hH : H[i]? = some (.inl (0, vs))) (hM : M5 rm' [.ref i] H Q') (hr : rok rm rm' 1 S = true) (h : ∀ v H', Q' v H' → W0 (less rm rm') 51 [l0, l1, l2, l3, l4, l5, l6, l7, l8, l9] (v.toList ++ S) H' Q) : W0 rm 48 [l0, l1, l2, l3, l4, l5, l6, l7, l8, l9] (.ref i :: S) H Q := W.callV (c := 0) (S := S) (as := []) (rm' := rm') at_48 (List.mem_of_getElem? (i := 26) rfl) (List.mem_of_getElem? (i := 27) rfl) (List.mem_of_getElem? (i := 29) rfl) (Or.inl rfl) kt (List.mem_of_getElem? (i := 28) rfl) (List.mem_of_getElem? (i := 10) rfl) (List.mem_of_getElem? (i := 30) rfl) (by decide) rfl pd4 rfl rfl hH hM hr h
theorem s0_51 {rm : Room} {S : List Value} {H : AHeap} {Q : Option Value → AHeap → Prop} {l0 l1 l2 l3 l4 l5 l6 l7 l8 l9 : Slot} {x : Int32} (ho : one l7 = true) (h : W0 rm 53 [l0, l1, l2, l3, l4, l5, l6, .val (.int x), l8, l9] (S) (H) Q) : W0 rm 51 [l0, l1, l2, l3, l4, l5, l6, l7, l8, l9] (.int x :: S) H Q := W.istore at_51 rfl ho h
theorem s0_51w {rm : Room} {S : List Value} {H : AHeap} {Q : Option Value → AHeap → Prop} {l0 l1 l2 l3 l4 l5 l6 l8 l9 : Slot} {w : Value} {x : Int32} (ho : w.category = 2) (h : W0 rm 53 [l0, l1, l2, l3, l4, l5, l6, .val (.int x), .unset, l9] (S) (H) Q) : W0 rm 51 [l0, l1, l2, l3, l4, l5, l6, .val w, l8, l9] (.int x :: S) H Q := W.istoreW at_51 rfl ho (Nat.le_of_ble_eq_true rfl) h
theorem s0_51s {rm : Room} {S : List Value} {H : AHeap} {Q : Option Value → AHeap → Prop} {l0 l1 l2 l3 l4 l5 l6 l8 l9 : Slot} {x : Int32} (h : W0 rm 53 [l0, l1, l2, l3, l4, l5, .unset, .val (.int x), l8, l9] (S) (H) Q) : W0 rm 51 [l0, l1, l2, l3, l4, l5, l6, .second, l8, l9] (.int x :: S) H Q := W.istoreS at_51 rfl (by decide) h
theorem s0_53 {rm : Room} {S : List Value} {H : AHeap} {Q : Option Value → AHeap → Prop} {l0 l1 l2 l3 l4 l5 l6 l7 l8 l9 : Slot} (i : Nat) (hi : H.length = i) (hr : nok rm 2 = true) (h : W0 ⟨rm.frames, rm.cells - 1, rm.slots - 2, rm.locals⟩ 56 [l0, l1, l2, l3, l4, l5, l6, l7, l8, l9] (.ref i :: S) (H ++ [.inl (0, [.int 0, .int 0])]) Q) : W0 rm 53 [l0, l1, l2, l3, l4, l5, l6, l7, l8, l9] (S) H Q := W.new (c := 0) kt at_53 (List.mem_of_getElem? (i := 8) rfl) (List.mem_of_getElem? (i := 10) rfl) rfl hi hr h
theorem s0_56 {rm : Room} {S : List Value} {H : AHeap} {Q : Option Value → AHeap → Prop} {l0 l1 l2 l3 l4 l5 l6 l7 l8 l9 : Slot} {v : Value} (hc : v.category = 1) (h : W0 rm 57 [l0, l1, l2, l3, l4, l5, l6, l7, l8, l9] (v :: v :: S) (H) Q) : W0 rm 56 [l0, l1, l2, l3, l4, l5, l6, l7, l8, l9] (v :: S) H Q := W.dup at_56 hc h
theorem s0_57 {rm : Room} {S : List Value} {H : AHeap} {Q : Option Value → AHeap → Prop} {l0 l1 l2 l3 l4 l5 l6 l7 l8 l9 : Slot}  (h : W0 rm 58 [l0, l1, l2, l3, l4, l5, l6, l7, l8, l9] (.int 1 :: S) (H) Q) : W0 rm 57 [l0, l1, l2, l3, l4, l5, l6, l7, l8, l9] (S) H Q := W.iconst' at_57 (by decide) h
theorem s0_58 {rm : Room} {S : List Value} {H : AHeap} {Q : Option Value → AHeap → Prop} {l0 l1 l2 l3 l4 l6 l7 l8 l9 : Slot} {x : Int32} (h : W0 rm 60 [l0, l1, l2, l3, l4, .val (.int x), l6, l7, l8, l9] (.int x :: S) (H) Q) : W0 rm 58 [l0, l1, l2, l3, l4, .val (.int x), l6, l7, l8, l9] (S) H Q := W.iload at_58 rfl h
theorem s0_60 {rm : Room} {S : List Value} {H : AHeap} {Q : Option Value → AHeap → Prop} {l0 l1 l2 l3 l4 l5 l6 l7 l8 l9 : Slot} {rm' : Room} {H' : AHeap} {i : Nat} {a0 : Int32} {a1 : Int32}  (hM : M3 rm' [.ref i, .int a0, .int a1] H (Is none H')) (hr : rok rm rm' 3 S = true) (h : W0 (less rm rm') 63 [l0, l1, l2, l3, l4, l5, l6, l7, l8, l9] (S) H' Q) : W0 rm 60 [l0, l1, l2, l3, l4, l5, l6, l7, l8, l9] (.int a1 :: .int a0 :: .ref i :: S) H Q := W.callI (S := S) (as := [.int a0, .int a1]) (rm' := rm') at_60 rfl rfl (List.mem_of_getElem? (i := 11) rfl) (List.mem_of_getElem? (i := 12) rfl) (List.mem_of_getElem? (i := 10) rfl) (List.mem_of_getElem? (i := 13) rfl) (by decide) pd2 rfl rfl hM hr (fun _ _ q => by obtain ⟨rfl, rfl⟩ := q; exact h)
theorem s0_60q {rm : Room} {S : List Value} {H : AHeap} {Q : Option Value → AHeap → Prop} {l0 l1 l2 l3 l4 l5 l6 l7 l8 l9 : Slot} {rm' : Room} {Q' : Option Value → AHeap → Prop} {i : Nat} {a0 a1 : Value} (hM : M3 rm' [.ref i, a0, a1] H Q') (hr : rok rm rm' 3 S = true) (h : ∀ v H', Q' v H' → W0 (less rm rm') 63 [l0, l1, l2, l3, l4, l5, l6, l7, l8, l9] (v.toList ++ S) H' Q) : W0 rm 60 [l0, l1, l2, l3, l4, l5, l6, l7, l8, l9] (a1 :: a0 :: .ref i :: S) H Q := W.callI (S := S) (as := [a0, a1]) (rm' := rm') at_60 rfl rfl (List.mem_of_getElem? (i := 11) rfl) (List.mem_of_getElem? (i := 12) rfl) (List.mem_of_getElem? (i := 10) rfl) (List.mem_of_getElem? (i := 13) rfl) (by decide) pd2 rfl rfl hM hr h
theorem s0_63 {rm : Room} {S : List Value} {H : AHeap} {Q : Option Value → AHeap → Prop} {l0 l1 l2 l3 l4 l5 l6 l7 l8 l9 : Slot} {i : Nat} (ho : one l8 = true) (h : W0 rm 65 [l0, l1, l2, l3, l4, l5, l6, l7, .val (.ref i), l9] (S) (H) Q) : W0 rm 63 [l0, l1, l2, l3, l4, l5, l6, l7, l8, l9] (.ref i :: S) H Q := W.astore at_63 rfl ho rfl h
theorem s0_65 {rm : Room} {S : List Value} {H : AHeap} {Q : Option Value → AHeap → Prop} {l0 l1 l2 l3 l4 l5 l6 l7 l9 : Slot} {i : Nat} (h : W0 rm 67 [l0, l1, l2, l3, l4, l5, l6, l7, .val (.ref i), l9] (.ref i :: S) (H) Q) : W0 rm 65 [l0, l1, l2, l3, l4, l5, l6, l7, .val (.ref i), l9] (S) H Q := W.aload at_65 rfl rfl h
theorem s0_65n {rm : Room} {S : List Value} {H : AHeap} {Q : Option Value → AHeap → Prop} {l0 l1 l2 l3 l4 l5 l6 l7 l9 : Slot}  (h : W0 rm 67 [l0, l1, l2, l3, l4, l5, l6, l7, .val .null, l9] (.null :: S) (H) Q) : W0 rm 65 [l0, l1, l2, l3, l4, l5, l6, l7, .val .null, l9] (S) H Q := W.aload at_65 rfl rfl h
theorem s0_67 {rm : Room} {S : List Value} {H : AHeap} {Q : Option Value → AHeap → Prop} {l0 l1 l2 l3 l4 l5 l6 l7 l8 l9 : Slot} {rm' : Room} {H' : AHeap} {i : Nat} {vs : List Value}  {r : Int32} (hH : H[i]? = some (.inl (0, vs))) (hM : M5 rm' [.ref i] H (Is (some (.int r)) H')) (hr : rok rm rm' 1 S = true) (h : W0 (less rm rm') 70 [l0, l1, l2, l3, l4, l5, l6, l7, l8, l9] (.int r :: S) H' Q) : W0 rm 67 [l0, l1, l2, l3, l4, l5, l6, l7, l8, l9] (.ref i :: S) H Q := W.callV (c := 0) (S := S) (as := []) (rm' := rm') at_67 (List.mem_of_getElem? (i := 26) rfl) (List.mem_of_getElem? (i := 27) rfl) (List.mem_of_getElem? (i := 29) rfl) (Or.inl rfl) kt (List.mem_of_getElem? (i := 28) rfl) (List.mem_of_getElem? (i := 10) rfl) (List.mem_of_getElem? (i := 30) rfl) (by decide) rfl pd4 rfl rfl hH hM hr (fun _ _ q => by obtain ⟨rfl, rfl⟩ := q; exact h)
theorem s0_67q {rm : Room} {S : List Value} {H : AHeap} {Q : Option Value → AHeap → Prop} {l0 l1 l2 l3 l4 l5 l6 l7 l8 l9 : Slot} {rm' : Room} {Q' : Option Value → AHeap → Prop} {i : Nat} {vs : List Value}  (hH : H[i]? = some (.inl (0, vs))) (hM : M5 rm' [.ref i] H Q') (hr : rok rm rm' 1 S = true) (h : ∀ v H', Q' v H' → W0 (less rm rm') 70 [l0, l1, l2, l3, l4, l5, l6, l7, l8, l9] (v.toList ++ S) H' Q) : W0 rm 67 [l0, l1, l2, l3, l4, l5, l6, l7, l8, l9] (.ref i :: S) H Q := W.callV (c := 0) (S := S) (as := []) (rm' := rm') at_67 (List.mem_of_getElem? (i := 26) rfl) (List.mem_of_getElem? (i := 27) rfl) (List.mem_of_getElem? (i := 29) rfl) (Or.inl rfl) kt (List.mem_of_getElem? (i := 28) rfl) (List.mem_of_getElem? (i := 10) rfl) (List.mem_of_getElem? (i := 30) rfl) (by decide) rfl pd4 rfl rfl hH hM hr h
theorem s0_70 {rm : Room} {S : List Value} {H : AHeap} {Q : Option Value → AHeap → Prop} {l0 l1 l2 l3 l4 l5 l6 l7 l8 l9 : Slot} {x : Int32} (ho : one l9 = true) (h : W0 rm 72 [l0, l1, l2, l3, l4, l5, l6, l7, l8, .val (.int x)] (S) (H) Q) : W0 rm 70 [l0, l1, l2, l3, l4, l5, l6, l7, l8, l9] (.int x :: S) H Q := W.istore at_70 rfl ho h
theorem s0_70s {rm : Room} {S : List Value} {H : AHeap} {Q : Option Value → AHeap → Prop} {l0 l1 l2 l3 l4 l5 l6 l7 l8 : Slot} {x : Int32} (h : W0 rm 72 [l0, l1, l2, l3, l4, l5, l6, l7, .unset, .val (.int x)] (S) (H) Q) : W0 rm 70 [l0, l1, l2, l3, l4, l5, l6, l7, l8, .second] (.int x :: S) H Q := W.istoreS at_70 rfl (by decide) h
theorem s0_72 {rm : Room} {S : List Value} {H : AHeap} {Q : Option Value → AHeap → Prop} {l0 l1 l2 l3 l4 l5 l6 l8 l9 : Slot} {x : Int32} (h : W0 rm 74 [l0, l1, l2, l3, l4, l5, l6, .val (.int x), l8, l9] (.int x :: S) (H) Q) : W0 rm 72 [l0, l1, l2, l3, l4, l5, l6, .val (.int x), l8, l9] (S) H Q := W.iload at_72 rfl h
theorem s0_74 {rm : Room} {S : List Value} {H : AHeap} {Q : Option Value → AHeap → Prop} {l0 l1 l2 l3 l4 l5 l6 l7 l8 l9 : Slot}  (h : W0 rm 75 [l0, l1, l2, l3, l4, l5, l6, l7, l8, l9] (.int 1 :: S) (H) Q) : W0 rm 74 [l0, l1, l2, l3, l4, l5, l6, l7, l8, l9] (S) H Q := W.iconst' at_74 (by decide) h
theorem s0_75 {rm : Room} {S : List Value} {H : AHeap} {Q : Option Value → AHeap → Prop} {l0 l1 l2 l3 l4 l5 l6 l7 l8 l9 : Slot} {x y : Int32} (h1 : x < y → W0 rm 112 [l0, l1, l2, l3, l4, l5, l6, l7, l8, l9] S H Q) (h2 : ¬ x < y → W0 rm 78 [l0, l1, l2, l3, l4, l5, l6, l7, l8, l9] S H Q) : W0 rm 75 [l0, l1, l2, l3, l4, l5, l6, l7, l8, l9] (.int y :: .int x :: S) H Q := W.icmp at_75 (by decide) (by decide) h1 h2
theorem s0_78 {rm : Room} {S : List Value} {H : AHeap} {Q : Option Value → AHeap → Prop} {l0 l1 l2 l3 l4 l5 l6 l8 l9 : Slot} {x : Int32} (h : W0 rm 80 [l0, l1, l2, l3, l4, l5, l6, .val (.int x), l8, l9] (.int x :: S) (H) Q) : W0 rm 78 [l0, l1, l2, l3, l4, l5, l6, .val (.int x), l8, l9] (S) H Q := W.iload at_78 rfl h
theorem s0_80 {rm : Room} {S : List Value} {H : AHeap} {Q : Option Value → AHeap → Prop} {l0 l1 l2 l3 l4 l6 l7 l8 l9 : Slot} {x : Int32} (h : W0 rm 82 [l0, l1, l2, l3, l4, .val (.int x), l6, l7, l8, l9] (.int x :: S) (H) Q) : W0 rm 80 [l0, l1, l2, l3, l4, .val (.int x), l6, l7, l8, l9] (S) H Q := W.iload at_80 rfl h
theorem s0_82 {rm : Room} {S : List Value} {H : AHeap} {Q : Option Value → AHeap → Prop} {l0 l1 l2 l3 l4 l5 l6 l7 l8 l9 : Slot} {x y : Int32} (h1 : y < x → W0 rm 112 [l0, l1, l2, l3, l4, l5, l6, l7, l8, l9] S H Q) (h2 : ¬ y < x → W0 rm 85 [l0, l1, l2, l3, l4, l5, l6, l7, l8, l9] S H Q) : W0 rm 82 [l0, l1, l2, l3, l4, l5, l6, l7, l8, l9] (.int y :: .int x :: S) H Q := W.icmp at_82 (by decide) (by decide) h1 h2
theorem s0_85 {rm : Room} {S : List Value} {H : AHeap} {Q : Option Value → AHeap → Prop} {l0 l1 l2 l3 l5 l6 l7 l8 l9 : Slot} {x : Int32} (h : W0 rm 87 [l0, l1, l2, l3, .val (.int x), l5, l6, l7, l8, l9] (.int x :: S) (H) Q) : W0 rm 85 [l0, l1, l2, l3, .val (.int x), l5, l6, l7, l8, l9] (S) H Q := W.iload at_85 rfl h
theorem s0_87 {rm : Room} {S : List Value} {H : AHeap} {Q : Option Value → AHeap → Prop} {l0 l1 l2 l3 l4 l5 l6 l7 l8 l9 : Slot} {x : Int32} (h : W0 rm 88 [l0, l1, l2, l3, l4, l5, l6, l7, l8, l9] (.long x.toInt64 :: S) (H) Q) : W0 rm 87 [l0, l1, l2, l3, l4, l5, l6, l7, l8, l9] (.int x :: S) H Q := W.i2l at_87 h
theorem s0_88 {rm : Room} {S : List Value} {H : AHeap} {Q : Option Value → AHeap → Prop} {l0 l1 l2 l3 l4 l5 l6 l8 l9 : Slot} {x : Int32} (h : W0 rm 90 [l0, l1, l2, l3, l4, l5, l6, .val (.int x), l8, l9] (.int x :: S) (H) Q) : W0 rm 88 [l0, l1, l2, l3, l4, l5, l6, .val (.int x), l8, l9] (S) H Q := W.iload at_88 rfl h
theorem s0_90 {rm : Room} {S : List Value} {H : AHeap} {Q : Option Value → AHeap → Prop} {l0 l1 l2 l3 l4 l5 l6 l7 l8 l9 : Slot} {x : Int32} (h : W0 rm 91 [l0, l1, l2, l3, l4, l5, l6, l7, l8, l9] (.long x.toInt64 :: S) (H) Q) : W0 rm 90 [l0, l1, l2, l3, l4, l5, l6, l7, l8, l9] (.int x :: S) H Q := W.i2l at_90 h
theorem s0_91 {rm : Room} {S : List Value} {H : AHeap} {Q : Option Value → AHeap → Prop} {l0 l1 l2 l3 l4 l5 l6 l7 l8 l9 : Slot} {x y : Int64} (h : W0 rm 92 [l0, l1, l2, l3, l4, l5, l6, l7, l8, l9] (.long (x + y) :: S) (H) Q) : W0 rm 91 [l0, l1, l2, l3, l4, l5, l6, l7, l8, l9] (.long y :: .long x :: S) H Q := W.ladd at_91 h
theorem s0_92 {rm : Room} {S : List Value} {H : AHeap} {Q : Option Value → AHeap → Prop} {l0 l1 l2 l3 l4 l5 l6 l7 l8 l9 : Slot}  (h : W0 rm 93 [l0, l1, l2, l3, l4, l5, l6, l7, l8, l9] (.long 1 :: S) (H) Q) : W0 rm 92 [l0, l1, l2, l3, l4, l5, l6, l7, l8, l9] (S) H Q := W.lconst' at_92 (by decide) h
theorem s0_93 {rm : Room} {S : List Value} {H : AHeap} {Q : Option Value → AHeap → Prop} {l0 l1 l2 l3 l4 l5 l6 l7 l8 l9 : Slot} {x y : Int64} (h : W0 rm 94 [l0, l1, l2, l3, l4, l5, l6, l7, l8, l9] (.long (x - y) :: S) (H) Q) : W0 rm 93 [l0, l1, l2, l3, l4, l5, l6, l7, l8, l9] (.long y :: .long x :: S) H Q := W.lsub at_93 h
theorem s0_94 {rm : Room} {S : List Value} {H : AHeap} {Q : Option Value → AHeap → Prop} {l0 l1 l2 l3 l4 l6 l7 l8 l9 : Slot} {x : Int32} (h : W0 rm 96 [l0, l1, l2, l3, l4, .val (.int x), l6, l7, l8, l9] (.int x :: S) (H) Q) : W0 rm 94 [l0, l1, l2, l3, l4, .val (.int x), l6, l7, l8, l9] (S) H Q := W.iload at_94 rfl h
theorem s0_96 {rm : Room} {S : List Value} {H : AHeap} {Q : Option Value → AHeap → Prop} {l0 l1 l2 l3 l4 l5 l6 l7 l8 l9 : Slot} {x : Int32} (h : W0 rm 97 [l0, l1, l2, l3, l4, l5, l6, l7, l8, l9] (.long x.toInt64 :: S) (H) Q) : W0 rm 96 [l0, l1, l2, l3, l4, l5, l6, l7, l8, l9] (.int x :: S) H Q := W.i2l at_96 h
theorem s0_98 {rm : Room} {S : List Value} {H : AHeap} {Q : Option Value → AHeap → Prop} {l0 l1 l2 l3 l4 l5 l6 l7 l8 l9 : Slot} {x : Int32} (h1 : ¬ x = 0 → W0 rm 112 [l0, l1, l2, l3, l4, l5, l6, l7, l8, l9] S H Q) (h2 : x = 0 → W0 rm 101 [l0, l1, l2, l3, l4, l5, l6, l7, l8, l9] S H Q) : W0 rm 98 [l0, l1, l2, l3, l4, l5, l6, l7, l8, l9] (.int x :: S) H Q := W.ifc at_98 (by decide) (by decide) h1 h2
theorem s0_97c {rm : Room} {S : List Value} {H : AHeap} {Q : Option Value → AHeap → Prop} {l0 l1 l2 l3 l4 l5 l6 l7 l8 l9 : Slot} {x y : Int64} (h1 : ¬ x = y → W0 rm 112 [l0, l1, l2, l3, l4, l5, l6, l7, l8, l9] S H Q) (h2 : x = y → W0 rm 101 [l0, l1, l2, l3, l4, l5, l6, l7, l8, l9] S H Q) : W0 rm 97 [l0, l1, l2, l3, l4, l5, l6, l7, l8, l9] (.long y :: .long x :: S) H Q := W.lcif at_97 rfl at_98 (by decide) (by decide) h1 h2
theorem s0_101 {rm : Room} {S : List Value} {H : AHeap} {Q : Option Value → AHeap → Prop} {l0 l1 l2 l3 l4 l5 l6 l7 l8 : Slot} {x : Int32} (h : W0 rm 103 [l0, l1, l2, l3, l4, l5, l6, l7, l8, .val (.int x)] (.int x :: S) (H) Q) : W0 rm 101 [l0, l1, l2, l3, l4, l5, l6, l7, l8, .val (.int x)] (S) H Q := W.iload at_101 rfl h
theorem s0_103 {rm : Room} {S : List Value} {H : AHeap} {Q : Option Value → AHeap → Prop} {l0 l1 l2 l3 l4 l6 l7 l8 l9 : Slot} {x : Int32} (h : W0 rm 105 [l0, l1, l2, l3, l4, .val (.int x), l6, l7, l8, l9] (.int x :: S) (H) Q) : W0 rm 103 [l0, l1, l2, l3, l4, .val (.int x), l6, l7, l8, l9] (S) H Q := W.iload at_103 rfl h
theorem s0_105 {rm : Room} {S : List Value} {H : AHeap} {Q : Option Value → AHeap → Prop} {l0 l1 l2 l3 l4 l5 l6 l7 l8 l9 : Slot} {x y : Int32} (h1 : ¬ x = y → W0 rm 112 [l0, l1, l2, l3, l4, l5, l6, l7, l8, l9] S H Q) (h2 : x = y → W0 rm 108 [l0, l1, l2, l3, l4, l5, l6, l7, l8, l9] S H Q) : W0 rm 105 [l0, l1, l2, l3, l4, l5, l6, l7, l8, l9] (.int y :: .int x :: S) H Q := W.icmp at_105 (by decide) (by decide) h1 h2
theorem s0_108 {rm : Room} {S : List Value} {H : AHeap} {Q : Option Value → AHeap → Prop} {l0 l1 l2 l3 l4 l5 l6 l7 l8 l9 : Slot}  (h : W0 rm 109 [l0, l1, l2, l3, l4, l5, l6, l7, l8, l9] (.int 1 :: S) (H) Q) : W0 rm 108 [l0, l1, l2, l3, l4, l5, l6, l7, l8, l9] (S) H Q := W.iconst' at_108 (by decide) h
theorem s0_109 {rm : Room} {S : List Value} {H : AHeap} {Q : Option Value → AHeap → Prop} {l0 l1 l2 l3 l4 l5 l6 l7 l8 l9 : Slot}  (h : W0 rm 113 [l0, l1, l2, l3, l4, l5, l6, l7, l8, l9] (S) (H) Q) : W0 rm 109 [l0, l1, l2, l3, l4, l5, l6, l7, l8, l9] (S) H Q := W.goto at_109 (by decide) (by decide) h
theorem s0_112 {rm : Room} {S : List Value} {H : AHeap} {Q : Option Value → AHeap → Prop} {l0 l1 l2 l3 l4 l5 l6 l7 l8 l9 : Slot}  (h : W0 rm 113 [l0, l1, l2, l3, l4, l5, l6, l7, l8, l9] (.int 0 :: S) (H) Q) : W0 rm 112 [l0, l1, l2, l3, l4, l5, l6, l7, l8, l9] (S) H Q := W.iconst' at_112 (by decide) h
theorem s0_113 {rm : Room} {S : List Value} {H : AHeap} {Q : Option Value → AHeap → Prop} {l0 l1 l2 l3 l4 l5 l6 l7 l8 l9 : Slot} {x : Int32} (hQ : Q (some (.int (x &&& 1))) H) : W0 rm 113 [l0, l1, l2, l3, l4, l5, l6, l7, l8, l9] (.int x :: S) H Q := W.ireturnZ at_113 rfl hQ
theorem e1 {rm : Room} {H : AHeap} {Q : Option Value → AHeap → Prop} {a0 : Int32} {a1 : Int32} (h : W1 rm 0 [.val (.int a0), .val (.int a1)] [] H Q) : M1 rm [.int a0, .int a1] H Q := M.of pf1 rfl rfl h
theorem e1L {rm : Room} {H : AHeap} {Q : Option Value → AHeap → Prop} {L : List Slot} {as : List Value} (h : W1 rm 0 L [] H Q) (hl : ent as ++ List.replicate (2 - (ent as).length) .unset = L := by rfl) (hn : L.length = 2 := by rfl) : M1 rm as H Q := M.of pf1 hl hn h
theorem d1_0 : decode jdk_29_method_69_code 0 = .ok (.iload_n 0, 1) := by decide +kernel
theorem s1_0 {rm : Room} {S : List Value} {H : AHeap} {Q : Option Value → AHeap → Prop} {l1 : Slot} {x : Int32} (h : W1 rm 1 [.val (.int x), l1] (.int x :: S) (H) Q) : W1 rm 0 [.val (.int x), l1] (S) H Q := W.iload_n d1_0 rfl h
theorem d1_1 : decode jdk_29_method_69_code 1 = .ok (.iload_n 1, 1) := by decide +kernel
theorem s1_1 {rm : Room} {S : List Value} {H : AHeap} {Q : Option Value → AHeap → Prop} {l0 : Slot} {x : Int32} (h : W1 rm 2 [l0, .val (.int x)] (.int x :: S) (H) Q) : W1 rm 1 [l0, .val (.int x)] (S) H Q := W.iload_n d1_1 rfl h
theorem d1_2 : decode jdk_29_method_69_code 2 = .ok (.if_icmp .gt 7, 3) := by decide +kernel
theorem s1_2 {rm : Room} {S : List Value} {H : AHeap} {Q : Option Value → AHeap → Prop} {l0 l1 : Slot} {x y : Int32} (h1 : y < x → W1 rm 9 [l0, l1] S H Q) (h2 : ¬ y < x → W1 rm 5 [l0, l1] S H Q) : W1 rm 2 [l0, l1] (.int y :: .int x :: S) H Q := W.icmp d1_2 (by decide) (by decide) h1 h2
theorem d1_5 : decode jdk_29_method_69_code 5 = .ok (.iload_n 0, 1) := by decide +kernel
theorem s1_5 {rm : Room} {S : List Value} {H : AHeap} {Q : Option Value → AHeap → Prop} {l1 : Slot} {x : Int32} (h : W1 rm 6 [.val (.int x), l1] (.int x :: S) (H) Q) : W1 rm 5 [.val (.int x), l1] (S) H Q := W.iload_n d1_5 rfl h
theorem d1_6 : decode jdk_29_method_69_code 6 = .ok (.goto 4, 3) := by decide +kernel
theorem s1_6 {rm : Room} {S : List Value} {H : AHeap} {Q : Option Value → AHeap → Prop} {l0 l1 : Slot}  (h : W1 rm 10 [l0, l1] (S) (H) Q) : W1 rm 6 [l0, l1] (S) H Q := W.goto d1_6 (by decide) (by decide) h
theorem d1_9 : decode jdk_29_method_69_code 9 = .ok (.iload_n 1, 1) := by decide +kernel
theorem s1_9 {rm : Room} {S : List Value} {H : AHeap} {Q : Option Value → AHeap → Prop} {l0 : Slot} {x : Int32} (h : W1 rm 10 [l0, .val (.int x)] (.int x :: S) (H) Q) : W1 rm 9 [l0, .val (.int x)] (S) H Q := W.iload_n d1_9 rfl h
theorem d1_10 : decode jdk_29_method_69_code 10 = .ok (.ireturn, 1) := by decide +kernel
theorem s1_10 {rm : Room} {S : List Value} {H : AHeap} {Q : Option Value → AHeap → Prop} {l0 l1 : Slot} {x : Int32} (hQ : Q (some (.int x)) H) : W1 rm 10 [l0, l1] (.int x :: S) H Q := W.ireturn d1_10 rfl hQ
theorem e2 {rm : Room} {H : AHeap} {Q : Option Value → AHeap → Prop} {a0 : Int32} {a1 : Int32} (h : W2 rm 0 [.val (.int a0), .val (.int a1)] [] H Q) : M2 rm [.int a0, .int a1] H Q := M.of pf2 rfl rfl h
theorem e2L {rm : Room} {H : AHeap} {Q : Option Value → AHeap → Prop} {L : List Slot} {as : List Value} (h : W2 rm 0 L [] H Q) (hl : ent as ++ List.replicate (2 - (ent as).length) .unset = L := by rfl) (hn : L.length = 2 := by rfl) : M2 rm as H Q := M.of pf2 hl hn h
theorem d2_0 : decode jdk_29_method_65_code 0 = .ok (.iload_n 0, 1) := by decide +kernel
theorem s2_0 {rm : Room} {S : List Value} {H : AHeap} {Q : Option Value → AHeap → Prop} {l1 : Slot} {x : Int32} (h : W2 rm 1 [.val (.int x), l1] (.int x :: S) (H) Q) : W2 rm 0 [.val (.int x), l1] (S) H Q := W.iload_n d2_0 rfl h
theorem d2_1 : decode jdk_29_method_65_code 1 = .ok (.iload_n 1, 1) := by decide +kernel
theorem s2_1 {rm : Room} {S : List Value} {H : AHeap} {Q : Option Value → AHeap → Prop} {l0 : Slot} {x : Int32} (h : W2 rm 2 [l0, .val (.int x)] (.int x :: S) (H) Q) : W2 rm 1 [l0, .val (.int x)] (S) H Q := W.iload_n d2_1 rfl h
theorem d2_2 : decode jdk_29_method_65_code 2 = .ok (.if_icmp .lt 7, 3) := by decide +kernel
theorem s2_2 {rm : Room} {S : List Value} {H : AHeap} {Q : Option Value → AHeap → Prop} {l0 l1 : Slot} {x y : Int32} (h1 : x < y → W2 rm 9 [l0, l1] S H Q) (h2 : ¬ x < y → W2 rm 5 [l0, l1] S H Q) : W2 rm 2 [l0, l1] (.int y :: .int x :: S) H Q := W.icmp d2_2 (by decide) (by decide) h1 h2
theorem d2_5 : decode jdk_29_method_65_code 5 = .ok (.iload_n 0, 1) := by decide +kernel
theorem s2_5 {rm : Room} {S : List Value} {H : AHeap} {Q : Option Value → AHeap → Prop} {l1 : Slot} {x : Int32} (h : W2 rm 6 [.val (.int x), l1] (.int x :: S) (H) Q) : W2 rm 5 [.val (.int x), l1] (S) H Q := W.iload_n d2_5 rfl h
theorem d2_6 : decode jdk_29_method_65_code 6 = .ok (.goto 4, 3) := by decide +kernel
theorem s2_6 {rm : Room} {S : List Value} {H : AHeap} {Q : Option Value → AHeap → Prop} {l0 l1 : Slot}  (h : W2 rm 10 [l0, l1] (S) (H) Q) : W2 rm 6 [l0, l1] (S) H Q := W.goto d2_6 (by decide) (by decide) h
theorem d2_9 : decode jdk_29_method_65_code 9 = .ok (.iload_n 1, 1) := by decide +kernel
theorem s2_9 {rm : Room} {S : List Value} {H : AHeap} {Q : Option Value → AHeap → Prop} {l0 : Slot} {x : Int32} (h : W2 rm 10 [l0, .val (.int x)] (.int x :: S) (H) Q) : W2 rm 9 [l0, .val (.int x)] (S) H Q := W.iload_n d2_9 rfl h
theorem d2_10 : decode jdk_29_method_65_code 10 = .ok (.ireturn, 1) := by decide +kernel
theorem s2_10 {rm : Room} {S : List Value} {H : AHeap} {Q : Option Value → AHeap → Prop} {l0 l1 : Slot} {x : Int32} (hQ : Q (some (.int x)) H) : W2 rm 10 [l0, l1] (.int x :: S) H Q := W.ireturn d2_10 rfl hQ
theorem e3 {rm : Room} {H : AHeap} {Q : Option Value → AHeap → Prop} {a0 : Nat} {a1 : Int32} {a2 : Int32} (h : W3 rm 0 [.val (.ref a0), .val (.int a1), .val (.int a2)] [] H Q) : M3 rm [.ref a0, .int a1, .int a2] H Q := M.of pf3 rfl rfl h
theorem e3L {rm : Room} {H : AHeap} {Q : Option Value → AHeap → Prop} {L : List Slot} {as : List Value} (h : W3 rm 0 L [] H Q) (hl : ent as ++ List.replicate (3 - (ent as).length) .unset = L := by rfl) (hn : L.length = 3 := by rfl) : M3 rm as H Q := M.of pf3 hl hn h
theorem d3_0 : decode prog_16_method_1_code 0 = .ok (.aload_n 0, 1) := by decide +kernel
theorem s3_0 {rm : Room} {S : List Value} {H : AHeap} {Q : Option Value → AHeap → Prop} {l1 l2 : Slot} {i : Nat} (h : W3 rm 1 [.val (.ref i), l1, l2] (.ref i :: S) (H) Q) : W3 rm 0 [.val (.ref i), l1, l2] (S) H Q := W.aload_n d3_0 rfl rfl h
theorem s3_0n {rm : Room} {S : List Value} {H : AHeap} {Q : Option Value → AHeap → Prop} {l1 l2 : Slot}  (h : W3 rm 1 [.val .null, l1, l2] (.null :: S) (H) Q) : W3 rm 0 [.val .null, l1, l2] (S) H Q := W.aload_n d3_0 rfl rfl h
theorem d3_1 : decode prog_16_method_1_code 1 = .ok (.invokespecial 1, 3) := by decide +kernel
theorem s3_1 {rm : Room} {S : List Value} {H : AHeap} {Q : Option Value → AHeap → Prop} {l0 l1 l2 : Slot} {rm' : Room} {H' : AHeap} {i : Nat}   (hM : M4 rm' [.ref i] H (Is none H')) (hr : rok rm rm' 1 S = true) (h : W3 (less rm rm') 4 [l0, l1, l2] (S) H' Q) : W3 rm 1 [l0, l1, l2] (.ref i :: S) H Q := W.callI (S := S) (as := []) (rm' := rm') d3_1 rfl rfl (List.mem_of_getElem? (i := 14) rfl) (List.mem_of_getElem? (i := 15) rfl) (List.mem_of_getElem? (i := 17) rfl) (List.mem_of_getElem? (i := 18) rfl) (by decide) pd3 rfl rfl hM hr (fun _ _ q => by obtain ⟨rfl, rfl⟩ := q; exact h)
theorem s3_1q {rm : Room} {S : List Value} {H : AHeap} {Q : Option Value → AHeap → Prop} {l0 l1 l2 : Slot} {rm' : Room} {Q' : Option Value → AHeap → Prop} {i : Nat}  (hM : M4 rm' [.ref i] H Q') (hr : rok rm rm' 1 S = true) (h : ∀ v H', Q' v H' → W3 (less rm rm') 4 [l0, l1, l2] (v.toList ++ S) H' Q) : W3 rm 1 [l0, l1, l2] (.ref i :: S) H Q := W.callI (S := S) (as := []) (rm' := rm') d3_1 rfl rfl (List.mem_of_getElem? (i := 14) rfl) (List.mem_of_getElem? (i := 15) rfl) (List.mem_of_getElem? (i := 17) rfl) (List.mem_of_getElem? (i := 18) rfl) (by decide) pd3 rfl rfl hM hr h
theorem d3_4 : decode prog_16_method_1_code 4 = .ok (.iload_n 1, 1) := by decide +kernel
theorem s3_4 {rm : Room} {S : List Value} {H : AHeap} {Q : Option Value → AHeap → Prop} {l0 l2 : Slot} {x : Int32} (h : W3 rm 5 [l0, .val (.int x), l2] (.int x :: S) (H) Q) : W3 rm 4 [l0, .val (.int x), l2] (S) H Q := W.iload_n d3_4 rfl h
theorem d3_5 : decode prog_16_method_1_code 5 = .ok (.iconst 1, 1) := by decide +kernel
theorem s3_5 {rm : Room} {S : List Value} {H : AHeap} {Q : Option Value → AHeap → Prop} {l0 l1 l2 : Slot}  (h : W3 rm 6 [l0, l1, l2] (.int 1 :: S) (H) Q) : W3 rm 5 [l0, l1, l2] (S) H Q := W.iconst' d3_5 (by decide) h
theorem d3_6 : decode prog_16_method_1_code 6 = .ok (.if_icmp .lt 8, 3) := by decide +kernel
theorem s3_6 {rm : Room} {S : List Value} {H : AHeap} {Q : Option Value → AHeap → Prop} {l0 l1 l2 : Slot} {x y : Int32} (h1 : x < y → W3 rm 14 [l0, l1, l2] S H Q) (h2 : ¬ x < y → W3 rm 9 [l0, l1, l2] S H Q) : W3 rm 6 [l0, l1, l2] (.int y :: .int x :: S) H Q := W.icmp d3_6 (by decide) (by decide) h1 h2
theorem d3_9 : decode prog_16_method_1_code 9 = .ok (.iload_n 2, 1) := by decide +kernel
theorem s3_9 {rm : Room} {S : List Value} {H : AHeap} {Q : Option Value → AHeap → Prop} {l0 l1 : Slot} {x : Int32} (h : W3 rm 10 [l0, l1, .val (.int x)] (.int x :: S) (H) Q) : W3 rm 9 [l0, l1, .val (.int x)] (S) H Q := W.iload_n d3_9 rfl h
theorem d3_10 : decode prog_16_method_1_code 10 = .ok (.iload_n 1, 1) := by decide +kernel
theorem s3_10 {rm : Room} {S : List Value} {H : AHeap} {Q : Option Value → AHeap → Prop} {l0 l2 : Slot} {x : Int32} (h : W3 rm 11 [l0, .val (.int x), l2] (.int x :: S) (H) Q) : W3 rm 10 [l0, .val (.int x), l2] (S) H Q := W.iload_n d3_10 rfl h
theorem d3_11 : decode prog_16_method_1_code 11 = .ok (.if_icmp .ge 18, 3) := by decide +kernel
theorem s3_11 {rm : Room} {S : List Value} {H : AHeap} {Q : Option Value → AHeap → Prop} {l0 l1 l2 : Slot} {x y : Int32} (h1 : ¬ x < y → W3 rm 29 [l0, l1, l2] S H Q) (h2 : x < y → W3 rm 14 [l0, l1, l2] S H Q) : W3 rm 11 [l0, l1, l2] (.int y :: .int x :: S) H Q := W.icmp d3_11 (by decide) (by decide) h1 h2
theorem d3_14 : decode prog_16_method_1_code 14 = .ok (.new 7, 3) := by decide +kernel
theorem d3_17 : decode prog_16_method_1_code 17 = .ok (.dup, 1) := by decide +kernel
theorem s3_17 {rm : Room} {S : List Value} {H : AHeap} {Q : Option Value → AHeap → Prop} {l0 l1 l2 : Slot} {v : Value} (hc : v.category = 1) (h : W3 rm 18 [l0, l1, l2] (v :: v :: S) (H) Q) : W3 rm 17 [l0, l1, l2] (v :: S) H Q := W.dup d3_17 hc h
theorem d3_18 : decode prog_16_method_1_code 18 = .ok (.iload_n 1, 1) := by decide +kernel
theorem s3_18 {rm : Room} {S : List Value} {H : AHeap} {Q : Option Value → AHeap → Prop} {l0 l2 : Slot} {x : Int32} (h : W3 rm 19 [l0, .val (.int x), l2] (.int x :: S) (H) Q) : W3 rm 18 [l0, .val (.int x), l2] (S) H Q := W.iload_n d3_18 rfl h
theorem d3_19 : decode prog_16_method_1_code 19 = .ok (.iload_n 2, 1) := by decide +kernel
theorem s3_19 {rm : Room} {S : List Value} {H : AHeap} {Q : Option Value → AHeap → Prop} {l0 l1 : Slot} {x : Int32} (h : W3 rm 20 [l0, l1, .val (.int x)] (.int x :: S) (H) Q) : W3 rm 19 [l0, l1, .val (.int x)] (S) H Q := W.iload_n d3_19 rfl h
theorem d3_25 : decode prog_16_method_1_code 25 = .ok (.invokespecial 13, 3) := by decide +kernel
theorem d3_29 : decode prog_16_method_1_code 29 = .ok (.aload_n 0, 1) := by decide +kernel
theorem s3_29 {rm : Room} {S : List Value} {H : AHeap} {Q : Option Value → AHeap → Prop} {l1 l2 : Slot} {i : Nat} (h : W3 rm 30 [.val (.ref i), l1, l2] (.ref i :: S) (H) Q) : W3 rm 29 [.val (.ref i), l1, l2] (S) H Q := W.aload_n d3_29 rfl rfl h
theorem s3_29n {rm : Room} {S : List Value} {H : AHeap} {Q : Option Value → AHeap → Prop} {l1 l2 : Slot}  (h : W3 rm 30 [.val .null, l1, l2] (.null :: S) (H) Q) : W3 rm 29 [.val .null, l1, l2] (S) H Q := W.aload_n d3_29 rfl rfl h
theorem d3_30 : decode prog_16_method_1_code 30 = .ok (.iload_n 1, 1) := by decide +kernel
theorem s3_30 {rm : Room} {S : List Value} {H : AHeap} {Q : Option Value → AHeap → Prop} {l0 l2 : Slot} {x : Int32} (h : W3 rm 31 [l0, .val (.int x), l2] (.int x :: S) (H) Q) : W3 rm 30 [l0, .val (.int x), l2] (S) H Q := W.iload_n d3_30 rfl h
theorem d3_31 : decode prog_16_method_1_code 31 = .ok (.putfield 16, 3) := by decide +kernel
theorem s3_31 {rm : Room} {S : List Value} {H : AHeap} {Q : Option Value → AHeap → Prop} {l0 l1 l2 : Slot} {i : Nat} {f0 f1 : Value} {x : Int32} (hH : H[i]? = some (.inl (0, [f0, f1]))) (h : W3 rm 34 [l0, l1, l2] (S) (H.set i (.inl (0, [.int x, f1]))) Q) : W3 rm 31 [l0, l1, l2] (.int x :: .ref i :: S) H Q := W.putF (c := 0) (j := 0) kt d3_31 (host := "") (Or.inl (List.mem_of_getElem? (i := 22) rfl)) (Or.inl rfl) rfl rfl (Or.inr ⟨(List.mem_of_getElem? (i := 23) rfl), rfl, rfl⟩) rfl rfl hH h
theorem d3_34 : decode prog_16_method_1_code 34 = .ok (.aload_n 0, 1) := by decide +kernel
theorem s3_34 {rm : Room} {S : List Value} {H : AHeap} {Q : Option Value → AHeap → Prop} {l1 l2 : Slot} {i : Nat} (h : W3 rm 35 [.val (.ref i), l1, l2] (.ref i :: S) (H) Q) : W3 rm 34 [.val (.ref i), l1, l2] (S) H Q := W.aload_n d3_34 rfl rfl h
theorem s3_34n {rm : Room} {S : List Value} {H : AHeap} {Q : Option Value → AHeap → Prop} {l1 l2 : Slot}  (h : W3 rm 35 [.val .null, l1, l2] (.null :: S) (H) Q) : W3 rm 34 [.val .null, l1, l2] (S) H Q := W.aload_n d3_34 rfl rfl h
theorem d3_35 : decode prog_16_method_1_code 35 = .ok (.iload_n 2, 1) := by decide +kernel
theorem s3_35 {rm : Room} {S : List Value} {H : AHeap} {Q : Option Value → AHeap → Prop} {l0 l1 : Slot} {x : Int32} (h : W3 rm 36 [l0, l1, .val (.int x)] (.int x :: S) (H) Q) : W3 rm 35 [l0, l1, .val (.int x)] (S) H Q := W.iload_n d3_35 rfl h
theorem d3_36 : decode prog_16_method_1_code 36 = .ok (.putfield 22, 3) := by decide +kernel
theorem s3_36 {rm : Room} {S : List Value} {H : AHeap} {Q : Option Value → AHeap → Prop} {l0 l1 l2 : Slot} {i : Nat} {f0 f1 : Value} {x : Int32} (hH : H[i]? = some (.inl (0, [f0, f1]))) (h : W3 rm 39 [l0, l1, l2] (S) (H.set i (.inl (0, [f0, .int x]))) Q) : W3 rm 36 [l0, l1, l2] (.int x :: .ref i :: S) H Q := W.putF (c := 0) (j := 1) kt d3_36 (host := "") (Or.inl (List.mem_of_getElem? (i := 24) rfl)) (Or.inl rfl) rfl rfl (Or.inr ⟨(List.mem_of_getElem? (i := 25) rfl), rfl, rfl⟩) rfl rfl hH h
theorem d3_39 : decode prog_16_method_1_code 39 = .ok (.return_, 1) := by decide +kernel
theorem s3_39 {rm : Room} {H : AHeap} {Q : Option Value → AHeap → Prop} {l0 l1 l2 : Slot} (hQ : Q none H) : W3 rm 39 [l0, l1, l2] [] H Q := W.ret_ d3_39 rfl hQ
theorem e4 {rm : Room} {H : AHeap} {Q : Option Value → AHeap → Prop} {a0 : Nat} (h : W4 rm 0 [.val (.ref a0)] [] H Q) : M4 rm [.ref a0] H Q := M.of pf4 rfl rfl h
theorem e4L {rm : Room} {H : AHeap} {Q : Option Value → AHeap → Prop} {L : List Slot} {as : List Value} (h : W4 rm 0 L [] H Q) (hl : ent as ++ List.replicate (1 - (ent as).length) .unset = L := by rfl) (hn : L.length = 1 := by rfl) : M4 rm as H Q := M.of pf4 hl hn h
theorem d4_0 : decode jdk_30_method_1_code 0 = .ok (.aload_n 0, 1) := by decide +kernel
theorem s4_0 {rm : Room} {S : List Value} {H : AHeap} {Q : Option Value → AHeap → Prop} {i : Nat} (h : W4 rm 1 [.val (.ref i)] (.ref i :: S) (H) Q) : W4 rm 0 [.val (.ref i)] (S) H Q := W.aload_n d4_0 rfl rfl h
theorem s4_0n {rm : Room} {S : List Value} {H : AHeap} {Q : Option Value → AHeap → Prop}  (h : W4 rm 1 [.val .null] (.null :: S) (H) Q) : W4 rm 0 [.val .null] (S) H Q := W.aload_n d4_0 rfl rfl h
theorem d4_1 : decode jdk_30_method_1_code 1 = .ok (.invokespecial 1, 3) := by decide +kernel
theorem s4_1 {rm : Room} {S : List Value} {H : AHeap} {Q : Option Value → AHeap → Prop} {l0 : Slot} {i : Nat} (hr : iok rm S = true) (h : W4 rm 4 [l0] (S) (H) Q) : W4 rm 1 [l0] (.ref i :: S) H Q := W.initO d4_1 (List.mem_of_getElem? (i := 19) rfl) (List.mem_of_getElem? (i := 20) rfl) (List.mem_of_getElem? (i := 21) rfl) hr h
theorem d4_4 : decode jdk_30_method_1_code 4 = .ok (.return_, 1) := by decide +kernel
theorem s4_4 {rm : Room} {H : AHeap} {Q : Option Value → AHeap → Prop} {l0 : Slot} (hQ : Q none H) : W4 rm 4 [l0] [] H Q := W.ret_ d4_4 rfl hQ
theorem e5 {rm : Room} {H : AHeap} {Q : Option Value → AHeap → Prop} {a0 : Nat} (h : W5 rm 0 [.val (.ref a0)] [] H Q) : M5 rm [.ref a0] H Q := M.of pf5 rfl rfl h
theorem e5L {rm : Room} {H : AHeap} {Q : Option Value → AHeap → Prop} {L : List Slot} {as : List Value} (h : W5 rm 0 L [] H Q) (hl : ent as ++ List.replicate (1 - (ent as).length) .unset = L := by rfl) (hn : L.length = 1 := by rfl) : M5 rm as H Q := M.of pf5 hl hn h
theorem d5_0 : decode prog_16_method_3_code 0 = .ok (.aload_n 0, 1) := by decide +kernel
theorem s5_0 {rm : Room} {S : List Value} {H : AHeap} {Q : Option Value → AHeap → Prop} {i : Nat} (h : W5 rm 1 [.val (.ref i)] (.ref i :: S) (H) Q) : W5 rm 0 [.val (.ref i)] (S) H Q := W.aload_n d5_0 rfl rfl h
theorem s5_0n {rm : Room} {S : List Value} {H : AHeap} {Q : Option Value → AHeap → Prop}  (h : W5 rm 1 [.val .null] (.null :: S) (H) Q) : W5 rm 0 [.val .null] (S) H Q := W.aload_n d5_0 rfl rfl h
theorem d5_1 : decode prog_16_method_3_code 1 = .ok (.getfield 22, 3) := by decide +kernel
theorem s5_1 {rm : Room} {S : List Value} {H : AHeap} {Q : Option Value → AHeap → Prop} {l0 : Slot} {i : Nat} {f0 f1 : Value} (hH : H[i]? = some (.inl (0, [f0, f1]))) (h : W5 rm 4 [l0] (f1 :: S) (H) Q) : W5 rm 1 [l0] (.ref i :: S) H Q := W.getF (c := 0) (j := 1) d5_1 (host := "") (Or.inl (List.mem_of_getElem? (i := 24) rfl)) (Or.inl rfl) rfl rfl hH rfl h
theorem d5_4 : decode prog_16_method_3_code 4 = .ok (.aload_n 0, 1) := by decide +kernel
theorem s5_4 {rm : Room} {S : List Value} {H : AHeap} {Q : Option Value → AHeap → Prop} {i : Nat} (h : W5 rm 5 [.val (.ref i)] (.ref i :: S) (H) Q) : W5 rm 4 [.val (.ref i)] (S) H Q := W.aload_n d5_4 rfl rfl h
theorem s5_4n {rm : Room} {S : List Value} {H : AHeap} {Q : Option Value → AHeap → Prop}  (h : W5 rm 5 [.val .null] (.null :: S) (H) Q) : W5 rm 4 [.val .null] (S) H Q := W.aload_n d5_4 rfl rfl h
theorem d5_5 : decode prog_16_method_3_code 5 = .ok (.getfield 16, 3) := by decide +kernel
theorem s5_5 {rm : Room} {S : List Value} {H : AHeap} {Q : Option Value → AHeap → Prop} {l0 : Slot} {i : Nat} {f0 f1 : Value} (hH : H[i]? = some (.inl (0, [f0, f1]))) (h : W5 rm 8 [l0] (f0 :: S) (H) Q) : W5 rm 5 [l0] (.ref i :: S) H Q := W.getF (c := 0) (j := 0) d5_5 (host := "") (Or.inl (List.mem_of_getElem? (i := 22) rfl)) (Or.inl rfl) rfl rfl hH rfl h
theorem d5_8 : decode prog_16_method_3_code 8 = .ok (.isub, 1) := by decide +kernel
theorem s5_8 {rm : Room} {S : List Value} {H : AHeap} {Q : Option Value → AHeap → Prop} {l0 : Slot} {x y : Int32} (h : W5 rm 9 [l0] (.int (x - y) :: S) (H) Q) : W5 rm 8 [l0] (.int y :: .int x :: S) H Q := W.isub d5_8 h
theorem d5_9 : decode prog_16_method_3_code 9 = .ok (.iconst 1, 1) := by decide +kernel
theorem s5_9 {rm : Room} {S : List Value} {H : AHeap} {Q : Option Value → AHeap → Prop} {l0 : Slot}  (h : W5 rm 10 [l0] (.int 1 :: S) (H) Q) : W5 rm 9 [l0] (S) H Q := W.iconst' d5_9 (by decide) h
theorem d5_10 : decode prog_16_method_3_code 10 = .ok (.iadd, 1) := by decide +kernel
theorem s5_10 {rm : Room} {S : List Value} {H : AHeap} {Q : Option Value → AHeap → Prop} {l0 : Slot} {x y : Int32} (h : W5 rm 11 [l0] (.int (x + y) :: S) (H) Q) : W5 rm 10 [l0] (.int y :: .int x :: S) H Q := W.iadd d5_10 h
theorem d5_11 : decode prog_16_method_3_code 11 = .ok (.ireturn, 1) := by decide +kernel
theorem s5_11 {rm : Room} {S : List Value} {H : AHeap} {Q : Option Value → AHeap → Prop} {l0 : Slot} {x : Int32} (hQ : Q (some (.int x)) H) : W5 rm 11 [l0] (.int x :: S) H Q := W.ireturn d5_11 rfl hQ
theorem b0_105 {rm : Room} {S : List Value} {H : AHeap} {Q : Option Value → AHeap → Prop} {l0 l1 l2 l3 l4 l5 l6 l7 l8 l9 : Slot} {x y : Int32} (h : ∀ t : Int32, ((x = y) ∧ t = 1) ∨ ((¬ x = y) ∧ t = 0) → W0 rm 113 [l0, l1, l2, l3, l4, l5, l6, l7, l8, l9] (.int t :: S) H Q) : W0 rm 105 [l0, l1, l2, l3, l4, l5, l6, l7, l8, l9] (.int y :: .int x :: S) H Q := s0_105 (fun q => s0_112 (h 0 (Or.inr ⟨q, rfl⟩))) (fun q => s0_108 (s0_109 (h 1 (Or.inl ⟨q, rfl⟩))))
def own_min (a b : Int32) : Int32 := if b < a then b else a
def own_max (a b : Int32) : Int32 := if a < b then b else a
theorem own_minM (a b : Int32) (H : AHeap) : M1 ⟨0, 0, 0, 0⟩ [.int a, .int b] H (Is (some (.int (own_min a b))) H) := by
  refine e1 ?_
  refine s1_0 (s1_1 (s1_2 (fun h => s1_9 (s1_10 ⟨?_, rfl⟩)) (fun h => s1_5 (s1_6 (s1_10 ⟨?_, rfl⟩)))))
  · rw [own_min, if_pos h]
  · rw [own_min, if_neg h]
theorem own_maxM (a b : Int32) (H : AHeap) : M2 ⟨0, 0, 0, 0⟩ [.int a, .int b] H (Is (some (.int (own_max a b))) H) := by
  refine e2 ?_
  refine s2_0 (s2_1 (s2_2 (fun h => s2_9 (s2_10 ⟨?_, rfl⟩)) (fun h => s2_5 (s2_6 (s2_10 ⟨?_, rfl⟩)))))
  · rw [own_max, if_pos h]
  · rw [own_max, if_neg h]
theorem own_rec (i : Nat) (H : AHeap) : M4 ⟨1, 0, 0, 12⟩ [.ref i] H (Is none H) := by
  refine e4 ?_
  refine s4_0 ?_
  refine s4_1 rfl ?_
  exact s4_4 ⟨rfl, rfl⟩
theorem own_init (i : Nat) (a b : Int32) (H : AHeap) {f0 f1 : Value} (hi : H[i]? = some (.inl (0, [f0, f1]))) (h1 : ¬ a < 1) (h2 : ¬ b < a) : M3 ⟨2, 0, 0, 24⟩ [.ref i, .int a, .int b] H (Is none (H.set i (.inl (0, [.int a, .int b])))) := by
  refine e3 ?_
  refine s3_0 ?_
  refine s3_1 (own_rec _ _) rfl ?_
  refine s3_4 ?_
  refine s3_5 ?_
  refine s3_6 (fun h => absurd h h1) (fun _ => ?_)
  refine s3_9 ?_
  refine s3_10 ?_
  refine s3_11 (fun _ => ?_) (fun h => absurd h h2)
  refine s3_29 ?_
  refine s3_30 ?_
  refine s3_31 hi ?_
  refine s3_34 ?_
  refine s3_35 ?_
  refine s3_36 (hs hi) ?_
  exact s3_39 ⟨rfl, by simp [List.set_set]⟩
theorem own_count (i : Nat) (a b : Int32) (H : AHeap) (hi : H[i]? = some (.inl (0, [.int a, .int b]))) : M5 ⟨0, 0, 0, 0⟩ [.ref i] H (Is (some (.int (b - a + 1))) H) := by
  refine e5 ?_
  refine s5_0 ?_
  refine s5_1 hi ?_
  refine s5_4 ?_
  refine s5_5 hi ?_
  refine s5_8 ?_
  refine s5_9 ?_
  refine s5_10 ?_
  exact s5_11 ⟨rfl, rfl⟩
theorem own_nn (a : Int32) : 0 ≤ (a &&& 2147483647).toInt := by
  have e : (a &&& 2147483647).toInt = a.toInt % 2 ^ 31 := Jvm.Kit.i32_mask a 2147483647 (k := 31) (by decide) (by decide)
  omega
theorem own_bounds {x y f l : Int32} (hx : 0 ≤ x.toInt) (hy : 0 ≤ y.toInt) (hf : own_max 1 (own_min x y) = f) (hl : own_max f (own_max x y) = l) : 1 ≤ f.toInt ∧ f.toInt ≤ l.toInt := by
  have o : (1 : Int32).toInt = 1 := by decide
  have e1 : ∀ a b : Int32, a.toInt ≤ (own_max a b).toInt := fun a b => by
    unfold own_max; split
    · rename_i h; rw [Int32.lt_iff_toInt_lt] at h; omega
    · omega
  have h1 := e1 1 (own_min x y); have h2 := e1 f (own_max x y)
  rw [hf, o] at h1; rw [hl] at h2
  exact ⟨h1, h2⟩
theorem law_ok (a b : Int32) : M0 room_1 [.int a, .int b] [] (fun r _ => r = some (.int 1)) := by
  refine e0 ?_
  refine s0_0 ?_
  refine s0_1 ?_
  refine s0_3 ?_
  have hx := own_nn a
  generalize a &&& 2147483647 = x at hx
  refine s0_4 rfl ?_
  refine s0_5 ?_
  refine s0_6 ?_
  refine s0_8 ?_
  have hy := own_nn b
  generalize b &&& 2147483647 = y at hy
  refine s0_9 rfl ?_
  refine s0_10 ?_
  refine s0_11 ?_
  refine s0_12 ?_
  refine s0_13 (own_minM _ _ _) rfl ?_
  refine s0_16 (own_maxM _ _ _) rfl ?_
  generalize hf : own_max 1 (own_min x y) = f
  refine s0_19 rfl ?_
  refine s0_21 ?_
  refine s0_23 ?_
  refine s0_24 ?_
  refine s0_25 (own_maxM _ _ _) rfl ?_
  refine s0_28 (own_maxM _ _ _) rfl ?_
  generalize hl : own_max f (own_max x y) = l
  obtain ⟨g1, g2⟩ := own_bounds hx hy hf hl
  have o : (1 : Int32).toInt = 1 := by decide
  have n1 : ¬ f < 1 := by rw [Int32.lt_iff_toInt_lt, o]; omega
  have n2 : ¬ l < f := by rw [Int32.lt_iff_toInt_lt]; omega
  have n3 : ¬ l < 1 := by rw [Int32.lt_iff_toInt_lt, o]; omega
  have r1 := rng32 l
  have c1 : (l - f + 1).toInt = l.toInt - f.toInt + 1 := by
    have h1 := c_isub l f; have h2 := c_iadd (l - f) 1; have h3 := rng32 (l - f); have h4 := rng32 (l - f + 1)
    rw [o] at h2; omega
  have c2 : l - 1 + 1 = l := Int32.sub_add_cancel l 1
  refine s0_31 rfl ?_
  refine s0_33 0 rfl rfl ?_
  refine s0_36 rfl ?_
  refine s0_37 ?_
  refine s0_39 ?_
  refine s0_41 (own_init _ _ _ _ rfl n1 n2) rfl ?_
  refine s0_44 rfl ?_
  refine s0_46 ?_
  refine s0_48 rfl (own_count _ _ _ _ rfl) rfl ?_
  generalize l - f + 1 = c at c1
  refine s0_51 rfl ?_
  refine s0_53 1 rfl rfl ?_
  refine s0_56 rfl ?_
  refine s0_57 ?_
  refine s0_58 ?_
  refine s0_60 (own_init _ _ _ _ rfl (by decide) n3) rfl ?_
  refine s0_63 rfl ?_
  refine s0_65 ?_
  refine s0_67 rfl (own_count _ _ _ _ rfl) rfl ?_
  rw [c2]
  refine s0_70 rfl ?_
  refine s0_72 ?_
  refine s0_74 ?_
  refine s0_75 (fun h => absurd h ?_) (fun _ => ?_)
  · rw [Int32.lt_iff_toInt_lt, o]; omega
  refine s0_78 ?_
  refine s0_80 ?_
  refine s0_82 (fun h => absurd h ?_) (fun _ => ?_)
  · rw [Int32.lt_iff_toInt_lt]; omega
  refine s0_85 ?_
  refine s0_87 ?_
  refine s0_88 ?_
  refine s0_90 ?_
  refine s0_91 ?_
  refine s0_92 ?_
  refine s0_93 ?_
  refine s0_94 ?_
  refine s0_96 ?_
  refine s0_97c (fun h => absurd ?_ h) (fun _ => ?_)
  · apply Int64.toInt_inj.mp
    have k1 : (1 : Int64).toInt = 1 := by decide
    have h1 := c_ladd f.toInt64 c.toInt64; have h2 := c_lsub (f.toInt64 + c.toInt64) 1
    rw [Int32.toInt_toInt64, Int32.toInt_toInt64] at h1
    rw [k1] at h2
    rw [Int32.toInt_toInt64]
    have h3 := rng64 (f.toInt64 + c.toInt64); have h4 := rng64 (f.toInt64 + c.toInt64 - 1)
    omega
  refine s0_101 ?_
  refine s0_103 ?_
  refine s0_105 (fun h => absurd rfl h) (fun _ => ?_)
  refine s0_108 ?_
  refine s0_109 ?_
  exact s0_113 rfl
set_option maxRecDepth 65536 in
set_option maxHeartbeats 4000000 in
theorem comes_1 {Post : Tables → Env → Array Value → State → Outcome → State → Prop} (hpost : ∀ tb e args s v u, (limb_1_1.after args s (.returned v) u = true ∧ limb_1_2.after args s (.returned v) u = true ∧ True) → FrameEnd s (.returned v) u (Jvm.fieldLocs frame_1_writes args s ++ Jvm.arrayLocs frame_1_arrays args s ++ Jvm.staticLocs frame_1_statics s) 16 128 → Post tb e args s (.returned v) u) :
    ArmFor flags0 classFile x code maxLocals ret World_1 tables_1 room_1 Calls_1 rest_1 Pre_1 Post := by
  intro l hfl _ _ p e ha hc hk s m args below hf hA hF happ hP
  obtain ⟨hcalls, hrest, hpre⟩ := hP
  obtain ⟨-, -, -, hnamed, -, -, -, hat⟩ := (Spec.applies_iff hf).mp happ
  obtain ⟨hg, hn⟩ := and_e (Cond.before_iff.mp (show (Jvm.Cond.and given_1 narrow_1).before args s = true from hpre))
  obtain ⟨hg0, hg⟩ := and_e hg
  obtain ⟨hk0, hg⟩ := and_e hg
  have hk1 := hg
  obtain ⟨w0, w1, rfl⟩ : ∃ w0 w1 : Value, args = #[w0, w1] := by
    have hs : args.size = 2 := by simpa [Cond.value, given_1] using hg0
    obtain ⟨L⟩ := args
    match L, hs with
    | [w0, w1], _ => exact ⟨w0, w1, rfl⟩
  have hw := fun d (hd : d ∈ tables_1) => atoms_spec (ws := Jvm.Cond.code x code maxLocals ret :: tables_1) hat d (List.mem_cons_of_mem _ hd)
  obtain ⟨i0, e0⟩ := is_v hk0
  obtain rfl : w0 = (.int i0) := Option.some.inj e0
  obtain ⟨i1, e1⟩ := is_v hk1
  obtain rfl : w1 = (.int i1) := Option.some.inj e1
  obtain ⟨n, o, h1, h2, h3, _, L, rfl, ⟨v', H', rfl, hR, rfl, N⟩, hq⟩ := law_ok i0 i1 s _ hw l s.heap tables_1 (Rel.start s KT) p e ha hc hk s m _ below hf ((Spec.applies_iff_loose hf).mp happ).1 ⟨rfl, State.Warmed39.refl s, rfl⟩ trivial
  refine ⟨n, _, h1, h2, h3, hpost _ _ _ _ _ _ ⟨Cond.after_iff.mpr rfl, Cond.after_iff.mpr (eq_i res_at (Term.int_eval (1)) rfl), trivial⟩ ⟨hq.1, hq.2.1, (hq.2.2.sift fun y hy => Or.inr (N y hy)).mono (by decide) (by decide)⟩⟩
theorem main_1_1 : Claimed_1_1 := comes_1 fun _ _ _ _ _ _ h hF => ⟨h.1, hF⟩
theorem main_1_2 : Claimed_1_2 := comes_1 fun _ _ _ _ _ _ h hF => ⟨h.2.1, hF⟩
end Jvm.Pilot.@@N@@
namespace Jvm.Pilot.@@N@@
open Jvm Jvm.ClassFile Sem Op Lib Jvm.Free Jvm.Stand Jvm.Pilot.@@N@@.Jvm.D
/-! MADE BY PROGRAM (witnessworld.py) out of the Statement's table words and the real class files: 11 classes; the members and pool entries that the words name. The judged class is class 1, her method 1. -/
namespace start1
open Jvm.ClassFile
def u (s : String) : CpInfo := .utf8 (stringToUtf16 s)
/-- a pool by its gaps: so many unusable entries, then the entry; so many at the end -/
def gap : Nat → List CpInfo → List CpInfo
  | 0, r => r
  | n + 1, r => .unusable :: gap n r
def poolList (es : List (Nat × CpInfo)) (last : Nat) : List CpInfo := es.foldr (fun e r => gap e.1 (e.2 :: r)) (gap last [])
def pool (es : List (Nat × CpInfo)) (last : Nat) : Array CpInfo := ⟨poolList es last⟩
def fileOf (pool : Array CpInfo) (this : Nat) (attrs : Array Attribute := #[]) (ms : Array MethodInfo := #[]) (fl : Nat := 33) (sup : Nat := 0) (ifs : Array Nat := #[]) (fds : Array FieldInfo := #[]) : ClassFile where
  minorVersion := 0
  majorVersion := 65
  constantPool := pool
  accessFlags := fl
  thisClass := this
  superClass := sup
  interfaces := ifs
  fields := fds
  methods := ms
  attributes := attrs
def plain (name : String) (sup : Option ClassId) : Class where
  name := name
  kind := .ordinary
  loader := none
  accessFlags := 33
  super := sup
  interfaces := #[]
  cf := none
  fields := #[]
  methods := #[]
  instanceTypes := #[]
  staticTypes := #[]
  resolved := #[]
  callSites := []
  init := .initialized
  statics := none
  mirror := none

def pool0 : Array CpInfo := pool [(5, u "<init>"), (0, u "()V"), (1, .class_ 10), (1, u "java/lang/Object")] 113

def k0c0 : Code := { maxStack := 0, maxLocals := 1, code := object_method_1_code, exceptionTable := #[], attributes := #[] }
def k0m0 : Method := { name := "<init>", desc := "()V", sig := { parameters := [], returnType := none }, accessFlags := 1, code := some k0c0 }
/-- java/lang/Object -/
def k0 : Class := { plain "java/lang/Object" none with
  accessFlags := 33
  interfaces := #[]
  cf := some (fileOf pool0 8 #[] #[{ accessFlags := 1, nameIndex := 5, descriptorIndex := 6, attributes := #[] }] 33 0 #[] #[])
  fields := #[]
  methods := #[k0m0]
  instanceTypes := #[]
  staticTypes := #[]
  resolved := Array.replicate 124 none
  statics := none }

def pool1 : Array CpInfo := pool [(2, .class_ 4), (1, u "java/lang/Object"), (0, u "<init>"), (0, u "()V"), (0, .integer 2147483647), (0, .methodref 9 10), (0, .class_ 11), (0, .nameAndType 12 13), (0, u "java/lang/Math"), (0, u "min"), (0, u "(II)I"), (0, .methodref 9 15), (0, .nameAndType 16 13), (0, u "max"), (0, .class_ 18), (0, u "com/example/quorate/quorate/cluster/ClientIds"), (0, .methodref 17 20), (0, .nameAndType 5 21), (0, u "(II)V"), (0, .methodref 17 23), (0, .nameAndType 24 25), (0, u "count"), (0, u "()I"), (0, .class_ 27), (0, u "com/example/quorate/quorate/cluster/ClientIdsCountPinLaw"), (2, u "law"), (0, u "(II)Z")] 3

def k1m0 : Method := { name := "<init>", desc := "()V", sig := { parameters := [], returnType := none }, accessFlags := 2, code := none }
def k1c1 : Code := { maxStack := 4, maxLocals := 10, code := code, exceptionTable := #[], attributes := #[] }
def k1m1 : Method := { name := "law", desc := "(II)Z", sig := { parameters := [.int, .int], returnType := some .boolean }, accessFlags := 9, code := some k1c1 }
/-- com/example/quorate/quorate/cluster/ClientIdsCountPinLaw -/
def k1 : Class := { plain "com/example/quorate/quorate/cluster/ClientIdsCountPinLaw" (some 0) with
  accessFlags := 49
  interfaces := #[]
  cf := some (fileOf pool1 26 #[] #[{ accessFlags := 2, nameIndex := 5, descriptorIndex := 6, attributes := #[] }, { accessFlags := 9, nameIndex := 30, descriptorIndex := 31, attributes := #[] }] 49 2 #[] #[])
  fields := #[]
  methods := #[k1m0, k1m1]
  instanceTypes := #[]
  staticTypes := #[]
  resolved := Array.replicate 35 none
  statics := none }

def pool2 : Array CpInfo := pool [(1, .class_ 2), (0, u "java/lang/Math"), (1, .class_ 6), (1, u "java/lang/Object"), (0, u "<init>"), (0, u "()V"), (89, .class_ 100), (1, u "java/lang/Math$RandomNumberGeneratorHolder"), (71, u "negativeZeroFloatBits"), (0, u "J"), (2, u "negativeZeroDoubleBits"), (21, u "max"), (2, u "min"), (43, u "$assertionsDisabled"), (0, u "Z"), (88, u "(II)I"), (2, u "twoToTheDoubleScaleDown"), (0, u "D"), (4, u "twoToTheDoubleScaleUp"), (9, u "E"), (3, u "PI"), (2, u "TAU"), (2, u "DEGREES_TO_RADIANS"), (0, u "RADIANS_TO_DEGREES")] 94

def k2m0 : Method := { name := "<init>", desc := "()V", sig := { parameters := [], returnType := none }, accessFlags := 2, code := none }
def k2c1 : Code := { maxStack := 2, maxLocals := 2, code := jdk_29_method_65_code, exceptionTable := #[], attributes := #[] }
def k2m1 : Method := { name := "max", desc := "(II)I", sig := { parameters := [.int, .int], returnType := some .int }, accessFlags := 9, code := some k2c1 }
def k2c2 : Code := { maxStack := 2, maxLocals := 2, code := jdk_29_method_69_code, exceptionTable := #[], attributes := #[] }
def k2m2 : Method := { name := "min", desc := "(II)I", sig := { parameters := [.int, .int], returnType := some .int }, accessFlags := 9, code := some k2c2 }
/-- java/lang/Math -/
def k2 : Class := { plain "java/lang/Math" (some 0) with
  accessFlags := 49
  interfaces := #[]
  cf := some (fileOf pool2 1 #[.nestMembers #[98]] #[{ accessFlags := 2, nameIndex := 7, descriptorIndex := 8, attributes := #[] }, { accessFlags := 9, nameIndex := 198, descriptorIndex := 335, attributes := #[] }, { accessFlags := 9, nameIndex := 201, descriptorIndex := 335, attributes := #[] }] 49 4 #[] #[{ accessFlags := 25, nameIndex := 354, descriptorIndex := 339, attributes := #[] }, { accessFlags := 25, nameIndex := 358, descriptorIndex := 339, attributes := #[] }, { accessFlags := 25, nameIndex := 361, descriptorIndex := 339, attributes := #[] }, { accessFlags := 26, nameIndex := 364, descriptorIndex := 339, attributes := #[] }, { accessFlags := 26, nameIndex := 365, descriptorIndex := 339, attributes := #[] }, { accessFlags := 26, nameIndex := 172, descriptorIndex := 173, attributes := #[] }, { accessFlags := 26, nameIndex := 176, descriptorIndex := 173, attributes := #[] }, { accessFlags := 8, nameIndex := 344, descriptorIndex := 339, attributes := #[] }, { accessFlags := 8, nameIndex := 338, descriptorIndex := 339, attributes := #[] }, { accessFlags := 4120, nameIndex := 245, descriptorIndex := 246, attributes := #[] }])
  fields := #[{ name := "E", type := .double, accessFlags := 25, slot := 0, constantValue := 0 }, { name := "PI", type := .double, accessFlags := 25, slot := 1, constantValue := 0 }, { name := "TAU", type := .double, accessFlags := 25, slot := 2, constantValue := 0 }, { name := "DEGREES_TO_RADIANS", type := .double, accessFlags := 26, slot := 3, constantValue := 0 }, { name := "RADIANS_TO_DEGREES", type := .double, accessFlags := 26, slot := 4, constantValue := 0 }, { name := "negativeZeroFloatBits", type := .long, accessFlags := 26, slot := 5, constantValue := 0 }, { name := "negativeZeroDoubleBits", type := .long, accessFlags := 26, slot := 6, constantValue := 0 }, { name := "twoToTheDoubleScaleUp", type := .double, accessFlags := 8, slot := 7, constantValue := 0 }, { name := "twoToTheDoubleScaleDown", type := .double, accessFlags := 8, slot := 8, constantValue := 0 }, { name := "$assertionsDisabled", type := .boolean, accessFlags := 4120, slot := 9, constantValue := 0 }]
  methods := #[k2m0, k2m1, k2m2]
  instanceTypes := #[]
  staticTypes := #[.double, .double, .double, .double, .double, .long, .long, .double, .double, .boolean]
  resolved := Array.replicate 460 none
  statics := none }

def pool3 : Array CpInfo := pool [(1, .methodref 2 3), (0, .class_ 4), (0, .nameAndType 5 6), (0, u "java/lang/Object"), (0, u "<init>"), (0, u "()V"), (0, .class_ 8), (0, u "java/lang/Record")] 13

def k3c0 : Code := { maxStack := 1, maxLocals := 1, code := jdk_30_method_1_code, exceptionTable := #[], attributes := #[] }
def k3m0 : Method := { name := "<init>", desc := "()V", sig := { parameters := [], returnType := none }, accessFlags := 4, code := some k3c0 }
/-- java/lang/Record -/
def k3 : Class := { plain "java/lang/Record" (some 0) with
  accessFlags := 1057
  interfaces := #[]
  cf := some (fileOf pool3 7 #[] #[{ accessFlags := 4, nameIndex := 5, descriptorIndex := 6, attributes := #[] }] 1057 2 #[] #[])
  fields := #[]
  methods := #[k3m0]
  instanceTypes := #[]
  staticTypes := #[]
  resolved := Array.replicate 22 none
  statics := none }

def pool4 : Array CpInfo := pool [(1, .methodref 2 3), (0, .class_ 4), (0, .nameAndType 5 6), (0, u "java/lang/Record"), (0, u "<init>"), (0, u "()V"), (9, .fieldref 17 18), (0, .class_ 19), (0, .nameAndType 20 21), (0, u "com/example/quorate/quorate/cluster/ClientIds"), (0, u "first"), (0, u "I"), (0, .fieldref 17 23), (0, .nameAndType 24 21), (0, u "last"), (30, u "()I"), (2, u "(II)V"), (8, u "count")] 63

def k4c0 : Code := { maxStack := 4, maxLocals := 3, code := prog_16_method_1_code, exceptionTable := #[], attributes := #[] }
def k4m0 : Method := { name := "<init>", desc := "(II)V", sig := { parameters := [.int, .int], returnType := none }, accessFlags := 1, code := some k4c0 }
def k4c1 : Code := { maxStack := 2, maxLocals := 1, code := prog_16_method_3_code, exceptionTable := #[], attributes := #[] }
def k4m1 : Method := { name := "count", desc := "()I", sig := { parameters := [], returnType := some .int }, accessFlags := 1, code := some k4c1 }
/-- com/example/quorate/quorate/cluster/ClientIds -/
def k4 : Class := { plain "com/example/quorate/quorate/cluster/ClientIds" (some 3) with
  accessFlags := 49
  interfaces := #[]
  cf := some (fileOf pool4 17 #[] #[{ accessFlags := 1, nameIndex := 5, descriptorIndex := 58, attributes := #[] }, { accessFlags := 1, nameIndex := 67, descriptorIndex := 55, attributes := #[] }] 49 2 #[] #[{ accessFlags := 18, nameIndex := 20, descriptorIndex := 21, attributes := #[] }, { accessFlags := 18, nameIndex := 24, descriptorIndex := 21, attributes := #[] }])
  fields := #[{ name := "first", type := .int, accessFlags := 18, slot := 0, constantValue := 0 }, { name := "last", type := .int, accessFlags := 18, slot := 1, constantValue := 0 }]
  methods := #[k4m0, k4m1]
  instanceTypes := #[.int, .int]
  staticTypes := #[]
  resolved := Array.replicate 131 none
  statics := none }

def pool5 : Array CpInfo := pool [(1, u "java/lang/Cloneable"), (0, .class_ 1), (0, u "java/lang/Object"), (0, .class_ 3)] 3

/-- java/lang/Cloneable -/
def k5 : Class := { plain "java/lang/Cloneable" (some 0) with
  accessFlags := 1537
  interfaces := #[]
  cf := some (fileOf pool5 2 #[] #[] 1537 4 #[] #[])
  fields := #[]
  methods := #[]
  instanceTypes := #[]
  staticTypes := #[]
  resolved := Array.replicate 8 none
  statics := none }

def pool6 : Array CpInfo := pool [(1, u "java/io/Serializable"), (0, .class_ 1), (0, u "java/lang/Object"), (0, .class_ 3)] 3

/-- java/io/Serializable -/
def k6 : Class := { plain "java/io/Serializable" (some 0) with
  accessFlags := 1537
  interfaces := #[]
  cf := some (fileOf pool6 2 #[] #[] 1537 4 #[] #[])
  fields := #[]
  methods := #[]
  instanceTypes := #[]
  staticTypes := #[]
  resolved := Array.replicate 8 none
  statics := none }

/-- the primitive byte -/
def k7 : Class := { plain "byte" none with kind := .primitive 'B', accessFlags := 0x411 }
/-- [B -/
def k8 : Class := { plain "[B" (some 0) with kind := .array 7 .byte, interfaces := #[5, 6], accessFlags := 1041 }

/-- the primitive int -/
def k9 : Class := { plain "int" none with kind := .primitive 'I', accessFlags := 0x411 }
/-- [I -/
def k10 : Class := { plain "[I" (some 0) with kind := .array 9 .int, interfaces := #[5, 6], accessFlags := 1041 }

def heap : Heap := #[]
def classes : Array Class := #[k0, k1, k2, k3, k4, k5, k6, k7, k8, k9, k10]
def interned : List (Array UInt16 × Addr) := []
def slotsUsed : Nat := 0
def theMethod : MethodId := ⟨1, 1⟩
def args0 : Array Value := #[.int 5, .int 3]
def aboutOver (below : List Frame) : State where
  vm := { classes := classes, interned := interned.toArray }
  heap := heap
  slotsUsed := slotsUsed
  threads := #[{ frames := .invoking theMethod args0 :: below }]
def below0 : List Frame := [.native { method := ⟨0, 0⟩, args := #[] }]
def about1 : State := aboutOver below0
def p0 : Program := .bare "" "" ""
def e0 : Env := launch0.env 0 0 0
theorem w_frames : about1.frames = Frame.invoking theMethod args0 :: below0 := rfl
set_option maxRecDepth 65536 in
theorem w_args : argsFit about1.vm theMethod args0 = true := by decide +kernel
set_option maxRecDepth 65536 in
theorem w_heap : heapFits about1 = true := by decide +kernel
set_option maxRecDepth 65536 in
theorem w_runnable : about1.curStatus? = some .runnable := by decide +kernel
set_option maxRecDepth 65536 in
theorem w_alone : about1.alone = true := by decide +kernel
set_option maxRecDepth 65536 in
theorem w_named : about1.methodNamed? x = some theMethod := by decide +kernel
set_option maxRecDepth 65536 in
theorem w_hears : about1.hears theMethod below0 = true := by decide +kernel
set_option maxRecDepth 65536 in
theorem w_ripe : about1.ripe theMethod args0 below0 = true := by decide +kernel
theorem w_running : about1.status = .running := rfl
set_option maxRecDepth 65536 in
theorem w_room : about1.hasRoom e0.platform room_1 = true :=
  launch0.hasRoom_least _ room_1 (by decide +kernel) (by decide +kernel) (by decide +kernel) (by decide +kernel) (by decide +kernel) (by decide +kernel)
theorem allAtoms_all (ts : List Jvm.Cond) (a : Array Jvm.Value) (st : Jvm.State) : (allAtoms ts).before a st = ts.all (fun c => c.before a st) := by
  induction ts with
  | nil => rfl
  | cons c t ih =>
    show (Jvm.Cond.and c (allAtoms t)).before a st = _
    rw [Jvm.Cond.before_and, ih, List.all_cons]
def words1 : List Jvm.Cond := Jvm.Cond.code x code maxLocals ret :: tables_1
/-- a 'code' word, met by the world's own term for the bytes: nothing is compared byte by byte -/
theorem code_word {y : MethodName} {bytes : ByteArray} {mx : Nat} {rt : Option FieldType} {a : Array Value} {s : State} {m : MethodId} {meth : Method} {c : Code} (h1 : s.methodNamed? y = some m) (h2 : s.vm.method? m = some meth) (h3 : meth.code = some c) (h4 : c.code = bytes)
    (h5 : (c.maxLocals == mx && c.exceptionTable.isEmpty && decide (c.maxStack ≤ mostOperands) && decide (meth.sig.returnType = rt) && !meth.locks && decide (parseMethodDescriptor y.desc = some meth.sig)) = true) : (Jvm.Cond.code y bytes mx rt).before a s = true := by
  simp only [Bool.and_eq_true, beq_iff_eq, Bool.not_eq_true', decide_eq_true_eq] at h5
  obtain ⟨⟨⟨⟨⟨g1, g2⟩, g3⟩, g4⟩, g5⟩, g6⟩ := h5
  simp [Cond.before, Cond.holds, Cond.value, h1, h2, h3, h4, g1, g2, g3, g4, g5, g6]
def isCode : Jvm.Cond → Bool
  | .code _ _ _ _ => true
  | _ => false
theorem all_split {L : List Jvm.Cond} {P : Jvm.Cond → Bool} (h1 : L.all (fun c => isCode c || P c) = true) (h2 : ∀ c ∈ L.filter isCode, P c = true) : L.all P = true := by
  refine List.all_eq_true.mpr fun c hc => ?_
  have h := List.all_eq_true.mp h1 c hc
  rcases Bool.eq_false_or_eq_true (isCode c) with hi | hi
  · exact h2 c (List.mem_filter.mpr ⟨hc, hi⟩)
  · simpa [hi] using h
set_option maxRecDepth 65536 in
theorem w_c0 : (Jvm.Cond.code x code maxLocals ret).before args0 about1 = true := code_word (m := ⟨1, 1⟩) (meth := k1m1) (c := k1c1) (by decide +kernel) rfl rfl rfl (by decide +kernel)
set_option maxRecDepth 65536 in
theorem w_c1 : (Jvm.Cond.code ({ cls := "java/lang/Math", name := "min", desc := "(II)I" } : Jvm.MethodName) jdk_29_method_69_code (2 : Nat) (Option.some Jvm.ClassFile.FieldType.int)).before args0 about1 = true := code_word (m := ⟨2, 2⟩) (meth := k2m2) (c := k2c2) (by decide +kernel) rfl rfl rfl (by decide +kernel)
set_option maxRecDepth 65536 in
theorem w_c2 : (Jvm.Cond.code ({ cls := "java/lang/Math", name := "max", desc := "(II)I" } : Jvm.MethodName) jdk_29_method_65_code (2 : Nat) (Option.some Jvm.ClassFile.FieldType.int)).before args0 about1 = true := code_word (m := ⟨2, 1⟩) (meth := k2m1) (c := k2c1) (by decide +kernel) rfl rfl rfl (by decide +kernel)
set_option maxRecDepth 65536 in
theorem w_c3 : (Jvm.Cond.code ({ cls := "com/example/quorate/quorate/cluster/ClientIds", name := "<init>", desc := "(II)V" } : Jvm.MethodName) prog_16_method_1_code (3 : Nat) (Option.none : Option Jvm.ClassFile.FieldType)).before args0 about1 = true := code_word (m := ⟨4, 0⟩) (meth := k4m0) (c := k4c0) (by decide +kernel) rfl rfl rfl (by decide +kernel)
set_option maxRecDepth 65536 in
theorem w_c4 : (Jvm.Cond.code ({ cls := "java/lang/Record", name := "<init>", desc := "()V" } : Jvm.MethodName) jdk_30_method_1_code (1 : Nat) (Option.none : Option Jvm.ClassFile.FieldType)).before args0 about1 = true := code_word (m := ⟨3, 0⟩) (meth := k3m0) (c := k3c0) (by decide +kernel) rfl rfl rfl (by decide +kernel)
set_option maxRecDepth 65536 in
theorem w_c5 : (Jvm.Cond.code ({ cls := "java/lang/Object", name := "<init>", desc := "()V" } : Jvm.MethodName) object_method_1_code (1 : Nat) (Option.none : Option Jvm.ClassFile.FieldType)).before args0 about1 = true := code_word (m := ⟨0, 0⟩) (meth := k0m0) (c := k0c0) (by decide +kernel) rfl rfl rfl (by decide +kernel)
set_option maxRecDepth 65536 in
theorem w_c6 : (Jvm.Cond.code ({ cls := "com/example/quorate/quorate/cluster/ClientIds", name := "count", desc := "()I" } : Jvm.MethodName) prog_16_method_3_code (1 : Nat) (Option.some Jvm.ClassFile.FieldType.int)).before args0 about1 = true := code_word (m := ⟨4, 1⟩) (meth := k4m1) (c := k4c1) (by decide +kernel) rfl rfl rfl (by decide +kernel)
def codes1 : List Jvm.Cond := [Jvm.Cond.code x code maxLocals ret, Jvm.Cond.code ({ cls := "java/lang/Math", name := "min", desc := "(II)I" } : Jvm.MethodName) jdk_29_method_69_code (2 : Nat) (Option.some Jvm.ClassFile.FieldType.int), Jvm.Cond.code ({ cls := "java/lang/Math", name := "max", desc := "(II)I" } : Jvm.MethodName) jdk_29_method_65_code (2 : Nat) (Option.some Jvm.ClassFile.FieldType.int), Jvm.Cond.code ({ cls := "com/example/quorate/quorate/cluster/ClientIds", name := "<init>", desc := "(II)V" } : Jvm.MethodName) prog_16_method_1_code (3 : Nat) (Option.none : Option Jvm.ClassFile.FieldType), Jvm.Cond.code ({ cls := "java/lang/Record", name := "<init>", desc := "()V" } : Jvm.MethodName) jdk_30_method_1_code (1 : Nat) (Option.none : Option Jvm.ClassFile.FieldType), Jvm.Cond.code ({ cls := "java/lang/Object", name := "<init>", desc := "()V" } : Jvm.MethodName) object_method_1_code (1 : Nat) (Option.none : Option Jvm.ClassFile.FieldType), Jvm.Cond.code ({ cls := "com/example/quorate/quorate/cluster/ClientIds", name := "count", desc := "()I" } : Jvm.MethodName) prog_16_method_3_code (1 : Nat) (Option.some Jvm.ClassFile.FieldType.int)]
set_option maxRecDepth 65536 in
theorem codes_eq : words1.filter isCode = codes1 := rfl
theorem w_codes : ∀ c ∈ words1.filter isCode, c.before args0 about1 = true := by
  rw [codes_eq]
  intro c hc
  simp only [codes1, List.mem_cons, List.not_mem_nil, or_false] at hc
  rcases hc with rfl | rfl | rfl | rfl | rfl | rfl | rfl
  · exact w_c0
  · exact w_c1
  · exact w_c2
  · exact w_c3
  · exact w_c4
  · exact w_c5
  · exact w_c6
set_option maxRecDepth 65536 in
theorem w_t1 : (words1.take 24).all (fun c => isCode c || c.before args0 about1) = true := by decide +kernel
set_option maxRecDepth 65536 in
theorem w_t2 : (words1.drop 24).all (fun c => isCode c || c.before args0 about1) = true := by decide +kernel
theorem w_tables : (allAtoms (Jvm.Cond.code x code maxLocals ret :: tables_1)).before args0 about1 = true := by
  rw [allAtoms_all]
  show words1.all (fun c => c.before args0 about1) = true
  refine all_split ?_ w_codes
  rw [← List.take_append_drop 24 words1, List.all_append, w_t1, w_t2]
  rfl
set_option maxRecDepth 65536 in
theorem w_case : (Jvm.Cond.and given_1 narrow_1).before args0 about1 = true := by decide +kernel
theorem w_applies : (headSpec (Jvm.Cond.code x code maxLocals ret :: tables_1) room_1).applies x e0.platform about1 = true :=
  (Spec.applies_iff w_frames).mpr ⟨w_running, w_runnable, w_alone, w_named, w_hears, w_ripe, w_room, w_tables⟩
theorem atStart : AtStart classFile x code maxLocals ret World_1 tables_1 room_1 Calls_1 rest_1 Pre_1 launch0 p0 e0 about1 theMethod args0 below0 :=
  ⟨lists_1, trivial, launch0.admits_env _ _ _, launch0.least_env, fairChoices_fair.cas, fairChoices_fair.clock, w_frames, w_args, w_heap, w_applies, trivial, trivial, w_case⟩
end start1
theorem witness_1 : WitnessClaimed_1 := ⟨start1.p0, start1.e0, start1.about1, start1.theMethod, start1.args0, start1.below0, start1.atStart⟩
end Jvm.Pilot.@@N@@

import JvmDerived
import JvmDerived.Pilot.@@N@@Statement
import JvmDerived.Pilot.@@N@@Code
set_option linter.unusedVariables false
set_option linter.unusedSimpArgs false
@@BLOCK:NumsL.lean.txt@@
@@BLOCK:Masks.lean.txt@@
@@BLOCK:Nums.lean.txt@@
namespace Jvm.Pilot.@@N@@
open Jvm Jvm.ClassFile Sem Op Lib Jvm.Free Jvm.Stand Jvm.LawKit Jvm.RoadKit Bundle Jvm.Pilot.@@N@@.Jvm.D
section Own
variable {p : Program} {l : Launch} {e : Env} {R : Room} {s : State} {m : MethodId} {args : Array Value} {below : List Frame} {meth : Method} {c : Code} {T T' : State} {locs : List Loc} {cells slots : Nat} {Z : State} {h h' : Heap} {n0 : Nat} {a0 : Array Value} {CC SS : Nat} {Q : Option Value → Heap → List Loc → Prop} {g g' : JFrame} {pc : Nat} {Ls : Array Slot} {rest st : List Value}
/-- from here the run comes to its end, and Q holds there -/
def own_Run (p : Program) (e : Env) (below : List Frame) (s : State) (CC SS : Nat) (Q : Option Value → Heap → List Loc → Prop) (T : State) (g : JFrame) : Prop :=
  ∃ s₂ o, Steps p.tables e below (T.setTop g) s₂ ∧ s₂.status = .running ∧ Ended s₂ below o ∧ ∃ v L, o = .returned v ∧ Q v s₂.heap L ∧ FrameEnd s o s₂ L CC SS
theorem own_run (sp : ∀ t, Steps p.tables e below (T'.setTop g') t → Steps p.tables e below (T.setTop g) t) (r : own_Run p e below s CC SS Q T' g') : own_Run p e below s CC SS Q T g := by
  obtain ⟨s₂, o, h1, r⟩ := r; exact ⟨s₂, o, sp _ h1, r⟩
theorem own_enter {ml : Nat} (q : entryFrame m args ml = g) (r : own_Run p e below s CC SS Q T g) : ∃ s₂ o, Steps p.tables e below (T.setTop (entryFrame m args ml)) s₂ ∧ s₂.status = .running ∧ Ended s₂ below o ∧ ∃ v L, o = .returned v ∧ Q v s₂.heap L ∧ FrameEnd s o s₂ L CC SS := by rw [q]; exact r
theorem own_retN {t : FieldType} {z : Int32} (X : Stand p l e R s m args below meth c T locs cells slots) (hx : p.tables.exec = Jvm.exec) (hlk : meth.locks = false) (hret : meth.sig.returnType = some t) (ht : t = .boolean ∨ t = .byte ∨ t = .char ∨ t = .short) (hd : decode c.code pc = .ok (.ireturn, 1)) (hc : cells ≤ CC) (hs : slots ≤ SS) (q : Q (some (.int (nar t z))) T.heap locs) : own_Run p e below s CC SS Q T (mkF m pc Ls (.int z :: rest)) := by
  obtain ⟨fs, hr, hrun, hended, hW, hsame⟩ := X.leave (v := some (.int (nar t z))) (fun h => by rw [hret] at h; cases h) hlk
  exact ⟨_, _, retN X hx hret ht hd hr, hrun, hended, _, _, rfl, q, ⟨_, rfl⟩, hW, hsame.mono hc hs⟩
theorem own_retI {z : Int32} (X : Stand p l e R s m args below meth c T locs cells slots) (hx : p.tables.exec = Jvm.exec) (hlk : meth.locks = false) (hret : meth.sig.returnType = some .int) (hd : decode c.code pc = .ok (.ireturn, 1)) (hc : cells ≤ CC) (hs : slots ≤ SS) (q : Q (some (.int z)) T.heap locs) : own_Run p e below s CC SS Q T (mkF m pc Ls (.int z :: rest)) := by
  obtain ⟨fs, hr, hrun, hended, hW, hsame⟩ := X.leave (v := some (.int z)) (fun h => by rw [hret] at h; cases h) hlk
  refine ⟨_, _, ?_, hrun, hended, _, _, rfl, q, ⟨_, rfl⟩, hW, hsame.mono hc hs⟩
  have hm' : T.vm.method? m = some meth := X.method'
  have hn : narrow .int (.int z) = .int z := rfl
  show Steps p.tables e below (T.setTop { method := m, pc := pc, locals := Ls, stack := _ :: rest, locked := none }) _
  jvm_step X.here [X.here.top, hx, hd, hm', hret, hn]
  first | (intro acts; rw [hr _ acts rfl rfl rfl]) | rw [hr _ _ rfl rfl rfl]
  exact Steps.refl _
theorem own_retL {z : Int64} (X : Stand p l e R s m args below meth c T locs cells slots) (hx : p.tables.exec = Jvm.exec) (hlk : meth.locks = false) (hret : meth.sig.returnType = some .long) (hd : decode c.code pc = .ok (.lreturn, 1)) (hc : cells ≤ CC) (hs : slots ≤ SS) (q : Q (some (.long z)) T.heap locs) : own_Run p e below s CC SS Q T (mkF m pc Ls [.long z]) := by
  obtain ⟨fs, hr, hrun, hended, hW, hsame⟩ := X.leave (v := some (.long z)) (fun h => by rw [hret] at h; cases h) hlk
  exact ⟨_, _, X.lreturnOut hx hret hd hr, hrun, hended, _, _, rfl, q, ⟨_, rfl⟩, hW, hsame.mono hc hs⟩
theorem own_retV (X : Stand p l e R s m args below meth c T locs cells slots) (hx : p.tables.exec = Jvm.exec) (hlk : meth.locks = false) (hret : meth.sig.returnType = none) (hd : decode c.code pc = .ok (.return_, 1)) (hc : cells ≤ CC) (hs : slots ≤ SS) (q : Q none T.heap locs) : own_Run p e below s CC SS Q T (mkF m pc Ls []) := by
  obtain ⟨fs, hr, hrun, hended, hW, hsame⟩ := X.leave (v := none) (fun _ => rfl) hlk
  exact ⟨_, _, X.returnOut hx hret hd hr, hrun, hended, _, _, rfl, q, ⟨_, rfl⟩, hW, hsame.mono hc hs⟩
theorem own_retR {v : Value} {t : FieldType} (X : Stand p l e R s m args below meth c T locs cells slots) (hx : p.tables.exec = Jvm.exec) (hlk : meth.locks = false) (hret : meth.sig.returnType = some t) (ht : t.isReference = true) (hv : v.isRef = true) (hd : decode c.code pc = .ok (.areturn, 1)) (hc : cells ≤ CC) (hs : slots ≤ SS) (q : Q (some v) T.heap locs) : own_Run p e below s CC SS Q T (mkF m pc Ls (v :: rest)) := by
  obtain ⟨fs, hr, hrun, hended, hW, hsame⟩ := X.leave (v := some v) (fun h => by rw [hret] at h; cases h) hlk
  refine ⟨_, _, ?_, hrun, hended, _, _, rfl, q, ⟨_, rfl⟩, hW, hsame.mono hc hs⟩
  have hm' : T.vm.method? m = some meth := X.method'
  show Steps p.tables e below (T.setTop { method := m, pc := pc, locals := Ls, stack := _ :: rest, locked := none }) _
  jvm_step X.here [X.here.top, hx, hd, hm', hret, ht, hv]
  first | (intro acts; rw [hr _ acts rfl rfl rfl]) | rw [hr _ _ rfl rfl rfl]
  exact Steps.refl _
theorem own_clt {x y : Int64} (q : x < y) : ifCond.holds .lt (XT.cmpL x y) = true ∧ ifCond.holds .ge (XT.cmpL x y) = false := by
  have q' : XT.cmpL x y < 0 := (lw_lt x y).mpr q
  exact ⟨(if0 _ _).trans (tlt q').1, (if0 _ _).trans (tlt q').2.1⟩
theorem own_cnlt {x y : Int64} (q : ¬ x < y) : ifCond.holds .lt (XT.cmpL x y) = false ∧ ifCond.holds .ge (XT.cmpL x y) = true := by
  have q' : ¬ XT.cmpL x y < 0 := fun z => q ((lw_lt x y).mp z)
  exact ⟨(if0 _ _).trans (flt q').1, (if0 _ _).trans (flt q').2.1⟩
theorem own_cgt {x y : Int64} (q : y < x) : ifCond.holds .gt (XT.cmpL x y) = true ∧ ifCond.holds .le (XT.cmpL x y) = false := by
  have q' : 0 < XT.cmpL x y := (lw_gt x y).mpr q
  exact ⟨(if0 _ _).trans (tlt q').2.2.1, (if0 _ _).trans (tlt q').2.2.2⟩
theorem own_cngt {x y : Int64} (q : ¬ y < x) : ifCond.holds .gt (XT.cmpL x y) = false ∧ ifCond.holds .le (XT.cmpL x y) = true := by
  have q' : ¬ 0 < XT.cmpL x y := fun z => q ((lw_gt x y).mp z)
  exact ⟨(if0 _ _).trans (flt q').2.2.1, (if0 _ _).trans (flt q').2.2.2⟩
theorem own_ceq {x y : Int64} (q : x = y) : ifCond.holds .eq (XT.cmpL x y) = true ∧ ifCond.holds .ne (XT.cmpL x y) = false := by
  have q' : XT.cmpL x y = 0 := (lw_eq x y).mpr q
  exact ⟨(if0 _ _).trans (teq q').1, (if0 _ _).trans (teq q').2⟩
theorem own_cneq {x y : Int64} (q : ¬ x = y) : ifCond.holds .eq (XT.cmpL x y) = false ∧ ifCond.holds .ne (XT.cmpL x y) = true := by
  have q' : ¬ XT.cmpL x y = 0 := fun z => q ((lw_eq x y).mp z)
  exact ⟨(if0 _ _).trans (feq q').1, (if0 _ _).trans (feq q').2⟩
theorem own_rem (x y : Int32) : x - (x / y) * y = x % y := by
  have a := (x % y).toInt_lt; have b := (x % y).le_toInt
  rw [Int32.toInt_mod] at a b
  apply Int32.toInt_inj.mp
  rw [Int32.toInt_mod, Int32.toInt_sub, Int32.toInt_mul, Int32.toInt_div, Int.bmod_mul_bmod, Int.sub_bmod_bmod, Int.mul_comm, ← Int.tmod_def]
  exact Jvm.Kit.bmod32 b a
theorem own_irem {tb : Tables} [Ours tb] {e : Env} {below : List Frame} {T target : State} {m : MethodId} {c : Code} {g : JFrame} (h : At T m c below) (hx : tb.exec = Jvm.exec) (hg : g.method = m) {x y : Int32} {rest : List Value} (hd : decode c.code g.pc = .ok (.irem, 1)) (hs : g.stack = .int y :: .int x :: rest) (hy : y ≠ 0)
    (hr : Steps tb e below (T.setTop { g with pc := g.pc + 1, stack := .int (x % y) :: rest }) target) : Steps tb e below (T.setTop g) target := XS.irem h hx hg hd hs hy (by rw [own_rem]; exact hr)
theorem own_ldcI {own : String} {index : Nat} {x : Int32} (X : Stand p l e R s m args below meth c T locs cells slots) (hx : p.tables.exec = Jvm.exec) (hZ : Z.Warmed39 s.vm) (hown : s.vm.findClass own = some m.cls) (w : (Cond.constant own index x).before a0 Z = true) (hd : decode c.code pc = .ok (.ldc index, 2)) (k : own_Run p e below s CC SS Q T (mkF m (pc + 2) Ls (.int x :: rest))) : own_Run p e below s CC SS Q T (mkF m pc Ls rest) :=
  own_run (X.ldcInt hx hown (mvT hZ w) (g := mkF m pc Ls rest) rfl hd) k
theorem own_ldcwI {own : String} {index : Nat} {x : Int32} (X : Stand p l e R s m args below meth c T locs cells slots) (hx : p.tables.exec = Jvm.exec) (hZ : Z.Warmed39 s.vm) (hown : s.vm.findClass own = some m.cls) (w : (Cond.constant own index x).before a0 Z = true) (hd : decode c.code pc = .ok (.ldc_w index, 3)) (k : own_Run p e below s CC SS Q T (mkF m (pc + 3) Ls (.int x :: rest))) : own_Run p e below s CC SS Q T (mkF m pc Ls rest) :=
  own_run (X.ldcwInt hx hown (mvT hZ w) (g := mkF m pc Ls rest) rfl hd) k
theorem own_ldcL {own : String} {index : Nat} {x : Int64} (X : Stand p l e R s m args below meth c T locs cells slots) (hx : p.tables.exec = Jvm.exec) (hZ : Z.Warmed39 s.vm) (hown : s.vm.findClass own = some m.cls) (w : (Cond.constantLong own index x).before a0 Z = true) (hd : decode c.code pc = .ok (.ldc2_w index, 3)) (k : own_Run p e below s CC SS Q T (mkF m (pc + 3) Ls (.long x :: rest))) : own_Run p e below s CC SS Q T (mkF m pc Ls rest) :=
  own_run (X.ldc2Long hx hown (mvT hZ w) (g := mkF m pc Ls rest) rfl hd) k
/-- an array of ints or bytes: its length and what it holds -/
def own_A (Z : State) (h : Heap) (a : Addr) (ty : FieldType) (n : Int32) (xs : List Int32) : Prop :=
  xs.length = n.toNatClampNeg ∧ ∃ k, Arv Z h a k ty n (xs.map Value.int) (.int (0 : Int32))
variable {a b : Addr} {ty : FieldType} {n j x : Int32} {xs ys : List Int32} {sl : Nat} {v : Value} {ws : List Addr}
theorem own_A.lt (A : own_A Z h a ty n xs) : a < h.size := by obtain ⟨-, k, V⟩ := A; exact V.lt
theorem own_A.ext (A : own_A Z h a ty n xs) (E : Ext h h') : own_A Z h' a ty n xs := ⟨A.1, A.2.imp fun _ V => V.ext E⟩
theorem own_A.other (A : own_A Z h b ty n xs) (W : Wr h h' a sl v) (q : b ≠ a) : own_A Z h' b ty n xs := ⟨A.1, A.2.imp fun _ V => V.other W q⟩
theorem own_A.keep (A : own_A Z h a ty n xs) (K : Keep h h' ws) (q : a ∉ ws) : own_A Z h' a ty n xs := ⟨A.1, A.2.imp fun _ V => V.keep K q⟩
theorem own_A.nn (A : own_A Z h a ty n xs) : ¬ n < 0 := by obtain ⟨-, k, cl, -, -, -, q, -⟩ := A; exact q
theorem own_A.to (A : own_A Z h a ty n xs) (q : xs = ys) : own_A Z h a ty n ys := q ▸ A
theorem own_lt_clamp {j n : Int32} (hj : ¬ j < 0 ∧ j < n) : j.toNatClampNeg < n.toNatClampNeg := by
  obtain ⟨q1, q2⟩ := hj
  rw [Int32.lt_iff_toInt_lt] at q1 q2
  have e0 : (0 : Int32).toInt = 0 := rfl
  simp only [Int32.toNatClampNeg] at *; omega
theorem own_newA {aty : ArrayType} {cap : Nat} (X : Stand p l e R s m args below meth c T locs cells slots) (hx : p.tables.exec = Jvm.exec) (hZ : Z.Warmed39 s.vm) (w : (Cond.arrayClass (newarray.typeOf aty)).before a0 Z = true) (hty : newarray.typeOf aty = ty) (hdv : defaultValue ty = .int 0) (eT : T.heap = h) (hd : decode c.code pc = .ok (.newarray aty, 2)) (hn : ¬ n < 0) (hcap : n.toNatClampNeg ≤ cap) (hb : cap * 8 ≤ 536870912) (hc : cells + 1 ≤ R.cells) (hl : slots + cap ≤ R.slots)
    (k : ∀ T' h' b, b = h.size → Stand p l e R s m args below meth c T' locs (cells + 1) (slots + cap) → T'.heap = h' → Ext h h' → own_A Z h' b ty n (List.replicate n.toNatClampNeg 0) → own_Run p e below s CC SS Q T' (mkF m (pc + 2) Ls (.ref b :: rest))) :
    own_Run p e below s CC SS Q T (mkF m pc Ls (.int n :: rest)) := by
  obtain ⟨T', h', cA, X', e', E', A', sp⟩ := newP X hx hZ w eT (g := mkF m pc Ls (.int n :: rest)) rfl hd rfl hn hcap hb hc hl
  subst hty
  refine own_run sp (k T' h' _ rfl X' e' E' ⟨by simp, cA, ?_⟩)
  have V := Arv.new A' hn
  rw [hdv] at V
  have q := V.pad (pad_rep [] (.int 0) n.toNatClampNeg)
  simpa using q
theorem own_len (X : Stand p l e R s m args below meth c T locs cells slots) (hx : p.tables.exec = Jvm.exec) (hZ : Z.Warmed39 s.vm) (eT : T.heap = h) (A : own_A Z h a ty n xs) (hd : decode c.code pc = .ok (.arraylength, 1)) (k : own_Run p e below s CC SS Q T (mkF m (pc + 1) Ls (.int n :: rest))) : own_Run p e below s CC SS Q T (mkF m pc Ls (.ref a :: rest)) := by
  obtain ⟨hl, kk, cl, Ar, q1, Sz, Nn, H, G⟩ := A
  refine own_run (fun t kt => X.arraylength hx (by rw [eT]; exact Ar.1) (State.isArrayOf_alike hZ.alike Ar.2.1) (g := mkF m pc Ls (.ref a :: rest)) rfl rfl hd t (by rw [len_of Sz Nn]; exact kt)) k
theorem own_getD (xs : List Int32) (i : Nat) : (xs.map Value.int).getD i (.int 0) = .int (xs.getD i 0) := by
  simp only [List.getD_eq_getElem?_getD, List.getElem?_map]; cases xs[i]? <;> rfl
theorem own_ldI (X : Stand p l e R s m args below meth c T locs cells slots) (hx : p.tables.exec = Jvm.exec) (hZ : Z.Warmed39 s.vm) (eT : T.heap = h) (A : own_A Z h a .int n xs) (hj : ¬ j < 0 ∧ j < n) (hd : decode c.code pc = .ok (.iaload, 1)) (hv : xs.getD j.toNatClampNeg 0 = x) (k : own_Run p e below s CC SS Q T (mkF m (pc + 1) Ls (.int x :: rest))) : own_Run p e below s CC SS Q T (mkF m pc Ls (.int j :: .ref a :: rest)) := by
  obtain ⟨hl, kk, cl, Ar, q1, Sz, Nn, H, G⟩ := A
  have hin := inb_of Sz hj
  refine own_run (fun t kt => X.iaload hx (j := j) (v := .int x) (by rw [eT]; exact Ar.1) (State.isArrayOf_alike hZ.alike Ar.2.1) Ar.2.2 hin (H.at hin (by rw [own_getD, hv])) (g := mkF m pc Ls (.int j :: .ref a :: rest)) rfl rfl hd t kt) k
theorem own_ldB (X : Stand p l e R s m args below meth c T locs cells slots) (hx : p.tables.exec = Jvm.exec) (hZ : Z.Warmed39 s.vm) (eT : T.heap = h) (A : own_A Z h a .byte n xs) (hj : ¬ j < 0 ∧ j < n) (hd : decode c.code pc = .ok (.baload, 1)) (hv : xs.getD j.toNatClampNeg 0 = x) (k : own_Run p e below s CC SS Q T (mkF m (pc + 1) Ls (.int x :: rest))) : own_Run p e below s CC SS Q T (mkF m pc Ls (.int j :: .ref a :: rest)) := by
  obtain ⟨hl, kk, cl, Ar, q1, Sz, Nn, H, G⟩ := A
  have hin := inb_of Sz hj
  refine own_run (fun t kt => X.baloadBytes hx (j := j) (v := .int x) (by rw [eT]; exact Ar.1) (State.isArrayOf_alike hZ.alike Ar.2.1) Ar.2.2 hin (H.at hin (by rw [own_getD, hv])) (g := mkF m pc Ls (.int j :: .ref a :: rest)) rfl rfl hd t kt) k
theorem own_map_set (xs : List Int32) (i : Nat) (x : Int32) : (xs.map Value.int).set i (.int x) = (xs.set i x).map Value.int := by rw [List.map_set]
theorem own_stI (X : Stand p l e R s m args below meth c T locs cells slots) (hx : p.tables.exec = Jvm.exec) (hZ : Z.Warmed39 s.vm) (eT : T.heap = h) (A : own_A Z h a .int n xs) (hj : ¬ j < 0 ∧ j < n) (N : Fr n0 locs) (ga : n0 ≤ a) (hd : decode c.code pc = .ok (.iastore, 1)) (hys : xs.set j.toNatClampNeg x = ys)
    (k : ∀ T' h' locs', Stand p l e R s m args below meth c T' locs' cells slots → Fr n0 locs' → T'.heap = h' → Wr h h' a j.toNatClampNeg (.int x) → own_A Z h' a .int n ys → own_Run p e below s CC SS Q T' (mkF m (pc + 1) Ls rest)) : own_Run p e below s CC SS Q T (mkF m pc Ls (.int x :: .int j :: .ref a :: rest)) := by
  obtain ⟨hl, kk, cl, Ar, q1, Sz, Nn, H, G⟩ := A
  have hin := inb_of Sz hj
  obtain ⟨T', h', X', e', W, sp⟩ := stI X hx hZ eT Ar (j := j) (x := x) hin (g := mkF m pc Ls (.int x :: .int j :: .ref a :: rest)) rfl rfl hd
  have V := Arv.set Ar q1 Sz Nn H G (show fits .int (.int x) = true from rfl) W _ rfl (by rw [List.length_map, hl]; exact own_lt_clamp hj)
  refine own_run sp (k T' h' _ X' (Fr.snoc X' N ga) e' W ⟨by rw [← hys, List.length_set]; exact hl, kk, ?_⟩)
  rw [← hys, ← own_map_set]; exact V
theorem own_stB (X : Stand p l e R s m args below meth c T locs cells slots) (hx : p.tables.exec = Jvm.exec) (hZ : Z.Warmed39 s.vm) (eT : T.heap = h) (A : own_A Z h a .byte n xs) (hj : ¬ j < 0 ∧ j < n) (N : Fr n0 locs) (ga : n0 ≤ a) (hd : decode c.code pc = .ok (.bastore, 1)) (hys : xs.set j.toNatClampNeg (nar .byte x) = ys)
    (k : ∀ T' h' locs', Stand p l e R s m args below meth c T' locs' cells slots → Fr n0 locs' → T'.heap = h' → Wr h h' a j.toNatClampNeg (.int (nar .byte x)) → own_A Z h' a .byte n ys → own_Run p e below s CC SS Q T' (mkF m (pc + 1) Ls rest)) : own_Run p e below s CC SS Q T (mkF m pc Ls (.int x :: .int j :: .ref a :: rest)) := by
  obtain ⟨hl, kk, cl, Ar, q1, Sz, Nn, H, G⟩ := A
  have hin := inb_of Sz hj
  obtain ⟨T', h', X', e', W, sp⟩ := stB X hx hZ eT Ar (j := j) (x := x) hin (g := mkF m pc Ls (.int x :: .int j :: .ref a :: rest)) rfl rfl hd
  have V := Arv.set Ar q1 Sz Nn H G (fits_nar_byte x) W _ rfl (by rw [List.length_map, hl]; exact own_lt_clamp hj)
  refine own_run sp (k T' h' _ X' (Fr.snoc X' N ga) e' W ⟨by rw [← hys, List.length_set]; exact hl, kk, ?_⟩)
  rw [← hys, ← own_map_set]; exact V
/-- an array of which only the length is said -/
def own_L (Z : State) (h : Heap) (a : Addr) (n : Int32) : Prop := ∃ (ty : FieldType) (k : ClassId) (vs : List Value) (d : Value), Arv Z h a k ty n vs d
theorem own_L.lt (A : own_L Z h a n) : a < h.size := by obtain ⟨_, _, _, _, V⟩ := A; exact V.lt
theorem own_L.ext (A : own_L Z h a n) (E : Ext h h') : own_L Z h' a n := by obtain ⟨_, _, _, _, V⟩ := A; exact ⟨_, _, _, _, V.ext E⟩
theorem own_L.other (A : own_L Z h b n) (W : Wr h h' a sl v) (q : b ≠ a) : own_L Z h' b n := by obtain ⟨_, _, _, _, V⟩ := A; exact ⟨_, _, _, _, V.other W q⟩
theorem own_L.keep (A : own_L Z h a n) (K : Keep h h' ws) (q : a ∉ ws) : own_L Z h' a n := by obtain ⟨_, _, _, _, V⟩ := A; exact ⟨_, _, _, _, V.keep K q⟩
theorem own_A.toL (A : own_A Z h a ty n xs) : own_L Z h a n := by obtain ⟨-, k, V⟩ := A; exact ⟨_, _, _, _, V⟩
theorem own_newL {aty : ArrayType} {cap : Nat} (X : Stand p l e R s m args below meth c T locs cells slots) (hx : p.tables.exec = Jvm.exec) (hZ : Z.Warmed39 s.vm) (w : (Cond.arrayClass (newarray.typeOf aty)).before a0 Z = true) (eT : T.heap = h) (hd : decode c.code pc = .ok (.newarray aty, 2)) (hn : ¬ n < 0) (hcap : n.toNatClampNeg ≤ cap) (hb : cap * 8 ≤ 536870912) (hc : cells + 1 ≤ R.cells) (hl : slots + cap ≤ R.slots)
    (k : ∀ T' h' b, b = h.size → Stand p l e R s m args below meth c T' locs (cells + 1) (slots + cap) → T'.heap = h' → Ext h h' → own_L Z h' b n → own_Run p e below s CC SS Q T' (mkF m (pc + 2) Ls (.ref b :: rest))) :
    own_Run p e below s CC SS Q T (mkF m pc Ls (.int n :: rest)) := by
  obtain ⟨T', h', cA, X', e', E', A', sp⟩ := newP X hx hZ w eT (g := mkF m pc Ls (.int n :: rest)) rfl hd rfl hn hcap hb hc hl
  exact own_run sp (k T' h' _ rfl X' e' E' ⟨_, _, _, _, Arv.new A' hn⟩)
theorem own_lenL (X : Stand p l e R s m args below meth c T locs cells slots) (hx : p.tables.exec = Jvm.exec) (hZ : Z.Warmed39 s.vm) (eT : T.heap = h) (A : own_L Z h a n) (hd : decode c.code pc = .ok (.arraylength, 1)) (k : own_Run p e below s CC SS Q T (mkF m (pc + 1) Ls (.int n :: rest))) : own_Run p e below s CC SS Q T (mkF m pc Ls (.ref a :: rest)) := by
  obtain ⟨ty, kk, vs, d, cl, Ar, q1, Sz, Nn, H, G⟩ := A
  refine own_run (fun t kt => X.arraylength hx (by rw [eT]; exact Ar.1) (State.isArrayOf_alike hZ.alike Ar.2.1) (g := mkF m pc Ls (.ref a :: rest)) rfl rfl hd t (by rw [len_of Sz Nn]; exact kt)) k
/-- an array of references that holds nothing but null -/
def own_U (Z : State) (h : Heap) (a : Addr) (n : Int32) : Prop := ∃ (C : String) (k : ClassId), Arv Z h a k (.object C) n [] .null
theorem own_U.lt (A : own_U Z h a n) : a < h.size := by obtain ⟨_, _, V⟩ := A; exact V.lt
theorem own_U.ext (A : own_U Z h a n) (E : Ext h h') : own_U Z h' a n := by obtain ⟨_, _, V⟩ := A; exact ⟨_, _, V.ext E⟩
theorem own_U.toL (A : own_U Z h a n) : own_L Z h a n := by obtain ⟨_, _, V⟩ := A; exact ⟨_, _, _, _, V⟩
theorem own_newU {own K : String} {index cap : Nat} (X : Stand p l e R s m args below meth c T locs cells slots) (hx : p.tables.exec = Jvm.exec) (hZ : Z.Warmed39 s.vm) (hown : s.vm.findClass own = some m.cls) (w1 : (Cond.classLink own index K).before a0 Z = true) (w2 : (Cond.arrayOver (.object K)).before a0 Z = true) (eT : T.heap = h) (hd : decode c.code pc = .ok (.anewarray index, 3)) (hn : ¬ n < 0) (hcap : n.toNatClampNeg ≤ cap) (hb : cap * 8 ≤ 536870912) (hc : cells + 1 ≤ R.cells) (hl : slots + cap ≤ R.slots)
    (k : ∀ T' h' b, b = h.size → Stand p l e R s m args below meth c T' locs (cells + 1) (slots + cap) → T'.heap = h' → Ext h h' → own_U Z h' b n → own_Run p e below s CC SS Q T' (mkF m (pc + 3) Ls (.ref b :: rest))) :
    own_Run p e below s CC SS Q T (mkF m pc Ls (.int n :: rest)) := by
  obtain ⟨T', h', cA, X', e', E', A', -, sp⟩ := newR X hx hZ hown w1 w2 eT (g := mkF m pc Ls (.int n :: rest)) rfl hd rfl hn hcap hb hc hl
  exact own_run sp (k T' h' _ rfl X' e' E' ⟨_, _, Arv.new A' hn⟩)
theorem own_ldU (X : Stand p l e R s m args below meth c T locs cells slots) (hx : p.tables.exec = Jvm.exec) (hZ : Z.Warmed39 s.vm) (eT : T.heap = h) (A : own_U Z h a n) (hj : ¬ j < 0 ∧ j < n) (hd : decode c.code pc = .ok (.aaload, 1)) (k : own_Run p e below s CC SS Q T (mkF m (pc + 1) Ls (.null :: rest))) : own_Run p e below s CC SS Q T (mkF m pc Ls (.int j :: .ref a :: rest)) := by
  obtain ⟨C, kk, cl, Ar, q1, Sz, Nn, H, G⟩ := A
  have hin := inb_of Sz hj
  refine own_run (fun t kt => X.aaload hx (j := j) (v := .null) (by rw [eT]; exact Ar.1) (State.isArrayOf_alike hZ.alike Ar.2.1) rfl Ar.2.2 hin (H.at hin (by simp)) (g := mkF m pc Ls (.int j :: .ref a :: rest)) rfl rfl hd t kt) k
/-- new -/
theorem own_new {own K : String} {index sz : Nat} (X : Stand p l e R s m args below meth c T locs cells slots) (hx : p.tables.exec = Jvm.exec) (hZ : Z.Warmed39 s.vm) (hown : s.vm.findClass own = some m.cls) (w : (Cond.classLink own index K).before a0 Z = true) (wi : (Cond.instantiable K sz).before a0 Z = true) (wz : (Cond.initialized K).before a0 Z = true) (eT : T.heap = h) (hd : decode c.code pc = .ok (.new index, 3)) (hc : cells + 1 ≤ R.cells) (hl : slots + sz ≤ R.slots)
    (k : ∀ T' h' b, b = h.size → Stand p l e R s m args below meth c T' locs (cells + 1) (slots + sz) → T'.heap = h' → Ext h h' → Exa Z h' b K → (∀ {O nm d : String} {ty : FieldType}, Laid Z a0 K O nm d → parseFieldDescriptor d = some ty → Fld Z h' b O nm d (defaultValue ty)) → own_Run p e below s CC SS Q T' (mkF m (pc + 3) Ls (.ref b :: rest))) :
    own_Run p e below s CC SS Q T (mkF m pc Ls rest) := by
  obtain ⟨T', h', X', e', E', A', D', -, sp⟩ := newO X hx hZ hown w wi wz eT (g := mkF m pc Ls rest) rfl hd hc hl
  exact own_run sp (k T' h' _ rfl X' e' E' A' D')
theorem own_getF {own R0 O nm d host : String} {index : Nat} (X : Stand p l e R s m args below meth c T locs cells slots) (hx : p.tables.exec = Jvm.exec) (hZ : Z.Warmed39 s.vm) (hown : s.vm.findClass own = some m.cls) (w : (Cond.fieldLink own index R0 nm d).before a0 Z = true ∨ (Cond.fieldLinkNest own index R0 nm d host).before a0 Z = true) (via : Via Z R0 O nm d) (eT : T.heap = h) (F : Fld Z h a O nm d v) (hd : decode c.code pc = .ok (.getfield index, 3))
    (k : ∀ T', Stand p l e R s m args below meth c T' locs cells slots → T'.heap = h → own_Run p e below s CC SS Q T' (mkF m (pc + 3) Ls (v :: rest))) : own_Run p e below s CC SS Q T (mkF m pc Ls (.ref a :: rest)) := by
  obtain ⟨T', X', e', sp⟩ := getF X hx hZ hown w via eT F (g := mkF m pc Ls (.ref a :: rest)) rfl rfl hd
  exact own_run sp (k T' X' e')
theorem own_getS {own R0 O nm d : String} {index : Nat} (X : Stand p l e R s m args below meth c T locs cells slots) (hx : p.tables.exec = Jvm.exec) (hZ : Z.Warmed39 s.vm) (hown : s.vm.findClass own = some m.cls) (w : (Cond.fieldLink own index R0 nm d).before a0 Z = true) (via : Via Z R0 O nm d) (eT : T.heap = h) (F : Sta Z h O nm d v) (hd : decode c.code pc = .ok (.getstatic index, 3))
    (k : ∀ T', Stand p l e R s m args below meth c T' locs cells slots → T'.heap = h → own_Run p e below s CC SS Q T' (mkF m (pc + 3) Ls (v :: rest))) : own_Run p e below s CC SS Q T (mkF m pc Ls rest) := by
  obtain ⟨T', X', e', sp⟩ := getS (host := "") X hx hZ hown w via eT F (g := mkF m pc Ls rest) rfl hd
  exact own_run sp (k T' X' e')
theorem own_StaKeep {O nm d K : String} (F : Sta Z h O nm d v) (Kp : Keep h h' [a]) (E : Exa Z h a K) : Sta Z h' O nm d v := by
  obtain ⟨cf, i, k, f, st, cell, h1, h2, h3, h4, h5, h6, h7⟩ := F
  obtain ⟨cell', k', q1, -, -, q4, -⟩ := E
  have ne : st ≠ a := fun e => by subst e; cases h5.symm.trans q1; rw [h6] at q4; cases q4
  exact ⟨cf, i, k, f, st, cell, h1, h2, h3, h4, Kp.2.1 _ _ h5 (ninS ne nin0), h6, h7⟩
theorem own_StaKeepA {O nm d : String} (F : Sta Z h O nm d v) (Kp : Keep h h' [a]) (A : own_A Z h a ty n xs) : Sta Z h' O nm d v := by
  obtain ⟨cf, i, k, f, st, cell, h1, h2, h3, h4, h5, h6, h7⟩ := F
  obtain ⟨-, kk, cl, Ar, -⟩ := A
  have q4 := Ar.plain
  have ne : st ≠ a := fun e => by subst e; cases h5.symm.trans Ar.1; rw [h6] at q4; cases q4
  exact ⟨cf, i, k, f, st, cell, h1, h2, h3, h4, Kp.2.1 _ _ h5 (ninS ne nin0), h6, h7⟩
theorem own_putF {own R0 O nm d host K : String} {index kk : Nat} {old : Value} (X : Stand p l e R s m args below meth c T locs cells slots) (hx : p.tables.exec = Jvm.exec) (hZ : Z.Warmed39 s.vm) (hown : s.vm.findClass own = some m.cls) (w : (Cond.fieldLink own index R0 nm d).before a0 Z = true ∨ (Cond.fieldLinkNest own index R0 nm d host).before a0 Z = true) (via : Via Z R0 O nm d) (eT : T.heap = h) (F : Fld Z h a O nm d old) (E : Exa Z h a K) (L : (Cond.lays K O nm d).before a0 Z = true ∨ ((Cond.laysFinal K O nm d).before a0 Z = true ∧ own = O ∧ meth.name = "<init>")) (wi : (Cond.instantiable K kk).before a0 Z = true) (hty : parseFieldDescriptor d = some ty) (hn : narrow ty v = v) (hf : fits ty v = true) (N : Fr n0 locs) (ga : n0 ≤ a) (hd : decode c.code pc = .ok (.putfield index, 3))
    (k : ∀ T' h' locs', Stand p l e R s m args below meth c T' locs' cells slots → Fr n0 locs' → T'.heap = h' → Wr h h' a (Jvm.RoadKit.slotOf Z O nm d) v → Fld Z h' a O nm d v → own_Run p e below s CC SS Q T' (mkF m (pc + 3) Ls rest)) : own_Run p e below s CC SS Q T (mkF m pc Ls (v :: .ref a :: rest)) := by
  obtain ⟨T', h', X', e', W, sp⟩ := putF X hx hZ hown w via eT F E L wi hty hn hf (g := mkF m pc Ls (v :: .ref a :: rest)) rfl rfl hd
  exact own_run sp (k T' h' _ X' (Fr.snoc X' N ga) e' W (F.same W))
theorem own_initO {own : String} {index W : Nat} (X : Stand p l e R s m args below meth c T locs cells slots) (hx : p.tables.exec = Jvm.exec) (hZ : Z.Warmed39 s.vm) (hown : s.vm.findClass own = some m.cls) (w1 : (Cond.methodLink own index Lib.objectInit).before a0 Z = true) (w2 : (Cond.instanceMethod Lib.objectInit).before a0 Z = true) (w3 : (Cond.code Lib.objectInit ⟨#[0xb1]⟩ 1 none).before a0 Z = true) (eT : T.heap = h) (hsize : Ls.size = c.maxLocals) (hd : decode c.code pc = .ok (.invokespecial index, 3)) (hf : 1 ≤ R.frames) (hW : (rest.map fun v => v.category).sum ≤ W) (hl : W + 12 ≤ R.locals)
    (k : ∀ T', Stand p l e R s m args below meth c T' locs cells slots → T'.heap = h → own_Run p e below s CC SS Q T' (mkF m (pc + 3) Ls rest)) : own_Run p e below s CC SS Q T (mkF m pc Ls (.ref a :: rest)) := by
  obtain ⟨T', X', e', sp⟩ := initO X hx hZ hown w1 w2 w3 eT (g := mkF m pc Ls (.ref a :: rest)) rfl hsize rfl hd hf (W := W) (by show 2 * 0 + _ ≤ _; omega) hl
  exact own_run sp (k T' X' e')
variable {own : String} {index maxL W : Nat} {y z : MethodName} {bytes : ByteArray} {ret : Option FieldType} {rm : Room} {argsL : List Value} {Q' : Option Value → Heap → List Loc → Prop}
/-- a static method by its contract -/
theorem own_callS (X : Stand p l e R s m args below meth c T locs cells slots) (hx : p.tables.exec = Jvm.exec) (hZ : Z.Warmed39 s.vm) (hown : s.vm.findClass own = some m.cls) (w1 : (Cond.methodLink own index y).before a0 Z = true) (w2 : (Cond.static y).before a0 Z = true) (w3 : (Cond.initialized y.cls).before a0 Z = true) (w4 : (Cond.code y bytes maxL ret).before a0 Z = true) (hy : y.cls ≠ "java/lang/invoke/MethodHandle" ∧ y.cls ≠ "java/lang/invoke/VarHandle")
    (hM : MetFree l y (head1 [Cond.code y bytes maxL ret] rm) (fun a U => a = argsL.toArray ∧ Z.Warmed39 U.vm ∧ U.heap = h) (fun _ _ _ _ _ => True) (fun _ U o U' => ∃ v L, o = .returned v ∧ Q' v U'.heap L ∧ FrameEnd U o U' L rm.cells rm.slots)) (eT : T.heap = h) (hf : rm.frames + 1 ≤ R.frames) (hl : W + (maxL + 11) + rm.locals ≤ R.locals) (hcl : cells + rm.cells ≤ R.cells) (hsl : slots + rm.slots ≤ R.slots) (hsize : Ls.size = c.maxLocals)
    (hlen : ∀ sig, parseMethodDescriptor y.desc = some sig → argsL.length = sig.parameters.length) (hs : st = argsL.reverse ++ rest) (hW : (rest.map fun v => v.category).sum ≤ W) (hd : decode c.code pc = .ok (.invokestatic index, 3))
    (k : ∀ T' v L, Stand p l e R s m args below meth c T' (locs ++ L) (cells + rm.cells) (slots + rm.slots) → Q' v T'.heap L → own_Run p e below s CC SS Q T' (mkF m (pc + 3) Ls (v.toList ++ rest))) : own_Run p e below s CC SS Q T (mkF m pc Ls st) := by
  obtain ⟨v, _, ⟨T1, L1, k1, n1⟩, -, X1, ⟨Lc, hQ, l1, y1, z1⟩, sp⟩ := Jvm.LawKit.callS X hx hown (mvT hZ w1) (mvT hZ w2) (mvT hZ w3) (mvT hZ w4) hy (backOf (W := W) hM hZ w4 w3 hf hl) (g := mkF m pc Ls st) rfl hsize (argsL := argsL) (rest := rest) hlen hs (by show 2 * 0 + _ ≤ _; omega) hd (fun _ _ => ⟨rfl, eT, hcl, hsl⟩)
  dsimp only [Pt.U, Pt.locs, Pt.cells, Pt.slots] at X1 l1 y1 z1 sp hQ
  subst l1 y1 z1
  exact own_run sp (k T1 v Lc X1 hQ)
/-- a constructor by its contract -/
theorem own_callI (X : Stand p l e R s m args below meth c T locs cells slots) (hx : p.tables.exec = Jvm.exec) (hZ : Z.Warmed39 s.vm) (hown : s.vm.findClass own = some m.cls) (hy1 : y.name = "<init>") (w1 : (Cond.methodLink own index y).before a0 Z = true) (w2 : (Cond.instanceMethod y).before a0 Z = true) (w3 : (Cond.initialized y.cls).before a0 Z = true) (w4 : (Cond.code y bytes maxL none).before a0 Z = true) (hy : y.cls ≠ "java/lang/invoke/MethodHandle" ∧ y.cls ≠ "java/lang/invoke/VarHandle")
    (hM : MetFree l y (head1 [Cond.code y bytes maxL none] rm) (fun a U => a = (.ref b :: argsL).toArray ∧ Z.Warmed39 U.vm ∧ U.heap = h) (fun _ _ _ _ _ => True) (fun _ U o U' => ∃ v L, o = .returned v ∧ Q' v U'.heap L ∧ FrameEnd U o U' L rm.cells rm.slots)) (eT : T.heap = h) (hf : rm.frames + 1 ≤ R.frames) (hl : W + (maxL + 11) + rm.locals ≤ R.locals) (hcl : cells + rm.cells ≤ R.cells) (hsl : slots + rm.slots ≤ R.slots) (hsize : Ls.size = c.maxLocals)
    (hlen : ∀ sig, parseMethodDescriptor y.desc = some sig → argsL.length = sig.parameters.length) (hs : st = argsL.reverse ++ .ref b :: rest) (hW : (rest.map fun v => v.category).sum ≤ W) (hd : decode c.code pc = .ok (.invokespecial index, 3))
    (k : ∀ T' v L, Stand p l e R s m args below meth c T' (locs ++ L) (cells + rm.cells) (slots + rm.slots) → Q' v T'.heap L → own_Run p e below s CC SS Q T' (mkF m (pc + 3) Ls (v.toList ++ rest))) : own_Run p e below s CC SS Q T (mkF m pc Ls st) := by
  obtain ⟨v, _, ⟨T1, L1, k1, n1⟩, -, X1, ⟨Lc, hQ, l1, y1, z1⟩, sp⟩ := X.specialBack hx (y := y) hy1 hown (mvT hZ w1) (mvT hZ w2) (mvT hZ w4) hy (backOf (W := W) hM hZ w4 w3 hf hl) (g := mkF m pc Ls st) rfl hsize (Steps.refl _) (a := b) (argsL := argsL) (rest := rest) hlen hs (by show 2 * 0 + _ ≤ _; omega) hd (fun _ _ => ⟨rfl, eT, hcl, hsl⟩)
  dsimp only [Pt.U, Pt.locs, Pt.cells, Pt.slots] at X1 l1 y1 z1 sp hQ
  subst l1 y1 z1
  exact own_run (fun t kt => sp.trans kt) (k T1 v Lc X1 hQ)
/-- an instance method by its contract -/
theorem own_callV {K : String} (X : Stand p l e R s m args below meth c T locs cells slots) (hx : p.tables.exec = Jvm.exec) (hZ : Z.Warmed39 s.vm) (hown : s.vm.findClass own = some m.cls) (w1 : (Cond.methodLink own index y).before a0 Z = true) (w2 : (Cond.declares y).before a0 Z = true) (w5 : (Cond.selects K y y).before a0 Z = true) (w6 : (Cond.instanceMethod y).before a0 Z = true) (w3 : (Cond.initialized y.cls).before a0 Z = true) (w4 : (Cond.code y bytes maxL ret).before a0 Z = true) (hy : y.cls ≠ "java/lang/invoke/MethodHandle" ∧ y.cls ≠ "java/lang/invoke/VarHandle") (E : Exa Z h b K)
    (hM : MetFree l y (head1 [Cond.code y bytes maxL ret] rm) (fun a U => a = (.ref b :: argsL).toArray ∧ Z.Warmed39 U.vm ∧ U.heap = h) (fun _ _ _ _ _ => True) (fun _ U o U' => ∃ v L, o = .returned v ∧ Q' v U'.heap L ∧ FrameEnd U o U' L rm.cells rm.slots)) (eT : T.heap = h) (hf : rm.frames + 1 ≤ R.frames) (hl : W + (maxL + 11) + rm.locals ≤ R.locals) (hcl : cells + rm.cells ≤ R.cells) (hsl : slots + rm.slots ≤ R.slots) (hsize : Ls.size = c.maxLocals)
    (hlen : ∀ sig, parseMethodDescriptor y.desc = some sig → argsL.length = sig.parameters.length) (hs : st = argsL.reverse ++ .ref b :: rest) (hW : (rest.map fun v => v.category).sum ≤ W) (hd : decode c.code pc = .ok (.invokevirtual index, 3))
    (k : ∀ T' v L, Stand p l e R s m args below meth c T' (locs ++ L) (cells + rm.cells) (slots + rm.slots) → Q' v T'.heap L → own_Run p e below s CC SS Q T' (mkF m (pc + 3) Ls (v.toList ++ rest))) : own_Run p e below s CC SS Q T (mkF m pc Ls st) := by
  obtain ⟨cq, kq, qa, qb, qc⟩ := isOf hZ eT E
  obtain ⟨v, _, ⟨T1, L1, k1, n1⟩, -, X1, ⟨Lc, hQ, l1, y1, z1⟩, sp⟩ := X.virtualBack hx (y := y) (z := y) hown (mvT hZ w1) (mvT hZ w2) (notFace_of_selects (args := #[]) (mvT hZ w5)) (mvT hZ w5) (mvT hZ w6) hy (backOf (W := W) hM hZ w4 w3 hf hl) qa qc (g := mkF m pc Ls st) rfl hsize (Steps.refl _) (argsL := argsL) (rest := rest) hlen hs (by show 2 * 0 + _ ≤ _; omega) hd (fun _ _ => ⟨rfl, eT, hcl, hsl⟩)
  dsimp only [Pt.U, Pt.locs, Pt.cells, Pt.slots] at X1 l1 y1 z1 sp hQ
  subst l1 y1 z1
  exact own_run (fun t kt => sp.trans kt) (k T1 v Lc X1 hQ)
/-- a private instance method by its contract -/
theorem own_callP {kk : Nat} {K : String} (X : Stand p l e R s m args below meth c T locs cells slots) (hx : p.tables.exec = Jvm.exec) (hZ : Z.Warmed39 s.vm) (hown : s.vm.findClass own = some m.cls) (w1 : (Cond.methodLink own index y).before a0 Z = true) (w2 : (Cond.instanceMethod y).before a0 Z = true) (wi : (Cond.instantiable y.cls kk).before a0 Z = true) (wp : (Cond.privateMethod y).before a0 Z = true) (w3 : (Cond.initialized y.cls).before a0 Z = true) (w4 : (Cond.code y bytes maxL ret).before a0 Z = true) (hy : y.cls ≠ "java/lang/invoke/MethodHandle" ∧ y.cls ≠ "java/lang/invoke/VarHandle") (E : Exa Z h b K)
    (hM : MetFree l y (head1 [Cond.code y bytes maxL ret] rm) (fun a U => a = (.ref b :: argsL).toArray ∧ Z.Warmed39 U.vm ∧ U.heap = h) (fun _ _ _ _ _ => True) (fun _ U o U' => ∃ v L, o = .returned v ∧ Q' v U'.heap L ∧ FrameEnd U o U' L rm.cells rm.slots)) (eT : T.heap = h) (hf : rm.frames + 1 ≤ R.frames) (hl : W + (maxL + 11) + rm.locals ≤ R.locals) (hcl : cells + rm.cells ≤ R.cells) (hsl : slots + rm.slots ≤ R.slots) (hsize : Ls.size = c.maxLocals)
    (hlen : ∀ sig, parseMethodDescriptor y.desc = some sig → argsL.length = sig.parameters.length) (hs : st = argsL.reverse ++ .ref b :: rest) (hW : (rest.map fun v => v.category).sum ≤ W) (hd : decode c.code pc = .ok (.invokevirtual index, 3))
    (k : ∀ T' v L, Stand p l e R s m args below meth c T' (locs ++ L) (cells + rm.cells) (slots + rm.slots) → Q' v T'.heap L → own_Run p e below s CC SS Q T' (mkF m (pc + 3) Ls (v.toList ++ rest))) : own_Run p e below s CC SS Q T (mkF m pc Ls st) := by
  obtain ⟨cq, q1, q2⟩ := E.cell
  obtain ⟨cI, kI, hc, hk, -, hniab, -, -⟩ := Cond.instantiable_spec (mvT (args := args) hZ wi)
  have hni : kI.isInterface = false := (Bool.or_eq_false_iff.mp hniab).1
  have hpriv : s.PrivateAt y := Cond.privateMethod_at (mvP hZ wp (args := #[]))
  have hsel : (Cond.selects y.cls y y).before args s = true := selects_self_of_private hc hk hni hpriv (mvT hZ w2) hy
  obtain ⟨v, _, ⟨T1, L1, k1, n1⟩, -, X1, ⟨Lc, hQ, l1, y1, z1⟩, sp⟩ := X.privateBack hx (y := y) hown (mvT hZ w1) (mvT hZ w2) hsel hpriv (mvT hZ w4) hy (backOf (W := W) hM hZ w4 w3 hf hl) (g := mkF m pc Ls st) rfl hsize (Steps.refl _) (a := b) (by rw [eT]; exact q1) q2 (argsL := argsL) (rest := rest) hlen hs (by show 2 * 0 + _ ≤ _; omega) hd (fun _ _ => ⟨rfl, eT, hcl, hsl⟩)
  dsimp only [Pt.U, Pt.locs, Pt.cells, Pt.slots] at X1 l1 y1 z1 sp hQ
  subst l1 y1 z1
  exact own_run (fun t kt => sp.trans kt) (k T1 v Lc X1 hQ)
end Own
theorem own_pn1 : plainName "com/example/lean_markup/leanmarkup/service/ExpressionText" = true := by first | (simp [plainName, overriddenIn]; done) | decide +kernel
theorem own_ef1 (m : MethodId) (p0 : Int32) : entryFrame m #[(.int p0)] 1 = mkF m 0 #[.val (.int p0)] [] := by first | (simp [entryFrame, mkF, argsToLocals, Value.category]; done) | rfl
def own_R1 : Room := ({ frames := 0, cells := 0, slots := 0, locals := 0 } : Room)
def own_f1_184 (p0 : Int32) : Int32 := (if p0 < (65536 : Int32) then (0 : Int32) else (if (983039 : Int32) < p0 then (0 : Int32) else (1 : Int32)))
def own_f1_170 (p0 : Int32) : Int32 := (if p0 < (65008 : Int32) then (own_f1_184 p0) else (if (65533 : Int32) < p0 then (own_f1_184 p0) else (1 : Int32)))
def own_f1_156 (p0 : Int32) : Int32 := (if p0 < (63744 : Int32) then (own_f1_170 p0) else (if (64975 : Int32) < p0 then (own_f1_170 p0) else (1 : Int32)))
def own_f1_142 (p0 : Int32) : Int32 := (if p0 < (12289 : Int32) then (own_f1_156 p0) else (if (55295 : Int32) < p0 then (own_f1_156 p0) else (1 : Int32)))
def own_f1_128 (p0 : Int32) : Int32 := (if p0 < (11264 : Int32) then (own_f1_142 p0) else (if (12271 : Int32) < p0 then (own_f1_142 p0) else (1 : Int32)))
def own_f1_114 (p0 : Int32) : Int32 := (if p0 < (8304 : Int32) then (own_f1_128 p0) else (if (8591 : Int32) < p0 then (own_f1_128 p0) else (1 : Int32)))
def own_f1_100 (p0 : Int32) : Int32 := (if p0 < (8204 : Int32) then (own_f1_114 p0) else (if (8205 : Int32) < p0 then (own_f1_114 p0) else (1 : Int32)))
def own_f1_86 (p0 : Int32) : Int32 := (if p0 < (895 : Int32) then (own_f1_100 p0) else (if (8191 : Int32) < p0 then (own_f1_100 p0) else (1 : Int32)))
def own_f1_72 (p0 : Int32) : Int32 := (if p0 < (880 : Int32) then (own_f1_86 p0) else (if (893 : Int32) < p0 then (own_f1_86 p0) else (1 : Int32)))
def own_f1_58 (p0 : Int32) : Int32 := (if p0 < (248 : Int32) then (own_f1_72 p0) else (if (767 : Int32) < p0 then (own_f1_72 p0) else (1 : Int32)))
def own_f1_44 (p0 : Int32) : Int32 := (if p0 < (216 : Int32) then (own_f1_58 p0) else (if (246 : Int32) < p0 then (own_f1_58 p0) else (1 : Int32)))
def own_f1_24 (p0 : Int32) : Int32 := (if p0 = (95 : Int32) then (1 : Int32) else (if p0 < (192 : Int32) then (own_f1_44 p0) else (if (214 : Int32) < p0 then (own_f1_44 p0) else (1 : Int32))))
def own_f1_12 (p0 : Int32) : Int32 := (if p0 < (65 : Int32) then (own_f1_24 p0) else (if (90 : Int32) < p0 then (own_f1_24 p0) else (1 : Int32)))
def own_f1 (p0 : Int32) : Int32 := (if p0 < (97 : Int32) then (own_f1_12 p0) else (if (122 : Int32) < p0 then (own_f1_12 p0) else (1 : Int32)))
def Q1 (z : Int32) (h0 : Heap) (n0 : Nat) (v : Option Value) (h : Heap) (L : List Loc) : Prop := v = some (Value.int z) ∧ Fr n0 L ∧ h = h0
theorem d1_0 : decode prog_79_method_34_code 0 = .ok (.iload_n 0, 1) := by decide +kernel
theorem d1_1 : decode prog_79_method_34_code 1 = .ok (.bipush 97, 2) := by decide +kernel
theorem d1_3 : decode prog_79_method_34_code 3 = .ok (.if_icmp .lt 9, 3) := by decide +kernel
theorem d1_6 : decode prog_79_method_34_code 6 = .ok (.iload_n 0, 1) := by decide +kernel
theorem d1_7 : decode prog_79_method_34_code 7 = .ok (.bipush 122, 2) := by decide +kernel
theorem d1_9 : decode prog_79_method_34_code 9 = .ok (.if_icmp .le 189, 3) := by decide +kernel
theorem d1_12 : decode prog_79_method_34_code 12 = .ok (.iload_n 0, 1) := by decide +kernel
theorem d1_13 : decode prog_79_method_34_code 13 = .ok (.bipush 65, 2) := by decide +kernel
theorem d1_15 : decode prog_79_method_34_code 15 = .ok (.if_icmp .lt 9, 3) := by decide +kernel
theorem d1_18 : decode prog_79_method_34_code 18 = .ok (.iload_n 0, 1) := by decide +kernel
theorem d1_19 : decode prog_79_method_34_code 19 = .ok (.bipush 90, 2) := by decide +kernel
theorem d1_21 : decode prog_79_method_34_code 21 = .ok (.if_icmp .le 177, 3) := by decide +kernel
theorem d1_24 : decode prog_79_method_34_code 24 = .ok (.iload_n 0, 1) := by decide +kernel
theorem d1_25 : decode prog_79_method_34_code 25 = .ok (.bipush 95, 2) := by decide +kernel
theorem d1_27 : decode prog_79_method_34_code 27 = .ok (.if_icmp .eq 171, 3) := by decide +kernel
theorem d1_30 : decode prog_79_method_34_code 30 = .ok (.iload_n 0, 1) := by decide +kernel
theorem d1_31 : decode prog_79_method_34_code 31 = .ok (.sipush 192, 3) := by decide +kernel
theorem d1_34 : decode prog_79_method_34_code 34 = .ok (.if_icmp .lt 10, 3) := by decide +kernel
theorem d1_37 : decode prog_79_method_34_code 37 = .ok (.iload_n 0, 1) := by decide +kernel
theorem d1_38 : decode prog_79_method_34_code 38 = .ok (.sipush 214, 3) := by decide +kernel
theorem d1_41 : decode prog_79_method_34_code 41 = .ok (.if_icmp .le 157, 3) := by decide +kernel
theorem d1_44 : decode prog_79_method_34_code 44 = .ok (.iload_n 0, 1) := by decide +kernel
theorem d1_45 : decode prog_79_method_34_code 45 = .ok (.sipush 216, 3) := by decide +kernel
theorem d1_48 : decode prog_79_method_34_code 48 = .ok (.if_icmp .lt 10, 3) := by decide +kernel
theorem d1_51 : decode prog_79_method_34_code 51 = .ok (.iload_n 0, 1) := by decide +kernel
theorem d1_52 : decode prog_79_method_34_code 52 = .ok (.sipush 246, 3) := by decide +kernel
theorem d1_55 : decode prog_79_method_34_code 55 = .ok (.if_icmp .le 143, 3) := by decide +kernel
theorem d1_58 : decode prog_79_method_34_code 58 = .ok (.iload_n 0, 1) := by decide +kernel
theorem d1_59 : decode prog_79_method_34_code 59 = .ok (.sipush 248, 3) := by decide +kernel
theorem d1_62 : decode prog_79_method_34_code 62 = .ok (.if_icmp .lt 10, 3) := by decide +kernel
theorem d1_65 : decode prog_79_method_34_code 65 = .ok (.iload_n 0, 1) := by decide +kernel
theorem d1_66 : decode prog_79_method_34_code 66 = .ok (.sipush 767, 3) := by decide +kernel
theorem d1_69 : decode prog_79_method_34_code 69 = .ok (.if_icmp .le 129, 3) := by decide +kernel
theorem d1_72 : decode prog_79_method_34_code 72 = .ok (.iload_n 0, 1) := by decide +kernel
theorem d1_73 : decode prog_79_method_34_code 73 = .ok (.sipush 880, 3) := by decide +kernel
theorem d1_76 : decode prog_79_method_34_code 76 = .ok (.if_icmp .lt 10, 3) := by decide +kernel
theorem d1_79 : decode prog_79_method_34_code 79 = .ok (.iload_n 0, 1) := by decide +kernel
theorem d1_80 : decode prog_79_method_34_code 80 = .ok (.sipush 893, 3) := by decide +kernel
theorem d1_83 : decode prog_79_method_34_code 83 = .ok (.if_icmp .le 115, 3) := by decide +kernel
theorem d1_86 : decode prog_79_method_34_code 86 = .ok (.iload_n 0, 1) := by decide +kernel
theorem d1_87 : decode prog_79_method_34_code 87 = .ok (.sipush 895, 3) := by decide +kernel
theorem d1_90 : decode prog_79_method_34_code 90 = .ok (.if_icmp .lt 10, 3) := by decide +kernel
theorem d1_93 : decode prog_79_method_34_code 93 = .ok (.iload_n 0, 1) := by decide +kernel
theorem d1_94 : decode prog_79_method_34_code 94 = .ok (.sipush 8191, 3) := by decide +kernel
theorem d1_97 : decode prog_79_method_34_code 97 = .ok (.if_icmp .le 101, 3) := by decide +kernel
theorem d1_100 : decode prog_79_method_34_code 100 = .ok (.iload_n 0, 1) := by decide +kernel
theorem d1_101 : decode prog_79_method_34_code 101 = .ok (.sipush 8204, 3) := by decide +kernel
theorem d1_104 : decode prog_79_method_34_code 104 = .ok (.if_icmp .lt 10, 3) := by decide +kernel
theorem d1_107 : decode prog_79_method_34_code 107 = .ok (.iload_n 0, 1) := by decide +kernel
theorem d1_108 : decode prog_79_method_34_code 108 = .ok (.sipush 8205, 3) := by decide +kernel
theorem d1_111 : decode prog_79_method_34_code 111 = .ok (.if_icmp .le 87, 3) := by decide +kernel
theorem d1_114 : decode prog_79_method_34_code 114 = .ok (.iload_n 0, 1) := by decide +kernel
theorem d1_115 : decode prog_79_method_34_code 115 = .ok (.sipush 8304, 3) := by decide +kernel
theorem d1_118 : decode prog_79_method_34_code 118 = .ok (.if_icmp .lt 10, 3) := by decide +kernel
theorem d1_121 : decode prog_79_method_34_code 121 = .ok (.iload_n 0, 1) := by decide +kernel
theorem d1_122 : decode prog_79_method_34_code 122 = .ok (.sipush 8591, 3) := by decide +kernel
theorem d1_125 : decode prog_79_method_34_code 125 = .ok (.if_icmp .le 73, 3) := by decide +kernel
theorem d1_128 : decode prog_79_method_34_code 128 = .ok (.iload_n 0, 1) := by decide +kernel
theorem d1_129 : decode prog_79_method_34_code 129 = .ok (.sipush 11264, 3) := by decide +kernel
theorem d1_132 : decode prog_79_method_34_code 132 = .ok (.if_icmp .lt 10, 3) := by decide +kernel
theorem d1_135 : decode prog_79_method_34_code 135 = .ok (.iload_n 0, 1) := by decide +kernel
theorem d1_136 : decode prog_79_method_34_code 136 = .ok (.sipush 12271, 3) := by decide +kernel
theorem d1_139 : decode prog_79_method_34_code 139 = .ok (.if_icmp .le 59, 3) := by decide +kernel
theorem d1_142 : decode prog_79_method_34_code 142 = .ok (.iload_n 0, 1) := by decide +kernel
theorem d1_143 : decode prog_79_method_34_code 143 = .ok (.sipush 12289, 3) := by decide +kernel
theorem d1_146 : decode prog_79_method_34_code 146 = .ok (.if_icmp .lt 10, 3) := by decide +kernel
theorem d1_149 : decode prog_79_method_34_code 149 = .ok (.iload_n 0, 1) := by decide +kernel
theorem d1_150 : decode prog_79_method_34_code 150 = .ok (.ldc_w 258, 3) := by decide +kernel
theorem d1_153 : decode prog_79_method_34_code 153 = .ok (.if_icmp .le 45, 3) := by decide +kernel
theorem d1_156 : decode prog_79_method_34_code 156 = .ok (.iload_n 0, 1) := by decide +kernel
theorem d1_157 : decode prog_79_method_34_code 157 = .ok (.ldc_w 263, 3) := by decide +kernel
theorem d1_160 : decode prog_79_method_34_code 160 = .ok (.if_icmp .lt 10, 3) := by decide +kernel
theorem d1_163 : decode prog_79_method_34_code 163 = .ok (.iload_n 0, 1) := by decide +kernel
theorem d1_164 : decode prog_79_method_34_code 164 = .ok (.ldc_w 264, 3) := by decide +kernel
theorem d1_167 : decode prog_79_method_34_code 167 = .ok (.if_icmp .le 31, 3) := by decide +kernel
theorem d1_170 : decode prog_79_method_34_code 170 = .ok (.iload_n 0, 1) := by decide +kernel
theorem d1_171 : decode prog_79_method_34_code 171 = .ok (.ldc_w 265, 3) := by decide +kernel
theorem d1_174 : decode prog_79_method_34_code 174 = .ok (.if_icmp .lt 10, 3) := by decide +kernel
theorem d1_177 : decode prog_79_method_34_code 177 = .ok (.iload_n 0, 1) := by decide +kernel
theorem d1_178 : decode prog_79_method_34_code 178 = .ok (.ldc_w 260, 3) := by decide +kernel
theorem d1_181 : decode prog_79_method_34_code 181 = .ok (.if_icmp .le 17, 3) := by decide +kernel
theorem d1_184 : decode prog_79_method_34_code 184 = .ok (.iload_n 0, 1) := by decide +kernel
theorem d1_185 : decode prog_79_method_34_code 185 = .ok (.ldc_w 261, 3) := by decide +kernel
theorem d1_188 : decode prog_79_method_34_code 188 = .ok (.if_icmp .lt 14, 3) := by decide +kernel
theorem d1_191 : decode prog_79_method_34_code 191 = .ok (.iload_n 0, 1) := by decide +kernel
theorem d1_192 : decode prog_79_method_34_code 192 = .ok (.ldc_w 266, 3) := by decide +kernel
theorem d1_195 : decode prog_79_method_34_code 195 = .ok (.if_icmp .gt 7, 3) := by decide +kernel
theorem d1_198 : decode prog_79_method_34_code 198 = .ok (.iconst 1, 1) := by decide +kernel
theorem d1_199 : decode prog_79_method_34_code 199 = .ok (.goto 4, 3) := by decide +kernel
theorem d1_202 : decode prog_79_method_34_code 202 = .ok (.iconst 0, 1) := by decide +kernel
theorem d1_203 : decode prog_79_method_34_code 203 = .ok (.ireturn, 1) := by decide +kernel
set_option maxRecDepth 65536 in
set_option maxHeartbeats 40000000 in
theorem rm1 (l : Launch) (Z : State) (a0 : Array Value) (hw : ∀ d ∈ tables_1, d.before a0 Z = true) (ws : List Jvm.Cond) (p0 : Int32) (h0 : Heap) (n0 : Nat) :
    MetFree l (⟨"com/example/lean_markup/leanmarkup/service/ExpressionText", "isNameStart", "(I)Z"⟩ : MethodName) (head1 (Jvm.Cond.code (⟨"com/example/lean_markup/leanmarkup/service/ExpressionText", "isNameStart", "(I)Z"⟩ : MethodName) prog_79_method_34_code 1 (some .boolean) :: ws) own_R1) (fun a U => a = #[(.int p0)] ∧ Z.Warmed39 U.vm ∧ U.heap = h0) (fun _ _ _ _ _ => True) (fun _ U o U' => ∃ v L, o = .returned v ∧ Q1 (own_f1 p0) h0 n0 v U'.heap L ∧ FrameEnd U o U' L own_R1.cells own_R1.slots) := by
  refine MetFree.of_bodySF (plainFor_of_name own_pn1) hisR ?_
  intro p e s m args below meth c s₁ Bd hml0 hP hK
  obtain ⟨ha, hZ, hh⟩ := hP
  have hx := Bd.exec
  have hby := Bd.bytes
  have hml : c.maxLocals = 1 := hml0
  have hown : s.vm.findClass "com/example/lean_markup/leanmarkup/service/ExpressionText" = some m.cls := findClass_of_methodNamed Bd.named
  have hnm := (name_of_methodNamed Bd.named Bd.method).1
  have X0 : Stand p l e own_R1 s m args below meth c s₁ [] 0 0 := Stand.of_body Bd
  have e0 : s₁.heap = h0 := by rw [← hh, Bd.state]; rfl
  have N0 := Fr.nil n0
  refine own_enter (Q := (Q1 (own_f1 p0) h0 n0)) (g := mkF m 0 #[.val (.int p0)] []) (by rw [ha]; exact own_ef1 m p0) ?_
  refine own_run (g' := (mkF m 3 #[.val (.int p0)] [(.int (97 : Int32)), (.int p0)])) (fun _ kt => XS.iloadN X0.here hx rfl (hb hby d1_0) rfl (XS.bipush X0.here hx rfl (hb hby d1_1) (kt))) ?_
  have at12 : own_Run p e below s own_R1.cells own_R1.slots (Q1 (own_f1_12 p0) h0 n0) s₁ (mkF m 12 #[.val (.int p0)] []) := by
    refine own_run (g' := (mkF m 15 #[.val (.int p0)] [(.int (65 : Int32)), (.int p0)])) (fun _ kt => XS.iloadN X0.here hx rfl (hb hby d1_12) rfl (XS.bipush X0.here hx rfl (hb hby d1_13) (kt))) ?_
    have at24 : own_Run p e below s own_R1.cells own_R1.slots (Q1 (own_f1_24 p0) h0 n0) s₁ (mkF m 24 #[.val (.int p0)] []) := by
      refine own_run (g' := (mkF m 27 #[.val (.int p0)] [(.int (95 : Int32)), (.int p0)])) (fun _ kt => XS.iloadN X0.here hx rfl (hb hby d1_24) rfl (XS.bipush X0.here hx rfl (hb hby d1_25) (kt))) ?_
      by_cases hc27 : p0 = (95 : Int32)
      · refine own_run (g' := (mkF m 203 #[.val (.int p0)] [(.int (1 : Int32))])) (fun _ kt => XS.icmpYes X0.here hx rfl (pc0 := 27) (pc' := 198) rfl (hb hby d1_27) rfl ((teq hc27).1) (by decide) (by decide) (XS.iconst X0.here hx rfl (hb hby d1_198) (XS.goto X0.here hx rfl (pc0 := 199) (pc' := 203) rfl (hb hby d1_199) (by decide) (by decide) (kt)))) ?_
        have hf : own_f1_24 p0 = (1 : Int32) := by unfold own_f1_24; rw [if_pos hc27]
        exact own_retN (t := .boolean) X0 hx Bd.notSynchronized Bd.returns (by simp) (hb hby d1_203) (by decide) (by decide) ⟨congrArg (fun z => some (Value.int z)) hf.symm, N0, e0⟩
      · refine own_run (g' := (mkF m 34 #[.val (.int p0)] [(.int (192 : Int32)), (.int p0)])) (fun _ kt => XS.icmpNo X0.here hx rfl (hb hby d1_27) rfl ((feq hc27).1) (XS.iloadN X0.here hx rfl (hb hby d1_30) rfl (XS.sipush X0.here hx rfl (hb hby d1_31) (kt)))) ?_
        have at44 : own_Run p e below s own_R1.cells own_R1.slots (Q1 (own_f1_44 p0) h0 n0) s₁ (mkF m 44 #[.val (.int p0)] []) := by
          refine own_run (g' := (mkF m 48 #[.val (.int p0)] [(.int (216 : Int32)), (.int p0)])) (fun _ kt => XS.iloadN X0.here hx rfl (hb hby d1_44) rfl (XS.sipush X0.here hx rfl (hb hby d1_45) (kt))) ?_
          have at58 : own_Run p e below s own_R1.cells own_R1.slots (Q1 (own_f1_58 p0) h0 n0) s₁ (mkF m 58 #[.val (.int p0)] []) := by
            refine own_run (g' := (mkF m 62 #[.val (.int p0)] [(.int (248 : Int32)), (.int p0)])) (fun _ kt => XS.iloadN X0.here hx rfl (hb hby d1_58) rfl (XS.sipush X0.here hx rfl (hb hby d1_59) (kt))) ?_
            have at72 : own_Run p e below s own_R1.cells own_R1.slots (Q1 (own_f1_72 p0) h0 n0) s₁ (mkF m 72 #[.val (.int p0)] []) := by
              refine own_run (g' := (mkF m 76 #[.val (.int p0)] [(.int (880 : Int32)), (.int p0)])) (fun _ kt => XS.iloadN X0.here hx rfl (hb hby d1_72) rfl (XS.sipush X0.here hx rfl (hb hby d1_73) (kt))) ?_
              have at86 : own_Run p e below s own_R1.cells own_R1.slots (Q1 (own_f1_86 p0) h0 n0) s₁ (mkF m 86 #[.val (.int p0)] []) := by
                refine own_run (g' := (mkF m 90 #[.val (.int p0)] [(.int (895 : Int32)), (.int p0)])) (fun _ kt => XS.iloadN X0.here hx rfl (hb hby d1_86) rfl (XS.sipush X0.here hx rfl (hb hby d1_87) (kt))) ?_
                have at100 : own_Run p e below s own_R1.cells own_R1.slots (Q1 (own_f1_100 p0) h0 n0) s₁ (mkF m 100 #[.val (.int p0)] []) := by
                  refine own_run (g' := (mkF m 104 #[.val (.int p0)] [(.int (8204 : Int32)), (.int p0)])) (fun _ kt => XS.iloadN X0.here hx rfl (hb hby d1_100) rfl (XS.sipush X0.here hx rfl (hb hby d1_101) (kt))) ?_
                  have at114 : own_Run p e below s own_R1.cells own_R1.slots (Q1 (own_f1_114 p0) h0 n0) s₁ (mkF m 114 #[.val (.int p0)] []) := by
                    refine own_run (g' := (mkF m 118 #[.val (.int p0)] [(.int (8304 : Int32)), (.int p0)])) (fun _ kt => XS.iloadN X0.here hx rfl (hb hby d1_114) rfl (XS.sipush X0.here hx rfl (hb hby d1_115) (kt))) ?_
                    have at128 : own_Run p e below s own_R1.cells own_R1.slots (Q1 (own_f1_128 p0) h0 n0) s₁ (mkF m 128 #[.val (.int p0)] []) := by
                      refine own_run (g' := (mkF m 132 #[.val (.int p0)] [(.int (11264 : Int32)), (.int p0)])) (fun _ kt => XS.iloadN X0.here hx rfl (hb hby d1_128) rfl (XS.sipush X0.here hx rfl (hb hby d1_129) (kt))) ?_
                      have at142 : own_Run p e below s own_R1.cells own_R1.slots (Q1 (own_f1_142 p0) h0 n0) s₁ (mkF m 142 #[.val (.int p0)] []) := by
                        refine own_run (g' := (mkF m 146 #[.val (.int p0)] [(.int (12289 : Int32)), (.int p0)])) (fun _ kt => XS.iloadN X0.here hx rfl (hb hby d1_142) rfl (XS.sipush X0.here hx rfl (hb hby d1_143) (kt))) ?_
                        have at156 : own_Run p e below s own_R1.cells own_R1.slots (Q1 (own_f1_156 p0) h0 n0) s₁ (mkF m 156 #[.val (.int p0)] []) := by
                          refine own_run (g' := (mkF m 157 #[.val (.int p0)] [(.int p0)])) (fun _ kt => XS.iloadN X0.here hx rfl (hb hby d1_156) rfl (kt)) ?_
                          refine own_ldcwI X0 hx hZ hown (hw _ (List.mem_of_getElem? (i := 13) rfl)) (hb hby d1_157) ?_
                          have at170 : own_Run p e below s own_R1.cells own_R1.slots (Q1 (own_f1_170 p0) h0 n0) s₁ (mkF m 170 #[.val (.int p0)] []) := by
                            refine own_run (g' := (mkF m 171 #[.val (.int p0)] [(.int p0)])) (fun _ kt => XS.iloadN X0.here hx rfl (hb hby d1_170) rfl (kt)) ?_
                            refine own_ldcwI X0 hx hZ hown (hw _ (List.mem_of_getElem? (i := 14) rfl)) (hb hby d1_171) ?_
                            have at184 : own_Run p e below s own_R1.cells own_R1.slots (Q1 (own_f1_184 p0) h0 n0) s₁ (mkF m 184 #[.val (.int p0)] []) := by
                              refine own_run (g' := (mkF m 185 #[.val (.int p0)] [(.int p0)])) (fun _ kt => XS.iloadN X0.here hx rfl (hb hby d1_184) rfl (kt)) ?_
                              refine own_ldcwI X0 hx hZ hown (hw _ (List.mem_of_getElem? (i := 15) rfl)) (hb hby d1_185) ?_
                              by_cases hc188 : p0 < (65536 : Int32)
                              · refine own_run (g' := (mkF m 203 #[.val (.int p0)] [(.int (0 : Int32))])) (fun _ kt => XS.icmpYes X0.here hx rfl (pc0 := 188) (pc' := 202) rfl (hb hby d1_188) rfl ((tlt hc188).1) (by decide) (by decide) (XS.iconst X0.here hx rfl (hb hby d1_202) (kt))) ?_
                                have hf : own_f1_184 p0 = (0 : Int32) := by unfold own_f1_184; rw [if_pos hc188]
                                exact own_retN (t := .boolean) X0 hx Bd.notSynchronized Bd.returns (by simp) (hb hby d1_203) (by decide) (by decide) ⟨congrArg (fun z => some (Value.int z)) hf.symm, N0, e0⟩
                              · refine own_run (g' := (mkF m 192 #[.val (.int p0)] [(.int p0)])) (fun _ kt => XS.icmpNo X0.here hx rfl (hb hby d1_188) rfl ((flt hc188).1) (XS.iloadN X0.here hx rfl (hb hby d1_191) rfl (kt))) ?_
                                refine own_ldcwI X0 hx hZ hown (hw _ (List.mem_of_getElem? (i := 23) rfl)) (hb hby d1_192) ?_
                                by_cases hc195 : (983039 : Int32) < p0
                                · refine own_run (g' := (mkF m 203 #[.val (.int p0)] [(.int (0 : Int32))])) (fun _ kt => XS.icmpYes X0.here hx rfl (pc0 := 195) (pc' := 202) rfl (hb hby d1_195) rfl ((tlt hc195).2.2.1) (by decide) (by decide) (XS.iconst X0.here hx rfl (hb hby d1_202) (kt))) ?_
                                  have hf : own_f1_184 p0 = (0 : Int32) := by unfold own_f1_184; rw [if_neg hc188, if_pos hc195]
                                  exact own_retN (t := .boolean) X0 hx Bd.notSynchronized Bd.returns (by simp) (hb hby d1_203) (by decide) (by decide) ⟨congrArg (fun z => some (Value.int z)) hf.symm, N0, e0⟩
                                · refine own_run (g' := (mkF m 203 #[.val (.int p0)] [(.int (1 : Int32))])) (fun _ kt => XS.icmpNo X0.here hx rfl (hb hby d1_195) rfl ((flt hc195).2.2.1) (XS.iconst X0.here hx rfl (hb hby d1_198) (XS.goto X0.here hx rfl (pc0 := 199) (pc' := 203) rfl (hb hby d1_199) (by decide) (by decide) (kt)))) ?_
                                  have hf : own_f1_184 p0 = (1 : Int32) := by unfold own_f1_184; rw [if_neg hc188, if_neg hc195]
                                  exact own_retN (t := .boolean) X0 hx Bd.notSynchronized Bd.returns (by simp) (hb hby d1_203) (by decide) (by decide) ⟨congrArg (fun z => some (Value.int z)) hf.symm, N0, e0⟩
                            by_cases hc174 : p0 < (65008 : Int32)
                            · refine own_run (g' := (mkF m 184 #[.val (.int p0)] [])) (fun _ kt => XS.icmpYes X0.here hx rfl (pc0 := 174) (pc' := 184) rfl (hb hby d1_174) rfl ((tlt hc174).1) (by decide) (by decide) (kt)) ?_
                              have hf : own_f1_170 p0 = own_f1_184 p0 := by unfold own_f1_170; rw [if_pos hc174]
                              rw [hf]; exact at184
                            · refine own_run (g' := (mkF m 178 #[.val (.int p0)] [(.int p0)])) (fun _ kt => XS.icmpNo X0.here hx rfl (hb hby d1_174) rfl ((flt hc174).1) (XS.iloadN X0.here hx rfl (hb hby d1_177) rfl (kt))) ?_
                              refine own_ldcwI X0 hx hZ hown (hw _ (List.mem_of_getElem? (i := 22) rfl)) (hb hby d1_178) ?_
                              by_cases hc181 : (65533 : Int32) < p0
                              · refine own_run (g' := (mkF m 184 #[.val (.int p0)] [])) (fun _ kt => XS.icmpNo X0.here hx rfl (hb hby d1_181) rfl ((tlt hc181).2.2.2) (kt)) ?_
                                have hf : own_f1_170 p0 = own_f1_184 p0 := by unfold own_f1_170; rw [if_neg hc174, if_pos hc181]
                                rw [hf]; exact at184
                              · refine own_run (g' := (mkF m 203 #[.val (.int p0)] [(.int (1 : Int32))])) (fun _ kt => XS.icmpYes X0.here hx rfl (pc0 := 181) (pc' := 198) rfl (hb hby d1_181) rfl ((flt hc181).2.2.2) (by decide) (by decide) (XS.iconst X0.here hx rfl (hb hby d1_198) (XS.goto X0.here hx rfl (pc0 := 199) (pc' := 203) rfl (hb hby d1_199) (by decide) (by decide) (kt)))) ?_
                                have hf : own_f1_170 p0 = (1 : Int32) := by unfold own_f1_170; rw [if_neg hc174, if_neg hc181]
                                exact own_retN (t := .boolean) X0 hx Bd.notSynchronized Bd.returns (by simp) (hb hby d1_203) (by decide) (by decide) ⟨congrArg (fun z => some (Value.int z)) hf.symm, N0, e0⟩
                          by_cases hc160 : p0 < (63744 : Int32)
                          · refine own_run (g' := (mkF m 170 #[.val (.int p0)] [])) (fun _ kt => XS.icmpYes X0.here hx rfl (pc0 := 160) (pc' := 170) rfl (hb hby d1_160) rfl ((tlt hc160).1) (by decide) (by decide) (kt)) ?_
                            have hf : own_f1_156 p0 = own_f1_170 p0 := by unfold own_f1_156; rw [if_pos hc160]
                            rw [hf]; exact at170
                          · refine own_run (g' := (mkF m 164 #[.val (.int p0)] [(.int p0)])) (fun _ kt => XS.icmpNo X0.here hx rfl (hb hby d1_160) rfl ((flt hc160).1) (XS.iloadN X0.here hx rfl (hb hby d1_163) rfl (kt))) ?_
                            refine own_ldcwI X0 hx hZ hown (hw _ (List.mem_of_getElem? (i := 21) rfl)) (hb hby d1_164) ?_
                            by_cases hc167 : (64975 : Int32) < p0
                            · refine own_run (g' := (mkF m 170 #[.val (.int p0)] [])) (fun _ kt => XS.icmpNo X0.here hx rfl (hb hby d1_167) rfl ((tlt hc167).2.2.2) (kt)) ?_
                              have hf : own_f1_156 p0 = own_f1_170 p0 := by unfold own_f1_156; rw [if_neg hc160, if_pos hc167]
                              rw [hf]; exact at170
                            · refine own_run (g' := (mkF m 203 #[.val (.int p0)] [(.int (1 : Int32))])) (fun _ kt => XS.icmpYes X0.here hx rfl (pc0 := 167) (pc' := 198) rfl (hb hby d1_167) rfl ((flt hc167).2.2.2) (by decide) (by decide) (XS.iconst X0.here hx rfl (hb hby d1_198) (XS.goto X0.here hx rfl (pc0 := 199) (pc' := 203) rfl (hb hby d1_199) (by decide) (by decide) (kt)))) ?_
                              have hf : own_f1_156 p0 = (1 : Int32) := by unfold own_f1_156; rw [if_neg hc160, if_neg hc167]
                              exact own_retN (t := .boolean) X0 hx Bd.notSynchronized Bd.returns (by simp) (hb hby d1_203) (by decide) (by decide) ⟨congrArg (fun z => some (Value.int z)) hf.symm, N0, e0⟩
                        by_cases hc146 : p0 < (12289 : Int32)
                        · refine own_run (g' := (mkF m 156 #[.val (.int p0)] [])) (fun _ kt => XS.icmpYes X0.here hx rfl (pc0 := 146) (pc' := 156) rfl (hb hby d1_146) rfl ((tlt hc146).1) (by decide) (by decide) (kt)) ?_
                          have hf : own_f1_142 p0 = own_f1_156 p0 := by unfold own_f1_142; rw [if_pos hc146]
                          rw [hf]; exact at156
                        · refine own_run (g' := (mkF m 150 #[.val (.int p0)] [(.int p0)])) (fun _ kt => XS.icmpNo X0.here hx rfl (hb hby d1_146) rfl ((flt hc146).1) (XS.iloadN X0.here hx rfl (hb hby d1_149) rfl (kt))) ?_
                          refine own_ldcwI X0 hx hZ hown (hw _ (List.mem_of_getElem? (i := 20) rfl)) (hb hby d1_150) ?_
                          by_cases hc153 : (55295 : Int32) < p0
                          · refine own_run (g' := (mkF m 156 #[.val (.int p0)] [])) (fun _ kt => XS.icmpNo X0.here hx rfl (hb hby d1_153) rfl ((tlt hc153).2.2.2) (kt)) ?_
                            have hf : own_f1_142 p0 = own_f1_156 p0 := by unfold own_f1_142; rw [if_neg hc146, if_pos hc153]
                            rw [hf]; exact at156
                          · refine own_run (g' := (mkF m 203 #[.val (.int p0)] [(.int (1 : Int32))])) (fun _ kt => XS.icmpYes X0.here hx rfl (pc0 := 153) (pc' := 198) rfl (hb hby d1_153) rfl ((flt hc153).2.2.2) (by decide) (by decide) (XS.iconst X0.here hx rfl (hb hby d1_198) (XS.goto X0.here hx rfl (pc0 := 199) (pc' := 203) rfl (hb hby d1_199) (by decide) (by decide) (kt)))) ?_
                            have hf : own_f1_142 p0 = (1 : Int32) := by unfold own_f1_142; rw [if_neg hc146, if_neg hc153]
                            exact own_retN (t := .boolean) X0 hx Bd.notSynchronized Bd.returns (by simp) (hb hby d1_203) (by decide) (by decide) ⟨congrArg (fun z => some (Value.int z)) hf.symm, N0, e0⟩
                      by_cases hc132 : p0 < (11264 : Int32)
                      · refine own_run (g' := (mkF m 142 #[.val (.int p0)] [])) (fun _ kt => XS.icmpYes X0.here hx rfl (pc0 := 132) (pc' := 142) rfl (hb hby d1_132) rfl ((tlt hc132).1) (by decide) (by decide) (kt)) ?_
                        have hf : own_f1_128 p0 = own_f1_142 p0 := by unfold own_f1_128; rw [if_pos hc132]
                        rw [hf]; exact at142
                      · refine own_run (g' := (mkF m 139 #[.val (.int p0)] [(.int (12271 : Int32)), (.int p0)])) (fun _ kt => XS.icmpNo X0.here hx rfl (hb hby d1_132) rfl ((flt hc132).1) (XS.iloadN X0.here hx rfl (hb hby d1_135) rfl (XS.sipush X0.here hx rfl (hb hby d1_136) (kt)))) ?_
                        by_cases hc139 : (12271 : Int32) < p0
                        · refine own_run (g' := (mkF m 142 #[.val (.int p0)] [])) (fun _ kt => XS.icmpNo X0.here hx rfl (hb hby d1_139) rfl ((tlt hc139).2.2.2) (kt)) ?_
                          have hf : own_f1_128 p0 = own_f1_142 p0 := by unfold own_f1_128; rw [if_neg hc132, if_pos hc139]
                          rw [hf]; exact at142
                        · refine own_run (g' := (mkF m 203 #[.val (.int p0)] [(.int (1 : Int32))])) (fun _ kt => XS.icmpYes X0.here hx rfl (pc0 := 139) (pc' := 198) rfl (hb hby d1_139) rfl ((flt hc139).2.2.2) (by decide) (by decide) (XS.iconst X0.here hx rfl (hb hby d1_198) (XS.goto X0.here hx rfl (pc0 := 199) (pc' := 203) rfl (hb hby d1_199) (by decide) (by decide) (kt)))) ?_
                          have hf : own_f1_128 p0 = (1 : Int32) := by unfold own_f1_128; rw [if_neg hc132, if_neg hc139]
                          exact own_retN (t := .boolean) X0 hx Bd.notSynchronized Bd.returns (by simp) (hb hby d1_203) (by decide) (by decide) ⟨congrArg (fun z => some (Value.int z)) hf.symm, N0, e0⟩
                    by_cases hc118 : p0 < (8304 : Int32)
                    · refine own_run (g' := (mkF m 128 #[.val (.int p0)] [])) (fun _ kt => XS.icmpYes X0.here hx rfl (pc0 := 118) (pc' := 128) rfl (hb hby d1_118) rfl ((tlt hc118).1) (by decide) (by decide) (kt)) ?_
                      have hf : own_f1_114 p0 = own_f1_128 p0 := by unfold own_f1_114; rw [if_pos hc118]
                      rw [hf]; exact at128
                    · refine own_run (g' := (mkF m 125 #[.val (.int p0)] [(.int (8591 : Int32)), (.int p0)])) (fun _ kt => XS.icmpNo X0.here hx rfl (hb hby d1_118) rfl ((flt hc118).1) (XS.iloadN X0.here hx rfl (hb hby d1_121) rfl (XS.sipush X0.here hx rfl (hb hby d1_122) (kt)))) ?_
                      by_cases hc125 : (8591 : Int32) < p0
                      · refine own_run (g' := (mkF m 128 #[.val (.int p0)] [])) (fun _ kt => XS.icmpNo X0.here hx rfl (hb hby d1_125) rfl ((tlt hc125).2.2.2) (kt)) ?_
                        have hf : own_f1_114 p0 = own_f1_128 p0 := by unfold own_f1_114; rw [if_neg hc118, if_pos hc125]
                        rw [hf]; exact at128
                      · refine own_run (g' := (mkF m 203 #[.val (.int p0)] [(.int (1 : Int32))])) (fun _ kt => XS.icmpYes X0.here hx rfl (pc0 := 125) (pc' := 198) rfl (hb hby d1_125) rfl ((flt hc125).2.2.2) (by decide) (by decide) (XS.iconst X0.here hx rfl (hb hby d1_198) (XS.goto X0.here hx rfl (pc0 := 199) (pc' := 203) rfl (hb hby d1_199) (by decide) (by decide) (kt)))) ?_
                        have hf : own_f1_114 p0 = (1 : Int32) := by unfold own_f1_114; rw [if_neg hc118, if_neg hc125]
                        exact own_retN (t := .boolean) X0 hx Bd.notSynchronized Bd.returns (by simp) (hb hby d1_203) (by decide) (by decide) ⟨congrArg (fun z => some (Value.int z)) hf.symm, N0, e0⟩
                  by_cases hc104 : p0 < (8204 : Int32)
                  · refine own_run (g' := (mkF m 114 #[.val (.int p0)] [])) (fun _ kt => XS.icmpYes X0.here hx rfl (pc0 := 104) (pc' := 114) rfl (hb hby d1_104) rfl ((tlt hc104).1) (by decide) (by decide) (kt)) ?_
                    have hf : own_f1_100 p0 = own_f1_114 p0 := by unfold own_f1_100; rw [if_pos hc104]
                    rw [hf]; exact at114
                  · refine own_run (g' := (mkF m 111 #[.val (.int p0)] [(.int (8205 : Int32)), (.int p0)])) (fun _ kt => XS.icmpNo X0.here hx rfl (hb hby d1_104) rfl ((flt hc104).1) (XS.iloadN X0.here hx rfl (hb hby d1_107) rfl (XS.sipush X0.here hx rfl (hb hby d1_108) (kt)))) ?_
                    by_cases hc111 : (8205 : Int32) < p0
                    · refine own_run (g' := (mkF m 114 #[.val (.int p0)] [])) (fun _ kt => XS.icmpNo X0.here hx rfl (hb hby d1_111) rfl ((tlt hc111).2.2.2) (kt)) ?_
                      have hf : own_f1_100 p0 = own_f1_114 p0 := by unfold own_f1_100; rw [if_neg hc104, if_pos hc111]
                      rw [hf]; exact at114
                    · refine own_run (g' := (mkF m 203 #[.val (.int p0)] [(.int (1 : Int32))])) (fun _ kt => XS.icmpYes X0.here hx rfl (pc0 := 111) (pc' := 198) rfl (hb hby d1_111) rfl ((flt hc111).2.2.2) (by decide) (by decide) (XS.iconst X0.here hx rfl (hb hby d1_198) (XS.goto X0.here hx rfl (pc0 := 199) (pc' := 203) rfl (hb hby d1_199) (by decide) (by decide) (kt)))) ?_
                      have hf : own_f1_100 p0 = (1 : Int32) := by unfold own_f1_100; rw [if_neg hc104, if_neg hc111]
                      exact own_retN (t := .boolean) X0 hx Bd.notSynchronized Bd.returns (by simp) (hb hby d1_203) (by decide) (by decide) ⟨congrArg (fun z => some (Value.int z)) hf.symm, N0, e0⟩
                by_cases hc90 : p0 < (895 : Int32)
                · refine own_run (g' := (mkF m 100 #[.val (.int p0)] [])) (fun _ kt => XS.icmpYes X0.here hx rfl (pc0 := 90) (pc' := 100) rfl (hb hby d1_90) rfl ((tlt hc90).1) (by decide) (by decide) (kt)) ?_
                  have hf : own_f1_86 p0 = own_f1_100 p0 := by unfold own_f1_86; rw [if_pos hc90]
                  rw [hf]; exact at100
                · refine own_run (g' := (mkF m 97 #[.val (.int p0)] [(.int (8191 : Int32)), (.int p0)])) (fun _ kt => XS.icmpNo X0.here hx rfl (hb hby d1_90) rfl ((flt hc90).1) (XS.iloadN X0.here hx rfl (hb hby d1_93) rfl (XS.sipush X0.here hx rfl (hb hby d1_94) (kt)))) ?_
                  by_cases hc97 : (8191 : Int32) < p0
                  · refine own_run (g' := (mkF m 100 #[.val (.int p0)] [])) (fun _ kt => XS.icmpNo X0.here hx rfl (hb hby d1_97) rfl ((tlt hc97).2.2.2) (kt)) ?_
                    have hf : own_f1_86 p0 = own_f1_100 p0 := by unfold own_f1_86; rw [if_neg hc90, if_pos hc97]
                    rw [hf]; exact at100
                  · refine own_run (g' := (mkF m 203 #[.val (.int p0)] [(.int (1 : Int32))])) (fun _ kt => XS.icmpYes X0.here hx rfl (pc0 := 97) (pc' := 198) rfl (hb hby d1_97) rfl ((flt hc97).2.2.2) (by decide) (by decide) (XS.iconst X0.here hx rfl (hb hby d1_198) (XS.goto X0.here hx rfl (pc0 := 199) (pc' := 203) rfl (hb hby d1_199) (by decide) (by decide) (kt)))) ?_
                    have hf : own_f1_86 p0 = (1 : Int32) := by unfold own_f1_86; rw [if_neg hc90, if_neg hc97]
                    exact own_retN (t := .boolean) X0 hx Bd.notSynchronized Bd.returns (by simp) (hb hby d1_203) (by decide) (by decide) ⟨congrArg (fun z => some (Value.int z)) hf.symm, N0, e0⟩
              by_cases hc76 : p0 < (880 : Int32)
              · refine own_run (g' := (mkF m 86 #[.val (.int p0)] [])) (fun _ kt => XS.icmpYes X0.here hx rfl (pc0 := 76) (pc' := 86) rfl (hb hby d1_76) rfl ((tlt hc76).1) (by decide) (by decide) (kt)) ?_
                have hf : own_f1_72 p0 = own_f1_86 p0 := by unfold own_f1_72; rw [if_pos hc76]
                rw [hf]; exact at86
              · refine own_run (g' := (mkF m 83 #[.val (.int p0)] [(.int (893 : Int32)), (.int p0)])) (fun _ kt => XS.icmpNo X0.here hx rfl (hb hby d1_76) rfl ((flt hc76).1) (XS.iloadN X0.here hx rfl (hb hby d1_79) rfl (XS.sipush X0.here hx rfl (hb hby d1_80) (kt)))) ?_
                by_cases hc83 : (893 : Int32) < p0
                · refine own_run (g' := (mkF m 86 #[.val (.int p0)] [])) (fun _ kt => XS.icmpNo X0.here hx rfl (hb hby d1_83) rfl ((tlt hc83).2.2.2) (kt)) ?_
                  have hf : own_f1_72 p0 = own_f1_86 p0 := by unfold own_f1_72; rw [if_neg hc76, if_pos hc83]
                  rw [hf]; exact at86
                · refine own_run (g' := (mkF m 203 #[.val (.int p0)] [(.int (1 : Int32))])) (fun _ kt => XS.icmpYes X0.here hx rfl (pc0 := 83) (pc' := 198) rfl (hb hby d1_83) rfl ((flt hc83).2.2.2) (by decide) (by decide) (XS.iconst X0.here hx rfl (hb hby d1_198) (XS.goto X0.here hx rfl (pc0 := 199) (pc' := 203) rfl (hb hby d1_199) (by decide) (by decide) (kt)))) ?_
                  have hf : own_f1_72 p0 = (1 : Int32) := by unfold own_f1_72; rw [if_neg hc76, if_neg hc83]
                  exact own_retN (t := .boolean) X0 hx Bd.notSynchronized Bd.returns (by simp) (hb hby d1_203) (by decide) (by decide) ⟨congrArg (fun z => some (Value.int z)) hf.symm, N0, e0⟩
            by_cases hc62 : p0 < (248 : Int32)
            · refine own_run (g' := (mkF m 72 #[.val (.int p0)] [])) (fun _ kt => XS.icmpYes X0.here hx rfl (pc0 := 62) (pc' := 72) rfl (hb hby d1_62) rfl ((tlt hc62).1) (by decide) (by decide) (kt)) ?_
              have hf : own_f1_58 p0 = own_f1_72 p0 := by unfold own_f1_58; rw [if_pos hc62]
              rw [hf]; exact at72
            · refine own_run (g' := (mkF m 69 #[.val (.int p0)] [(.int (767 : Int32)), (.int p0)])) (fun _ kt => XS.icmpNo X0.here hx rfl (hb hby d1_62) rfl ((flt hc62).1) (XS.iloadN X0.here hx rfl (hb hby d1_65) rfl (XS.sipush X0.here hx rfl (hb hby d1_66) (kt)))) ?_
              by_cases hc69 : (767 : Int32) < p0
              · refine own_run (g' := (mkF m 72 #[.val (.int p0)] [])) (fun _ kt => XS.icmpNo X0.here hx rfl (hb hby d1_69) rfl ((tlt hc69).2.2.2) (kt)) ?_
                have hf : own_f1_58 p0 = own_f1_72 p0 := by unfold own_f1_58; rw [if_neg hc62, if_pos hc69]
                rw [hf]; exact at72
              · refine own_run (g' := (mkF m 203 #[.val (.int p0)] [(.int (1 : Int32))])) (fun _ kt => XS.icmpYes X0.here hx rfl (pc0 := 69) (pc' := 198) rfl (hb hby d1_69) rfl ((flt hc69).2.2.2) (by decide) (by decide) (XS.iconst X0.here hx rfl (hb hby d1_198) (XS.goto X0.here hx rfl (pc0 := 199) (pc' := 203) rfl (hb hby d1_199) (by decide) (by decide) (kt)))) ?_
                have hf : own_f1_58 p0 = (1 : Int32) := by unfold own_f1_58; rw [if_neg hc62, if_neg hc69]
                exact own_retN (t := .boolean) X0 hx Bd.notSynchronized Bd.returns (by simp) (hb hby d1_203) (by decide) (by decide) ⟨congrArg (fun z => some (Value.int z)) hf.symm, N0, e0⟩
          by_cases hc48 : p0 < (216 : Int32)
          · refine own_run (g' := (mkF m 58 #[.val (.int p0)] [])) (fun _ kt => XS.icmpYes X0.here hx rfl (pc0 := 48) (pc' := 58) rfl (hb hby d1_48) rfl ((tlt hc48).1) (by decide) (by decide) (kt)) ?_
            have hf : own_f1_44 p0 = own_f1_58 p0 := by unfold own_f1_44; rw [if_pos hc48]
            rw [hf]; exact at58
          · refine own_run (g' := (mkF m 55 #[.val (.int p0)] [(.int (246 : Int32)), (.int p0)])) (fun _ kt => XS.icmpNo X0.here hx rfl (hb hby d1_48) rfl ((flt hc48).1) (XS.iloadN X0.here hx rfl (hb hby d1_51) rfl (XS.sipush X0.here hx rfl (hb hby d1_52) (kt)))) ?_
            by_cases hc55 : (246 : Int32) < p0
            · refine own_run (g' := (mkF m 58 #[.val (.int p0)] [])) (fun _ kt => XS.icmpNo X0.here hx rfl (hb hby d1_55) rfl ((tlt hc55).2.2.2) (kt)) ?_
              have hf : own_f1_44 p0 = own_f1_58 p0 := by unfold own_f1_44; rw [if_neg hc48, if_pos hc55]
              rw [hf]; exact at58
            · refine own_run (g' := (mkF m 203 #[.val (.int p0)] [(.int (1 : Int32))])) (fun _ kt => XS.icmpYes X0.here hx rfl (pc0 := 55) (pc' := 198) rfl (hb hby d1_55) rfl ((flt hc55).2.2.2) (by decide) (by decide) (XS.iconst X0.here hx rfl (hb hby d1_198) (XS.goto X0.here hx rfl (pc0 := 199) (pc' := 203) rfl (hb hby d1_199) (by decide) (by decide) (kt)))) ?_
              have hf : own_f1_44 p0 = (1 : Int32) := by unfold own_f1_44; rw [if_neg hc48, if_neg hc55]
              exact own_retN (t := .boolean) X0 hx Bd.notSynchronized Bd.returns (by simp) (hb hby d1_203) (by decide) (by decide) ⟨congrArg (fun z => some (Value.int z)) hf.symm, N0, e0⟩
        by_cases hc34 : p0 < (192 : Int32)
        · refine own_run (g' := (mkF m 44 #[.val (.int p0)] [])) (fun _ kt => XS.icmpYes X0.here hx rfl (pc0 := 34) (pc' := 44) rfl (hb hby d1_34) rfl ((tlt hc34).1) (by decide) (by decide) (kt)) ?_
          have hf : own_f1_24 p0 = own_f1_44 p0 := by unfold own_f1_24; rw [if_neg hc27, if_pos hc34]
          rw [hf]; exact at44
        · refine own_run (g' := (mkF m 41 #[.val (.int p0)] [(.int (214 : Int32)), (.int p0)])) (fun _ kt => XS.icmpNo X0.here hx rfl (hb hby d1_34) rfl ((flt hc34).1) (XS.iloadN X0.here hx rfl (hb hby d1_37) rfl (XS.sipush X0.here hx rfl (hb hby d1_38) (kt)))) ?_
          by_cases hc41 : (214 : Int32) < p0
          · refine own_run (g' := (mkF m 44 #[.val (.int p0)] [])) (fun _ kt => XS.icmpNo X0.here hx rfl (hb hby d1_41) rfl ((tlt hc41).2.2.2) (kt)) ?_
            have hf : own_f1_24 p0 = own_f1_44 p0 := by unfold own_f1_24; rw [if_neg hc27, if_neg hc34, if_pos hc41]
            rw [hf]; exact at44
          · refine own_run (g' := (mkF m 203 #[.val (.int p0)] [(.int (1 : Int32))])) (fun _ kt => XS.icmpYes X0.here hx rfl (pc0 := 41) (pc' := 198) rfl (hb hby d1_41) rfl ((flt hc41).2.2.2) (by decide) (by decide) (XS.iconst X0.here hx rfl (hb hby d1_198) (XS.goto X0.here hx rfl (pc0 := 199) (pc' := 203) rfl (hb hby d1_199) (by decide) (by decide) (kt)))) ?_
            have hf : own_f1_24 p0 = (1 : Int32) := by unfold own_f1_24; rw [if_neg hc27, if_neg hc34, if_neg hc41]
            exact own_retN (t := .boolean) X0 hx Bd.notSynchronized Bd.returns (by simp) (hb hby d1_203) (by decide) (by decide) ⟨congrArg (fun z => some (Value.int z)) hf.symm, N0, e0⟩
    by_cases hc15 : p0 < (65 : Int32)
    · refine own_run (g' := (mkF m 24 #[.val (.int p0)] [])) (fun _ kt => XS.icmpYes X0.here hx rfl (pc0 := 15) (pc' := 24) rfl (hb hby d1_15) rfl ((tlt hc15).1) (by decide) (by decide) (kt)) ?_
      have hf : own_f1_12 p0 = own_f1_24 p0 := by unfold own_f1_12; rw [if_pos hc15]
      rw [hf]; exact at24
    · refine own_run (g' := (mkF m 21 #[.val (.int p0)] [(.int (90 : Int32)), (.int p0)])) (fun _ kt => XS.icmpNo X0.here hx rfl (hb hby d1_15) rfl ((flt hc15).1) (XS.iloadN X0.here hx rfl (hb hby d1_18) rfl (XS.bipush X0.here hx rfl (hb hby d1_19) (kt)))) ?_
      by_cases hc21 : (90 : Int32) < p0
      · refine own_run (g' := (mkF m 24 #[.val (.int p0)] [])) (fun _ kt => XS.icmpNo X0.here hx rfl (hb hby d1_21) rfl ((tlt hc21).2.2.2) (kt)) ?_
        have hf : own_f1_12 p0 = own_f1_24 p0 := by unfold own_f1_12; rw [if_neg hc15, if_pos hc21]
        rw [hf]; exact at24
      · refine own_run (g' := (mkF m 203 #[.val (.int p0)] [(.int (1 : Int32))])) (fun _ kt => XS.icmpYes X0.here hx rfl (pc0 := 21) (pc' := 198) rfl (hb hby d1_21) rfl ((flt hc21).2.2.2) (by decide) (by decide) (XS.iconst X0.here hx rfl (hb hby d1_198) (XS.goto X0.here hx rfl (pc0 := 199) (pc' := 203) rfl (hb hby d1_199) (by decide) (by decide) (kt)))) ?_
        have hf : own_f1_12 p0 = (1 : Int32) := by unfold own_f1_12; rw [if_neg hc15, if_neg hc21]
        exact own_retN (t := .boolean) X0 hx Bd.notSynchronized Bd.returns (by simp) (hb hby d1_203) (by decide) (by decide) ⟨congrArg (fun z => some (Value.int z)) hf.symm, N0, e0⟩
  by_cases hc3 : p0 < (97 : Int32)
  · refine own_run (g' := (mkF m 12 #[.val (.int p0)] [])) (fun _ kt => XS.icmpYes X0.here hx rfl (pc0 := 3) (pc' := 12) rfl (hb hby d1_3) rfl ((tlt hc3).1) (by decide) (by decide) (kt)) ?_
    have hf : own_f1 p0 = own_f1_12 p0 := by unfold own_f1; rw [if_pos hc3]
    rw [hf]; exact at12
  · refine own_run (g' := (mkF m 9 #[.val (.int p0)] [(.int (122 : Int32)), (.int p0)])) (fun _ kt => XS.icmpNo X0.here hx rfl (hb hby d1_3) rfl ((flt hc3).1) (XS.iloadN X0.here hx rfl (hb hby d1_6) rfl (XS.bipush X0.here hx rfl (hb hby d1_7) (kt)))) ?_
    by_cases hc9 : (122 : Int32) < p0
    · refine own_run (g' := (mkF m 12 #[.val (.int p0)] [])) (fun _ kt => XS.icmpNo X0.here hx rfl (hb hby d1_9) rfl ((tlt hc9).2.2.2) (kt)) ?_
      have hf : own_f1 p0 = own_f1_12 p0 := by unfold own_f1; rw [if_neg hc3, if_pos hc9]
      rw [hf]; exact at12
    · refine own_run (g' := (mkF m 203 #[.val (.int p0)] [(.int (1 : Int32))])) (fun _ kt => XS.icmpYes X0.here hx rfl (pc0 := 9) (pc' := 198) rfl (hb hby d1_9) rfl ((flt hc9).2.2.2) (by decide) (by decide) (XS.iconst X0.here hx rfl (hb hby d1_198) (XS.goto X0.here hx rfl (pc0 := 199) (pc' := 203) rfl (hb hby d1_199) (by decide) (by decide) (kt)))) ?_
      have hf : own_f1 p0 = (1 : Int32) := by unfold own_f1; rw [if_neg hc3, if_neg hc9]
      exact own_retN (t := .boolean) X0 hx Bd.notSynchronized Bd.returns (by simp) (hb hby d1_203) (by decide) (by decide) ⟨congrArg (fun z => some (Value.int z)) hf.symm, N0, e0⟩
theorem own_pn2 : plainName "com/example/lean_markup/leanmarkup/service/ExpressionTextIsNameStartPinLaw" = true := by first | (simp [plainName, overriddenIn]; done) | decide +kernel
theorem own_ef2 (m : MethodId) (p0 : Int32) : entryFrame m #[(.int p0)] 1 = mkF m 0 #[.val (.int p0)] [] := by first | (simp [entryFrame, mkF, argsToLocals, Value.category]; done) | rfl
def own_R2 : Room := ({ frames := 0, cells := 0, slots := 0, locals := 0 } : Room)
def own_f2_184 (p0 : Int32) : Int32 := (if p0 < (65534 : Int32) then (1 : Int32) else (if (65535 : Int32) < p0 then (1 : Int32) else (0 : Int32)))
def own_f2_170 (p0 : Int32) : Int32 := (if p0 < (64976 : Int32) then (own_f2_184 p0) else (if (65007 : Int32) < p0 then (own_f2_184 p0) else (0 : Int32)))
def own_f2_156 (p0 : Int32) : Int32 := (if p0 < (55296 : Int32) then (own_f2_170 p0) else (if (63743 : Int32) < p0 then (own_f2_170 p0) else (0 : Int32)))
def own_f2_140 (p0 : Int32) : Int32 := (if p0 < (12272 : Int32) then (own_f2_156 p0) else (if (12288 : Int32) < p0 then (own_f2_156 p0) else (0 : Int32)))
def own_f2_124 (p0 : Int32) : Int32 := (if p0 < (8592 : Int32) then (own_f2_140 p0) else (if (11263 : Int32) < p0 then (own_f2_140 p0) else (0 : Int32)))
def own_f2_108 (p0 : Int32) : Int32 := (if p0 < (8206 : Int32) then (own_f2_124 p0) else (if (8303 : Int32) < p0 then (own_f2_124 p0) else (0 : Int32)))
def own_f2_83 (p0 : Int32) : Int32 := (if p0 = (894 : Int32) then (0 : Int32) else (if p0 < (8192 : Int32) then (own_f2_108 p0) else (if (8203 : Int32) < p0 then (own_f2_108 p0) else (0 : Int32))))
def own_f2_51 (p0 : Int32) : Int32 := (if p0 = (215 : Int32) then (0 : Int32) else (if p0 = (247 : Int32) then (0 : Int32) else (if p0 < (768 : Int32) then (own_f2_83 p0) else (if (879 : Int32) < p0 then (own_f2_83 p0) else (0 : Int32)))))
def own_f2_28 (p0 : Int32) : Int32 := (if p0 = (96 : Int32) then (0 : Int32) else (if p0 < (123 : Int32) then (own_f2_51 p0) else (if (191 : Int32) < p0 then (own_f2_51 p0) else (0 : Int32))))
def own_f2 (p0 : Int32) : Int32 := (if p0 < (65 : Int32) then (0 : Int32) else (if (983039 : Int32) < p0 then (0 : Int32) else (if p0 < (91 : Int32) then (own_f2_28 p0) else (if (94 : Int32) < p0 then (own_f2_28 p0) else (0 : Int32)))))
def Q2 (z : Int32) (h0 : Heap) (n0 : Nat) (v : Option Value) (h : Heap) (L : List Loc) : Prop := v = some (Value.int z) ∧ Fr n0 L ∧ h = h0
theorem d2_0 : decode method_3_code 0 = .ok (.iload_n 0, 1) := by decide +kernel
theorem d2_1 : decode method_3_code 1 = .ok (.bipush 65, 2) := by decide +kernel
theorem d2_3 : decode method_3_code 3 = .ok (.if_icmp .lt 9, 3) := by decide +kernel
theorem d2_6 : decode method_3_code 6 = .ok (.iload_n 0, 1) := by decide +kernel
theorem d2_7 : decode method_3_code 7 = .ok (.ldc 13, 2) := by decide +kernel
theorem d2_9 : decode method_3_code 9 = .ok (.if_icmp .le 5, 3) := by decide +kernel
theorem d2_12 : decode method_3_code 12 = .ok (.iconst 0, 1) := by decide +kernel
theorem d2_13 : decode method_3_code 13 = .ok (.ireturn, 1) := by decide +kernel
theorem d2_14 : decode method_3_code 14 = .ok (.iload_n 0, 1) := by decide +kernel
theorem d2_15 : decode method_3_code 15 = .ok (.bipush 91, 2) := by decide +kernel
theorem d2_17 : decode method_3_code 17 = .ok (.if_icmp .lt 11, 3) := by decide +kernel
theorem d2_20 : decode method_3_code 20 = .ok (.iload_n 0, 1) := by decide +kernel
theorem d2_21 : decode method_3_code 21 = .ok (.bipush 94, 2) := by decide +kernel
theorem d2_23 : decode method_3_code 23 = .ok (.if_icmp .gt 5, 3) := by decide +kernel
theorem d2_26 : decode method_3_code 26 = .ok (.iconst 0, 1) := by decide +kernel
theorem d2_27 : decode method_3_code 27 = .ok (.ireturn, 1) := by decide +kernel
theorem d2_28 : decode method_3_code 28 = .ok (.iload_n 0, 1) := by decide +kernel
theorem d2_29 : decode method_3_code 29 = .ok (.bipush 96, 2) := by decide +kernel
theorem d2_31 : decode method_3_code 31 = .ok (.if_icmp .ne 5, 3) := by decide +kernel
theorem d2_34 : decode method_3_code 34 = .ok (.iconst 0, 1) := by decide +kernel
theorem d2_35 : decode method_3_code 35 = .ok (.ireturn, 1) := by decide +kernel
theorem d2_36 : decode method_3_code 36 = .ok (.iload_n 0, 1) := by decide +kernel
theorem d2_37 : decode method_3_code 37 = .ok (.bipush 123, 2) := by decide +kernel
theorem d2_39 : decode method_3_code 39 = .ok (.if_icmp .lt 12, 3) := by decide +kernel
theorem d2_42 : decode method_3_code 42 = .ok (.iload_n 0, 1) := by decide +kernel
theorem d2_43 : decode method_3_code 43 = .ok (.sipush 191, 3) := by decide +kernel
theorem d2_46 : decode method_3_code 46 = .ok (.if_icmp .gt 5, 3) := by decide +kernel
theorem d2_49 : decode method_3_code 49 = .ok (.iconst 0, 1) := by decide +kernel
theorem d2_50 : decode method_3_code 50 = .ok (.ireturn, 1) := by decide +kernel
theorem d2_51 : decode method_3_code 51 = .ok (.iload_n 0, 1) := by decide +kernel
theorem d2_52 : decode method_3_code 52 = .ok (.sipush 215, 3) := by decide +kernel
theorem d2_55 : decode method_3_code 55 = .ok (.if_icmp .eq 10, 3) := by decide +kernel
theorem d2_58 : decode method_3_code 58 = .ok (.iload_n 0, 1) := by decide +kernel
theorem d2_59 : decode method_3_code 59 = .ok (.sipush 247, 3) := by decide +kernel
theorem d2_62 : decode method_3_code 62 = .ok (.if_icmp .ne 5, 3) := by decide +kernel
theorem d2_65 : decode method_3_code 65 = .ok (.iconst 0, 1) := by decide +kernel
theorem d2_66 : decode method_3_code 66 = .ok (.ireturn, 1) := by decide +kernel
theorem d2_67 : decode method_3_code 67 = .ok (.iload_n 0, 1) := by decide +kernel
theorem d2_68 : decode method_3_code 68 = .ok (.sipush 768, 3) := by decide +kernel
theorem d2_71 : decode method_3_code 71 = .ok (.if_icmp .lt 12, 3) := by decide +kernel
theorem d2_74 : decode method_3_code 74 = .ok (.iload_n 0, 1) := by decide +kernel
theorem d2_75 : decode method_3_code 75 = .ok (.sipush 879, 3) := by decide +kernel
theorem d2_78 : decode method_3_code 78 = .ok (.if_icmp .gt 5, 3) := by decide +kernel
theorem d2_81 : decode method_3_code 81 = .ok (.iconst 0, 1) := by decide +kernel
theorem d2_82 : decode method_3_code 82 = .ok (.ireturn, 1) := by decide +kernel
theorem d2_83 : decode method_3_code 83 = .ok (.iload_n 0, 1) := by decide +kernel
theorem d2_84 : decode method_3_code 84 = .ok (.sipush 894, 3) := by decide +kernel
theorem d2_87 : decode method_3_code 87 = .ok (.if_icmp .ne 5, 3) := by decide +kernel
theorem d2_90 : decode method_3_code 90 = .ok (.iconst 0, 1) := by decide +kernel
theorem d2_91 : decode method_3_code 91 = .ok (.ireturn, 1) := by decide +kernel
theorem d2_92 : decode method_3_code 92 = .ok (.iload_n 0, 1) := by decide +kernel
theorem d2_93 : decode method_3_code 93 = .ok (.sipush 8192, 3) := by decide +kernel
theorem d2_96 : decode method_3_code 96 = .ok (.if_icmp .lt 12, 3) := by decide +kernel
theorem d2_99 : decode method_3_code 99 = .ok (.iload_n 0, 1) := by decide +kernel
theorem d2_100 : decode method_3_code 100 = .ok (.sipush 8203, 3) := by decide +kernel
theorem d2_103 : decode method_3_code 103 = .ok (.if_icmp .gt 5, 3) := by decide +kernel
theorem d2_106 : decode method_3_code 106 = .ok (.iconst 0, 1) := by decide +kernel
theorem d2_107 : decode method_3_code 107 = .ok (.ireturn, 1) := by decide +kernel
theorem d2_108 : decode method_3_code 108 = .ok (.iload_n 0, 1) := by decide +kernel
theorem d2_109 : decode method_3_code 109 = .ok (.sipush 8206, 3) := by decide +kernel
theorem d2_112 : decode method_3_code 112 = .ok (.if_icmp .lt 12, 3) := by decide +kernel
theorem d2_115 : decode method_3_code 115 = .ok (.iload_n 0, 1) := by decide +kernel
theorem d2_116 : decode method_3_code 116 = .ok (.sipush 8303, 3) := by decide +kernel
theorem d2_119 : decode method_3_code 119 = .ok (.if_icmp .gt 5, 3) := by decide +kernel
theorem d2_122 : decode method_3_code 122 = .ok (.iconst 0, 1) := by decide +kernel
theorem d2_123 : decode method_3_code 123 = .ok (.ireturn, 1) := by decide +kernel
theorem d2_124 : decode method_3_code 124 = .ok (.iload_n 0, 1) := by decide +kernel
theorem d2_125 : decode method_3_code 125 = .ok (.sipush 8592, 3) := by decide +kernel
theorem d2_128 : decode method_3_code 128 = .ok (.if_icmp .lt 12, 3) := by decide +kernel
theorem d2_131 : decode method_3_code 131 = .ok (.iload_n 0, 1) := by decide +kernel
theorem d2_132 : decode method_3_code 132 = .ok (.sipush 11263, 3) := by decide +kernel
theorem d2_135 : decode method_3_code 135 = .ok (.if_icmp .gt 5, 3) := by decide +kernel
theorem d2_138 : decode method_3_code 138 = .ok (.iconst 0, 1) := by decide +kernel
theorem d2_139 : decode method_3_code 139 = .ok (.ireturn, 1) := by decide +kernel
theorem d2_140 : decode method_3_code 140 = .ok (.iload_n 0, 1) := by decide +kernel
theorem d2_141 : decode method_3_code 141 = .ok (.sipush 12272, 3) := by decide +kernel
theorem d2_144 : decode method_3_code 144 = .ok (.if_icmp .lt 12, 3) := by decide +kernel
theorem d2_147 : decode method_3_code 147 = .ok (.iload_n 0, 1) := by decide +kernel
theorem d2_148 : decode method_3_code 148 = .ok (.sipush 12288, 3) := by decide +kernel
theorem d2_151 : decode method_3_code 151 = .ok (.if_icmp .gt 5, 3) := by decide +kernel
theorem d2_154 : decode method_3_code 154 = .ok (.iconst 0, 1) := by decide +kernel
theorem d2_155 : decode method_3_code 155 = .ok (.ireturn, 1) := by decide +kernel
theorem d2_156 : decode method_3_code 156 = .ok (.iload_n 0, 1) := by decide +kernel
theorem d2_157 : decode method_3_code 157 = .ok (.ldc 26, 2) := by decide +kernel
theorem d2_159 : decode method_3_code 159 = .ok (.if_icmp .lt 11, 3) := by decide +kernel
theorem d2_162 : decode method_3_code 162 = .ok (.iload_n 0, 1) := by decide +kernel
theorem d2_163 : decode method_3_code 163 = .ok (.ldc 27, 2) := by decide +kernel
theorem d2_165 : decode method_3_code 165 = .ok (.if_icmp .gt 5, 3) := by decide +kernel
theorem d2_168 : decode method_3_code 168 = .ok (.iconst 0, 1) := by decide +kernel
theorem d2_169 : decode method_3_code 169 = .ok (.ireturn, 1) := by decide +kernel
theorem d2_170 : decode method_3_code 170 = .ok (.iload_n 0, 1) := by decide +kernel
theorem d2_171 : decode method_3_code 171 = .ok (.ldc 28, 2) := by decide +kernel
theorem d2_173 : decode method_3_code 173 = .ok (.if_icmp .lt 11, 3) := by decide +kernel
theorem d2_176 : decode method_3_code 176 = .ok (.iload_n 0, 1) := by decide +kernel
theorem d2_177 : decode method_3_code 177 = .ok (.ldc 29, 2) := by decide +kernel
theorem d2_179 : decode method_3_code 179 = .ok (.if_icmp .gt 5, 3) := by decide +kernel
theorem d2_182 : decode method_3_code 182 = .ok (.iconst 0, 1) := by decide +kernel
theorem d2_183 : decode method_3_code 183 = .ok (.ireturn, 1) := by decide +kernel
theorem d2_184 : decode method_3_code 184 = .ok (.iload_n 0, 1) := by decide +kernel
theorem d2_185 : decode method_3_code 185 = .ok (.ldc 30, 2) := by decide +kernel
theorem d2_187 : decode method_3_code 187 = .ok (.if_icmp .lt 11, 3) := by decide +kernel
theorem d2_190 : decode method_3_code 190 = .ok (.iload_n 0, 1) := by decide +kernel
theorem d2_191 : decode method_3_code 191 = .ok (.ldc 31, 2) := by decide +kernel
theorem d2_193 : decode method_3_code 193 = .ok (.if_icmp .gt 5, 3) := by decide +kernel
theorem d2_196 : decode method_3_code 196 = .ok (.iconst 0, 1) := by decide +kernel
theorem d2_197 : decode method_3_code 197 = .ok (.ireturn, 1) := by decide +kernel
theorem d2_198 : decode method_3_code 198 = .ok (.iconst 1, 1) := by decide +kernel
theorem d2_199 : decode method_3_code 199 = .ok (.ireturn, 1) := by decide +kernel
set_option maxRecDepth 65536 in
set_option maxHeartbeats 40000000 in
theorem rm2 (l : Launch) (Z : State) (a0 : Array Value) (hw : ∀ d ∈ tables_1, d.before a0 Z = true) (ws : List Jvm.Cond) (p0 : Int32) (h0 : Heap) (n0 : Nat) :
    MetFree l (⟨"com/example/lean_markup/leanmarkup/service/ExpressionTextIsNameStartPinLaw", "reference", "(I)Z"⟩ : MethodName) (head1 (Jvm.Cond.code (⟨"com/example/lean_markup/leanmarkup/service/ExpressionTextIsNameStartPinLaw", "reference", "(I)Z"⟩ : MethodName) method_3_code 1 (some .boolean) :: ws) own_R2) (fun a U => a = #[(.int p0)] ∧ Z.Warmed39 U.vm ∧ U.heap = h0) (fun _ _ _ _ _ => True) (fun _ U o U' => ∃ v L, o = .returned v ∧ Q2 (own_f2 p0) h0 n0 v U'.heap L ∧ FrameEnd U o U' L own_R2.cells own_R2.slots) := by
  refine MetFree.of_bodySF (plainFor_of_name own_pn2) hisR ?_
  intro p e s m args below meth c s₁ Bd hml0 hP hK
  obtain ⟨ha, hZ, hh⟩ := hP
  have hx := Bd.exec
  have hby := Bd.bytes
  have hml : c.maxLocals = 1 := hml0
  have hown : s.vm.findClass "com/example/lean_markup/leanmarkup/service/ExpressionTextIsNameStartPinLaw" = some m.cls := findClass_of_methodNamed Bd.named
  have hnm := (name_of_methodNamed Bd.named Bd.method).1
  have X0 : Stand p l e own_R2 s m args below meth c s₁ [] 0 0 := Stand.of_body Bd
  have e0 : s₁.heap = h0 := by rw [← hh, Bd.state]; rfl
  have N0 := Fr.nil n0
  refine own_enter (Q := (Q2 (own_f2 p0) h0 n0)) (g := mkF m 0 #[.val (.int p0)] []) (by rw [ha]; exact own_ef2 m p0) ?_
  refine own_run (g' := (mkF m 3 #[.val (.int p0)] [(.int (65 : Int32)), (.int p0)])) (fun _ kt => XS.iloadN X0.here hx rfl (hb hby d2_0) rfl (XS.bipush X0.here hx rfl (hb hby d2_1) (kt))) ?_
  by_cases hc3 : p0 < (65 : Int32)
  · refine own_run (g' := (mkF m 13 #[.val (.int p0)] [(.int (0 : Int32))])) (fun _ kt => XS.icmpYes X0.here hx rfl (pc0 := 3) (pc' := 12) rfl (hb hby d2_3) rfl ((tlt hc3).1) (by decide) (by decide) (XS.iconst X0.here hx rfl (hb hby d2_12) (kt))) ?_
    have hf : own_f2 p0 = (0 : Int32) := by unfold own_f2; rw [if_pos hc3]
    exact own_retN (t := .boolean) X0 hx Bd.notSynchronized Bd.returns (by simp) (hb hby d2_13) (by decide) (by decide) ⟨congrArg (fun z => some (Value.int z)) hf.symm, N0, e0⟩
  · refine own_run (g' := (mkF m 7 #[.val (.int p0)] [(.int p0)])) (fun _ kt => XS.icmpNo X0.here hx rfl (hb hby d2_3) rfl ((flt hc3).1) (XS.iloadN X0.here hx rfl (hb hby d2_6) rfl (kt))) ?_
    refine own_ldcI X0 hx hZ hown (hw _ (List.mem_of_getElem? (i := 7) rfl)) (hb hby d2_7) ?_
    by_cases hc9 : (983039 : Int32) < p0
    · refine own_run (g' := (mkF m 13 #[.val (.int p0)] [(.int (0 : Int32))])) (fun _ kt => XS.icmpNo X0.here hx rfl (hb hby d2_9) rfl ((tlt hc9).2.2.2) (XS.iconst X0.here hx rfl (hb hby d2_12) (kt))) ?_
      have hf : own_f2 p0 = (0 : Int32) := by unfold own_f2; rw [if_neg hc3, if_pos hc9]
      exact own_retN (t := .boolean) X0 hx Bd.notSynchronized Bd.returns (by simp) (hb hby d2_13) (by decide) (by decide) ⟨congrArg (fun z => some (Value.int z)) hf.symm, N0, e0⟩
    · refine own_run (g' := (mkF m 17 #[.val (.int p0)] [(.int (91 : Int32)), (.int p0)])) (fun _ kt => XS.icmpYes X0.here hx rfl (pc0 := 9) (pc' := 14) rfl (hb hby d2_9) rfl ((flt hc9).2.2.2) (by decide) (by decide) (XS.iloadN X0.here hx rfl (hb hby d2_14) rfl (XS.bipush X0.here hx rfl (hb hby d2_15) (kt)))) ?_
      have at28 : own_Run p e below s own_R2.cells own_R2.slots (Q2 (own_f2_28 p0) h0 n0) s₁ (mkF m 28 #[.val (.int p0)] []) := by
        refine own_run (g' := (mkF m 31 #[.val (.int p0)] [(.int (96 : Int32)), (.int p0)])) (fun _ kt => XS.iloadN X0.here hx rfl (hb hby d2_28) rfl (XS.bipush X0.here hx rfl (hb hby d2_29) (kt))) ?_
        by_cases hc31 : p0 = (96 : Int32)
        · refine own_run (g' := (mkF m 35 #[.val (.int p0)] [(.int (0 : Int32))])) (fun _ kt => XS.icmpNo X0.here hx rfl (hb hby d2_31) rfl ((teq hc31).2) (XS.iconst X0.here hx rfl (hb hby d2_34) (kt))) ?_
          have hf : own_f2_28 p0 = (0 : Int32) := by unfold own_f2_28; rw [if_pos hc31]
          exact own_retN (t := .boolean) X0 hx Bd.notSynchronized Bd.returns (by simp) (hb hby d2_35) (by decide) (by decide) ⟨congrArg (fun z => some (Value.int z)) hf.symm, N0, e0⟩
        · refine own_run (g' := (mkF m 39 #[.val (.int p0)] [(.int (123 : Int32)), (.int p0)])) (fun _ kt => XS.icmpYes X0.here hx rfl (pc0 := 31) (pc' := 36) rfl (hb hby d2_31) rfl ((feq hc31).2) (by decide) (by decide) (XS.iloadN X0.here hx rfl (hb hby d2_36) rfl (XS.bipush X0.here hx rfl (hb hby d2_37) (kt)))) ?_
          have at51 : own_Run p e below s own_R2.cells own_R2.slots (Q2 (own_f2_51 p0) h0 n0) s₁ (mkF m 51 #[.val (.int p0)] []) := by
            refine own_run (g' := (mkF m 55 #[.val (.int p0)] [(.int (215 : Int32)), (.int p0)])) (fun _ kt => XS.iloadN X0.here hx rfl (hb hby d2_51) rfl (XS.sipush X0.here hx rfl (hb hby d2_52) (kt))) ?_
            by_cases hc55 : p0 = (215 : Int32)
            · refine own_run (g' := (mkF m 66 #[.val (.int p0)] [(.int (0 : Int32))])) (fun _ kt => XS.icmpYes X0.here hx rfl (pc0 := 55) (pc' := 65) rfl (hb hby d2_55) rfl ((teq hc55).1) (by decide) (by decide) (XS.iconst X0.here hx rfl (hb hby d2_65) (kt))) ?_
              have hf : own_f2_51 p0 = (0 : Int32) := by unfold own_f2_51; rw [if_pos hc55]
              exact own_retN (t := .boolean) X0 hx Bd.notSynchronized Bd.returns (by simp) (hb hby d2_66) (by decide) (by decide) ⟨congrArg (fun z => some (Value.int z)) hf.symm, N0, e0⟩
            · refine own_run (g' := (mkF m 62 #[.val (.int p0)] [(.int (247 : Int32)), (.int p0)])) (fun _ kt => XS.icmpNo X0.here hx rfl (hb hby d2_55) rfl ((feq hc55).1) (XS.iloadN X0.here hx rfl (hb hby d2_58) rfl (XS.sipush X0.here hx rfl (hb hby d2_59) (kt)))) ?_
              by_cases hc62 : p0 = (247 : Int32)
              · refine own_run (g' := (mkF m 66 #[.val (.int p0)] [(.int (0 : Int32))])) (fun _ kt => XS.icmpNo X0.here hx rfl (hb hby d2_62) rfl ((teq hc62).2) (XS.iconst X0.here hx rfl (hb hby d2_65) (kt))) ?_
                have hf : own_f2_51 p0 = (0 : Int32) := by unfold own_f2_51; rw [if_neg hc55, if_pos hc62]
                exact own_retN (t := .boolean) X0 hx Bd.notSynchronized Bd.returns (by simp) (hb hby d2_66) (by decide) (by decide) ⟨congrArg (fun z => some (Value.int z)) hf.symm, N0, e0⟩
              · refine own_run (g' := (mkF m 71 #[.val (.int p0)] [(.int (768 : Int32)), (.int p0)])) (fun _ kt => XS.icmpYes X0.here hx rfl (pc0 := 62) (pc' := 67) rfl (hb hby d2_62) rfl ((feq hc62).2) (by decide) (by decide) (XS.iloadN X0.here hx rfl (hb hby d2_67) rfl (XS.sipush X0.here hx rfl (hb hby d2_68) (kt)))) ?_
                have at83 : own_Run p e below s own_R2.cells own_R2.slots (Q2 (own_f2_83 p0) h0 n0) s₁ (mkF m 83 #[.val (.int p0)] []) := by
                  refine own_run (g' := (mkF m 87 #[.val (.int p0)] [(.int (894 : Int32)), (.int p0)])) (fun _ kt => XS.iloadN X0.here hx rfl (hb hby d2_83) rfl (XS.sipush X0.here hx rfl (hb hby d2_84) (kt))) ?_
                  by_cases hc87 : p0 = (894 : Int32)
                  · refine own_run (g' := (mkF m 91 #[.val (.int p0)] [(.int (0 : Int32))])) (fun _ kt => XS.icmpNo X0.here hx rfl (hb hby d2_87) rfl ((teq hc87).2) (XS.iconst X0.here hx rfl (hb hby d2_90) (kt))) ?_
                    have hf : own_f2_83 p0 = (0 : Int32) := by unfold own_f2_83; rw [if_pos hc87]
                    exact own_retN (t := .boolean) X0 hx Bd.notSynchronized Bd.returns (by simp) (hb hby d2_91) (by decide) (by decide) ⟨congrArg (fun z => some (Value.int z)) hf.symm, N0, e0⟩
                  · refine own_run (g' := (mkF m 96 #[.val (.int p0)] [(.int (8192 : Int32)), (.int p0)])) (fun _ kt => XS.icmpYes X0.here hx rfl (pc0 := 87) (pc' := 92) rfl (hb hby d2_87) rfl ((feq hc87).2) (by decide) (by decide) (XS.iloadN X0.here hx rfl (hb hby d2_92) rfl (XS.sipush X0.here hx rfl (hb hby d2_93) (kt)))) ?_
                    have at108 : own_Run p e below s own_R2.cells own_R2.slots (Q2 (own_f2_108 p0) h0 n0) s₁ (mkF m 108 #[.val (.int p0)] []) := by
                      refine own_run (g' := (mkF m 112 #[.val (.int p0)] [(.int (8206 : Int32)), (.int p0)])) (fun _ kt => XS.iloadN X0.here hx rfl (hb hby d2_108) rfl (XS.sipush X0.here hx rfl (hb hby d2_109) (kt))) ?_
                      have at124 : own_Run p e below s own_R2.cells own_R2.slots (Q2 (own_f2_124 p0) h0 n0) s₁ (mkF m 124 #[.val (.int p0)] []) := by
                        refine own_run (g' := (mkF m 128 #[.val (.int p0)] [(.int (8592 : Int32)), (.int p0)])) (fun _ kt => XS.iloadN X0.here hx rfl (hb hby d2_124) rfl (XS.sipush X0.here hx rfl (hb hby d2_125) (kt))) ?_
                        have at140 : own_Run p e below s own_R2.cells own_R2.slots (Q2 (own_f2_140 p0) h0 n0) s₁ (mkF m 140 #[.val (.int p0)] []) := by
                          refine own_run (g' := (mkF m 144 #[.val (.int p0)] [(.int (12272 : Int32)), (.int p0)])) (fun _ kt => XS.iloadN X0.here hx rfl (hb hby d2_140) rfl (XS.sipush X0.here hx rfl (hb hby d2_141) (kt))) ?_
                          have at156 : own_Run p e below s own_R2.cells own_R2.slots (Q2 (own_f2_156 p0) h0 n0) s₁ (mkF m 156 #[.val (.int p0)] []) := by
                            refine own_run (g' := (mkF m 157 #[.val (.int p0)] [(.int p0)])) (fun _ kt => XS.iloadN X0.here hx rfl (hb hby d2_156) rfl (kt)) ?_
                            refine own_ldcI X0 hx hZ hown (hw _ (List.mem_of_getElem? (i := 24) rfl)) (hb hby d2_157) ?_
                            have at170 : own_Run p e below s own_R2.cells own_R2.slots (Q2 (own_f2_170 p0) h0 n0) s₁ (mkF m 170 #[.val (.int p0)] []) := by
                              refine own_run (g' := (mkF m 171 #[.val (.int p0)] [(.int p0)])) (fun _ kt => XS.iloadN X0.here hx rfl (hb hby d2_170) rfl (kt)) ?_
                              refine own_ldcI X0 hx hZ hown (hw _ (List.mem_of_getElem? (i := 25) rfl)) (hb hby d2_171) ?_
                              have at184 : own_Run p e below s own_R2.cells own_R2.slots (Q2 (own_f2_184 p0) h0 n0) s₁ (mkF m 184 #[.val (.int p0)] []) := by
                                refine own_run (g' := (mkF m 185 #[.val (.int p0)] [(.int p0)])) (fun _ kt => XS.iloadN X0.here hx rfl (hb hby d2_184) rfl (kt)) ?_
                                refine own_ldcI X0 hx hZ hown (hw _ (List.mem_of_getElem? (i := 26) rfl)) (hb hby d2_185) ?_
                                by_cases hc187 : p0 < (65534 : Int32)
                                · refine own_run (g' := (mkF m 199 #[.val (.int p0)] [(.int (1 : Int32))])) (fun _ kt => XS.icmpYes X0.here hx rfl (pc0 := 187) (pc' := 198) rfl (hb hby d2_187) rfl ((tlt hc187).1) (by decide) (by decide) (XS.iconst X0.here hx rfl (hb hby d2_198) (kt))) ?_
                                  have hf : own_f2_184 p0 = (1 : Int32) := by unfold own_f2_184; rw [if_pos hc187]
                                  exact own_retN (t := .boolean) X0 hx Bd.notSynchronized Bd.returns (by simp) (hb hby d2_199) (by decide) (by decide) ⟨congrArg (fun z => some (Value.int z)) hf.symm, N0, e0⟩
                                · refine own_run (g' := (mkF m 191 #[.val (.int p0)] [(.int p0)])) (fun _ kt => XS.icmpNo X0.here hx rfl (hb hby d2_187) rfl ((flt hc187).1) (XS.iloadN X0.here hx rfl (hb hby d2_190) rfl (kt))) ?_
                                  refine own_ldcI X0 hx hZ hown (hw _ (List.mem_of_getElem? (i := 29) rfl)) (hb hby d2_191) ?_
                                  by_cases hc193 : (65535 : Int32) < p0
                                  · refine own_run (g' := (mkF m 199 #[.val (.int p0)] [(.int (1 : Int32))])) (fun _ kt => XS.icmpYes X0.here hx rfl (pc0 := 193) (pc' := 198) rfl (hb hby d2_193) rfl ((tlt hc193).2.2.1) (by decide) (by decide) (XS.iconst X0.here hx rfl (hb hby d2_198) (kt))) ?_
                                    have hf : own_f2_184 p0 = (1 : Int32) := by unfold own_f2_184; rw [if_neg hc187, if_pos hc193]
                                    exact own_retN (t := .boolean) X0 hx Bd.notSynchronized Bd.returns (by simp) (hb hby d2_199) (by decide) (by decide) ⟨congrArg (fun z => some (Value.int z)) hf.symm, N0, e0⟩
                                  · refine own_run (g' := (mkF m 197 #[.val (.int p0)] [(.int (0 : Int32))])) (fun _ kt => XS.icmpNo X0.here hx rfl (hb hby d2_193) rfl ((flt hc193).2.2.1) (XS.iconst X0.here hx rfl (hb hby d2_196) (kt))) ?_
                                    have hf : own_f2_184 p0 = (0 : Int32) := by unfold own_f2_184; rw [if_neg hc187, if_neg hc193]
                                    exact own_retN (t := .boolean) X0 hx Bd.notSynchronized Bd.returns (by simp) (hb hby d2_197) (by decide) (by decide) ⟨congrArg (fun z => some (Value.int z)) hf.symm, N0, e0⟩
                              by_cases hc173 : p0 < (64976 : Int32)
                              · refine own_run (g' := (mkF m 184 #[.val (.int p0)] [])) (fun _ kt => XS.icmpYes X0.here hx rfl (pc0 := 173) (pc' := 184) rfl (hb hby d2_173) rfl ((tlt hc173).1) (by decide) (by decide) (kt)) ?_
                                have hf : own_f2_170 p0 = own_f2_184 p0 := by unfold own_f2_170; rw [if_pos hc173]
                                rw [hf]; exact at184
                              · refine own_run (g' := (mkF m 177 #[.val (.int p0)] [(.int p0)])) (fun _ kt => XS.icmpNo X0.here hx rfl (hb hby d2_173) rfl ((flt hc173).1) (XS.iloadN X0.here hx rfl (hb hby d2_176) rfl (kt))) ?_
                                refine own_ldcI X0 hx hZ hown (hw _ (List.mem_of_getElem? (i := 28) rfl)) (hb hby d2_177) ?_
                                by_cases hc179 : (65007 : Int32) < p0
                                · refine own_run (g' := (mkF m 184 #[.val (.int p0)] [])) (fun _ kt => XS.icmpYes X0.here hx rfl (pc0 := 179) (pc' := 184) rfl (hb hby d2_179) rfl ((tlt hc179).2.2.1) (by decide) (by decide) (kt)) ?_
                                  have hf : own_f2_170 p0 = own_f2_184 p0 := by unfold own_f2_170; rw [if_neg hc173, if_pos hc179]
                                  rw [hf]; exact at184
                                · refine own_run (g' := (mkF m 183 #[.val (.int p0)] [(.int (0 : Int32))])) (fun _ kt => XS.icmpNo X0.here hx rfl (hb hby d2_179) rfl ((flt hc179).2.2.1) (XS.iconst X0.here hx rfl (hb hby d2_182) (kt))) ?_
                                  have hf : own_f2_170 p0 = (0 : Int32) := by unfold own_f2_170; rw [if_neg hc173, if_neg hc179]
                                  exact own_retN (t := .boolean) X0 hx Bd.notSynchronized Bd.returns (by simp) (hb hby d2_183) (by decide) (by decide) ⟨congrArg (fun z => some (Value.int z)) hf.symm, N0, e0⟩
                            by_cases hc159 : p0 < (55296 : Int32)
                            · refine own_run (g' := (mkF m 170 #[.val (.int p0)] [])) (fun _ kt => XS.icmpYes X0.here hx rfl (pc0 := 159) (pc' := 170) rfl (hb hby d2_159) rfl ((tlt hc159).1) (by decide) (by decide) (kt)) ?_
                              have hf : own_f2_156 p0 = own_f2_170 p0 := by unfold own_f2_156; rw [if_pos hc159]
                              rw [hf]; exact at170
                            · refine own_run (g' := (mkF m 163 #[.val (.int p0)] [(.int p0)])) (fun _ kt => XS.icmpNo X0.here hx rfl (hb hby d2_159) rfl ((flt hc159).1) (XS.iloadN X0.here hx rfl (hb hby d2_162) rfl (kt))) ?_
                              refine own_ldcI X0 hx hZ hown (hw _ (List.mem_of_getElem? (i := 27) rfl)) (hb hby d2_163) ?_
                              by_cases hc165 : (63743 : Int32) < p0
                              · refine own_run (g' := (mkF m 170 #[.val (.int p0)] [])) (fun _ kt => XS.icmpYes X0.here hx rfl (pc0 := 165) (pc' := 170) rfl (hb hby d2_165) rfl ((tlt hc165).2.2.1) (by decide) (by decide) (kt)) ?_
                                have hf : own_f2_156 p0 = own_f2_170 p0 := by unfold own_f2_156; rw [if_neg hc159, if_pos hc165]
                                rw [hf]; exact at170
                              · refine own_run (g' := (mkF m 169 #[.val (.int p0)] [(.int (0 : Int32))])) (fun _ kt => XS.icmpNo X0.here hx rfl (hb hby d2_165) rfl ((flt hc165).2.2.1) (XS.iconst X0.here hx rfl (hb hby d2_168) (kt))) ?_
                                have hf : own_f2_156 p0 = (0 : Int32) := by unfold own_f2_156; rw [if_neg hc159, if_neg hc165]
                                exact own_retN (t := .boolean) X0 hx Bd.notSynchronized Bd.returns (by simp) (hb hby d2_169) (by decide) (by decide) ⟨congrArg (fun z => some (Value.int z)) hf.symm, N0, e0⟩
                          by_cases hc144 : p0 < (12272 : Int32)
                          · refine own_run (g' := (mkF m 156 #[.val (.int p0)] [])) (fun _ kt => XS.icmpYes X0.here hx rfl (pc0 := 144) (pc' := 156) rfl (hb hby d2_144) rfl ((tlt hc144).1) (by decide) (by decide) (kt)) ?_
                            have hf : own_f2_140 p0 = own_f2_156 p0 := by unfold own_f2_140; rw [if_pos hc144]
                            rw [hf]; exact at156
                          · refine own_run (g' := (mkF m 151 #[.val (.int p0)] [(.int (12288 : Int32)), (.int p0)])) (fun _ kt => XS.icmpNo X0.here hx rfl (hb hby d2_144) rfl ((flt hc144).1) (XS.iloadN X0.here hx rfl (hb hby d2_147) rfl (XS.sipush X0.here hx rfl (hb hby d2_148) (kt)))) ?_
                            by_cases hc151 : (12288 : Int32) < p0
                            · refine own_run (g' := (mkF m 156 #[.val (.int p0)] [])) (fun _ kt => XS.icmpYes X0.here hx rfl (pc0 := 151) (pc' := 156) rfl (hb hby d2_151) rfl ((tlt hc151).2.2.1) (by decide) (by decide) (kt)) ?_
                              have hf : own_f2_140 p0 = own_f2_156 p0 := by unfold own_f2_140; rw [if_neg hc144, if_pos hc151]
                              rw [hf]; exact at156
                            · refine own_run (g' := (mkF m 155 #[.val (.int p0)] [(.int (0 : Int32))])) (fun _ kt => XS.icmpNo X0.here hx rfl (hb hby d2_151) rfl ((flt hc151).2.2.1) (XS.iconst X0.here hx rfl (hb hby d2_154) (kt))) ?_
                              have hf : own_f2_140 p0 = (0 : Int32) := by unfold own_f2_140; rw [if_neg hc144, if_neg hc151]
                              exact own_retN (t := .boolean) X0 hx Bd.notSynchronized Bd.returns (by simp) (hb hby d2_155) (by decide) (by decide) ⟨congrArg (fun z => some (Value.int z)) hf.symm, N0, e0⟩
                        by_cases hc128 : p0 < (8592 : Int32)
                        · refine own_run (g' := (mkF m 140 #[.val (.int p0)] [])) (fun _ kt => XS.icmpYes X0.here hx rfl (pc0 := 128) (pc' := 140) rfl (hb hby d2_128) rfl ((tlt hc128).1) (by decide) (by decide) (kt)) ?_
                          have hf : own_f2_124 p0 = own_f2_140 p0 := by unfold own_f2_124; rw [if_pos hc128]
                          rw [hf]; exact at140
                        · refine own_run (g' := (mkF m 135 #[.val (.int p0)] [(.int (11263 : Int32)), (.int p0)])) (fun _ kt => XS.icmpNo X0.here hx rfl (hb hby d2_128) rfl ((flt hc128).1) (XS.iloadN X0.here hx rfl (hb hby d2_131) rfl (XS.sipush X0.here hx rfl (hb hby d2_132) (kt)))) ?_
                          by_cases hc135 : (11263 : Int32) < p0
                          · refine own_run (g' := (mkF m 140 #[.val (.int p0)] [])) (fun _ kt => XS.icmpYes X0.here hx rfl (pc0 := 135) (pc' := 140) rfl (hb hby d2_135) rfl ((tlt hc135).2.2.1) (by decide) (by decide) (kt)) ?_
                            have hf : own_f2_124 p0 = own_f2_140 p0 := by unfold own_f2_124; rw [if_neg hc128, if_pos hc135]
                            rw [hf]; exact at140
                          · refine own_run (g' := (mkF m 139 #[.val (.int p0)] [(.int (0 : Int32))])) (fun _ kt => XS.icmpNo X0.here hx rfl (hb hby d2_135) rfl ((flt hc135).2.2.1) (XS.iconst X0.here hx rfl (hb hby d2_138) (kt))) ?_
                            have hf : own_f2_124 p0 = (0 : Int32) := by unfold own_f2_124; rw [if_neg hc128, if_neg hc135]
                            exact own_retN (t := .boolean) X0 hx Bd.notSynchronized Bd.returns (by simp) (hb hby d2_139) (by decide) (by decide) ⟨congrArg (fun z => some (Value.int z)) hf.symm, N0, e0⟩
                      by_cases hc112 : p0 < (8206 : Int32)
                      · refine own_run (g' := (mkF m 124 #[.val (.int p0)] [])) (fun _ kt => XS.icmpYes X0.here hx rfl (pc0 := 112) (pc' := 124) rfl (hb hby d2_112) rfl ((tlt hc112).1) (by decide) (by decide) (kt)) ?_
                        have hf : own_f2_108 p0 = own_f2_124 p0 := by unfold own_f2_108; rw [if_pos hc112]
                        rw [hf]; exact at124
                      · refine own_run (g' := (mkF m 119 #[.val (.int p0)] [(.int (8303 : Int32)), (.int p0)])) (fun _ kt => XS.icmpNo X0.here hx rfl (hb hby d2_112) rfl ((flt hc112).1) (XS.iloadN X0.here hx rfl (hb hby d2_115) rfl (XS.sipush X0.here hx rfl (hb hby d2_116) (kt)))) ?_
                        by_cases hc119 : (8303 : Int32) < p0
                        · refine own_run (g' := (mkF m 124 #[.val (.int p0)] [])) (fun _ kt => XS.icmpYes X0.here hx rfl (pc0 := 119) (pc' := 124) rfl (hb hby d2_119) rfl ((tlt hc119).2.2.1) (by decide) (by decide) (kt)) ?_
                          have hf : own_f2_108 p0 = own_f2_124 p0 := by unfold own_f2_108; rw [if_neg hc112, if_pos hc119]
                          rw [hf]; exact at124
                        · refine own_run (g' := (mkF m 123 #[.val (.int p0)] [(.int (0 : Int32))])) (fun _ kt => XS.icmpNo X0.here hx rfl (hb hby d2_119) rfl ((flt hc119).2.2.1) (XS.iconst X0.here hx rfl (hb hby d2_122) (kt))) ?_
                          have hf : own_f2_108 p0 = (0 : Int32) := by unfold own_f2_108; rw [if_neg hc112, if_neg hc119]
                          exact own_retN (t := .boolean) X0 hx Bd.notSynchronized Bd.returns (by simp) (hb hby d2_123) (by decide) (by decide) ⟨congrArg (fun z => some (Value.int z)) hf.symm, N0, e0⟩
                    by_cases hc96 : p0 < (8192 : Int32)
                    · refine own_run (g' := (mkF m 108 #[.val (.int p0)] [])) (fun _ kt => XS.icmpYes X0.here hx rfl (pc0 := 96) (pc' := 108) rfl (hb hby d2_96) rfl ((tlt hc96).1) (by decide) (by decide) (kt)) ?_
                      have hf : own_f2_83 p0 = own_f2_108 p0 := by unfold own_f2_83; rw [if_neg hc87, if_pos hc96]
                      rw [hf]; exact at108
                    · refine own_run (g' := (mkF m 103 #[.val (.int p0)] [(.int (8203 : Int32)), (.int p0)])) (fun _ kt => XS.icmpNo X0.here hx rfl (hb hby d2_96) rfl ((flt hc96).1) (XS.iloadN X0.here hx rfl (hb hby d2_99) rfl (XS.sipush X0.here hx rfl (hb hby d2_100) (kt)))) ?_
                      by_cases hc103 : (8203 : Int32) < p0
                      · refine own_run (g' := (mkF m 108 #[.val (.int p0)] [])) (fun _ kt => XS.icmpYes X0.here hx rfl (pc0 := 103) (pc' := 108) rfl (hb hby d2_103) rfl ((tlt hc103).2.2.1) (by decide) (by decide) (kt)) ?_
                        have hf : own_f2_83 p0 = own_f2_108 p0 := by unfold own_f2_83; rw [if_neg hc87, if_neg hc96, if_pos hc103]
                        rw [hf]; exact at108
                      · refine own_run (g' := (mkF m 107 #[.val (.int p0)] [(.int (0 : Int32))])) (fun _ kt => XS.icmpNo X0.here hx rfl (hb hby d2_103) rfl ((flt hc103).2.2.1) (XS.iconst X0.here hx rfl (hb hby d2_106) (kt))) ?_
                        have hf : own_f2_83 p0 = (0 : Int32) := by unfold own_f2_83; rw [if_neg hc87, if_neg hc96, if_neg hc103]
                        exact own_retN (t := .boolean) X0 hx Bd.notSynchronized Bd.returns (by simp) (hb hby d2_107) (by decide) (by decide) ⟨congrArg (fun z => some (Value.int z)) hf.symm, N0, e0⟩
                by_cases hc71 : p0 < (768 : Int32)
                · refine own_run (g' := (mkF m 83 #[.val (.int p0)] [])) (fun _ kt => XS.icmpYes X0.here hx rfl (pc0 := 71) (pc' := 83) rfl (hb hby d2_71) rfl ((tlt hc71).1) (by decide) (by decide) (kt)) ?_
                  have hf : own_f2_51 p0 = own_f2_83 p0 := by unfold own_f2_51; rw [if_neg hc55, if_neg hc62, if_pos hc71]
                  rw [hf]; exact at83
                · refine own_run (g' := (mkF m 78 #[.val (.int p0)] [(.int (879 : Int32)), (.int p0)])) (fun _ kt => XS.icmpNo X0.here hx rfl (hb hby d2_71) rfl ((flt hc71).1) (XS.iloadN X0.here hx rfl (hb hby d2_74) rfl (XS.sipush X0.here hx rfl (hb hby d2_75) (kt)))) ?_
                  by_cases hc78 : (879 : Int32) < p0
                  · refine own_run (g' := (mkF m 83 #[.val (.int p0)] [])) (fun _ kt => XS.icmpYes X0.here hx rfl (pc0 := 78) (pc' := 83) rfl (hb hby d2_78) rfl ((tlt hc78).2.2.1) (by decide) (by decide) (kt)) ?_
                    have hf : own_f2_51 p0 = own_f2_83 p0 := by unfold own_f2_51; rw [if_neg hc55, if_neg hc62, if_neg hc71, if_pos hc78]
                    rw [hf]; exact at83
                  · refine own_run (g' := (mkF m 82 #[.val (.int p0)] [(.int (0 : Int32))])) (fun _ kt => XS.icmpNo X0.here hx rfl (hb hby d2_78) rfl ((flt hc78).2.2.1) (XS.iconst X0.here hx rfl (hb hby d2_81) (kt))) ?_
                    have hf : own_f2_51 p0 = (0 : Int32) := by unfold own_f2_51; rw [if_neg hc55, if_neg hc62, if_neg hc71, if_neg hc78]
                    exact own_retN (t := .boolean) X0 hx Bd.notSynchronized Bd.returns (by simp) (hb hby d2_82) (by decide) (by decide) ⟨congrArg (fun z => some (Value.int z)) hf.symm, N0, e0⟩
          by_cases hc39 : p0 < (123 : Int32)
          · refine own_run (g' := (mkF m 51 #[.val (.int p0)] [])) (fun _ kt => XS.icmpYes X0.here hx rfl (pc0 := 39) (pc' := 51) rfl (hb hby d2_39) rfl ((tlt hc39).1) (by decide) (by decide) (kt)) ?_
            have hf : own_f2_28 p0 = own_f2_51 p0 := by unfold own_f2_28; rw [if_neg hc31, if_pos hc39]
            rw [hf]; exact at51
          · refine own_run (g' := (mkF m 46 #[.val (.int p0)] [(.int (191 : Int32)), (.int p0)])) (fun _ kt => XS.icmpNo X0.here hx rfl (hb hby d2_39) rfl ((flt hc39).1) (XS.iloadN X0.here hx rfl (hb hby d2_42) rfl (XS.sipush X0.here hx rfl (hb hby d2_43) (kt)))) ?_
            by_cases hc46 : (191 : Int32) < p0
            · refine own_run (g' := (mkF m 51 #[.val (.int p0)] [])) (fun _ kt => XS.icmpYes X0.here hx rfl (pc0 := 46) (pc' := 51) rfl (hb hby d2_46) rfl ((tlt hc46).2.2.1) (by decide) (by decide) (kt)) ?_
              have hf : own_f2_28 p0 = own_f2_51 p0 := by unfold own_f2_28; rw [if_neg hc31, if_neg hc39, if_pos hc46]
              rw [hf]; exact at51
            · refine own_run (g' := (mkF m 50 #[.val (.int p0)] [(.int (0 : Int32))])) (fun _ kt => XS.icmpNo X0.here hx rfl (hb hby d2_46) rfl ((flt hc46).2.2.1) (XS.iconst X0.here hx rfl (hb hby d2_49) (kt))) ?_
              have hf : own_f2_28 p0 = (0 : Int32) := by unfold own_f2_28; rw [if_neg hc31, if_neg hc39, if_neg hc46]
              exact own_retN (t := .boolean) X0 hx Bd.notSynchronized Bd.returns (by simp) (hb hby d2_50) (by decide) (by decide) ⟨congrArg (fun z => some (Value.int z)) hf.symm, N0, e0⟩
      by_cases hc17 : p0 < (91 : Int32)
      · refine own_run (g' := (mkF m 28 #[.val (.int p0)] [])) (fun _ kt => XS.icmpYes X0.here hx rfl (pc0 := 17) (pc' := 28) rfl (hb hby d2_17) rfl ((tlt hc17).1) (by decide) (by decide) (kt)) ?_
        have hf : own_f2 p0 = own_f2_28 p0 := by unfold own_f2; rw [if_neg hc3, if_neg hc9, if_pos hc17]
        rw [hf]; exact at28
      · refine own_run (g' := (mkF m 23 #[.val (.int p0)] [(.int (94 : Int32)), (.int p0)])) (fun _ kt => XS.icmpNo X0.here hx rfl (hb hby d2_17) rfl ((flt hc17).1) (XS.iloadN X0.here hx rfl (hb hby d2_20) rfl (XS.bipush X0.here hx rfl (hb hby d2_21) (kt)))) ?_
        by_cases hc23 : (94 : Int32) < p0
        · refine own_run (g' := (mkF m 28 #[.val (.int p0)] [])) (fun _ kt => XS.icmpYes X0.here hx rfl (pc0 := 23) (pc' := 28) rfl (hb hby d2_23) rfl ((tlt hc23).2.2.1) (by decide) (by decide) (kt)) ?_
          have hf : own_f2 p0 = own_f2_28 p0 := by unfold own_f2; rw [if_neg hc3, if_neg hc9, if_neg hc17, if_pos hc23]
          rw [hf]; exact at28
        · refine own_run (g' := (mkF m 27 #[.val (.int p0)] [(.int (0 : Int32))])) (fun _ kt => XS.icmpNo X0.here hx rfl (hb hby d2_23) rfl ((flt hc23).2.2.1) (XS.iconst X0.here hx rfl (hb hby d2_26) (kt))) ?_
          have hf : own_f2 p0 = (0 : Int32) := by unfold own_f2; rw [if_neg hc3, if_neg hc9, if_neg hc17, if_neg hc23]
          exact own_retN (t := .boolean) X0 hx Bd.notSynchronized Bd.returns (by simp) (hb hby d2_27) (by decide) (by decide) ⟨congrArg (fun z => some (Value.int z)) hf.symm, N0, e0⟩
theorem own_lt {p c : Int32} {n : Int} (hc : c.toInt = n) (h : p.toInt < n) : p < c := by rw [Int32.lt_iff_toInt_lt]; omega
theorem own_ltn {p c : Int32} {n : Int} (hc : c.toInt = n) (h : n ≤ p.toInt) : ¬ p < c := by rw [Int32.lt_iff_toInt_lt]; omega
theorem own_gt {p c : Int32} {n : Int} (hc : c.toInt = n) (h : n < p.toInt) : c < p := by rw [Int32.lt_iff_toInt_lt]; omega
theorem own_gtn {p c : Int32} {n : Int} (hc : c.toInt = n) (h : p.toInt ≤ n) : ¬ c < p := by rw [Int32.lt_iff_toInt_lt]; omega
theorem own_eq {p c : Int32} {n : Int} (hc : c.toInt = n) (h : p.toInt = n) : p = c := Int32.toInt_inj.mp (h.trans hc.symm)
theorem own_eqn {p c : Int32} {n : Int} (hc : c.toInt = n) (h : ¬ p.toInt = n) : ¬ p = c := fun q => h (q ▸ hc)
theorem own_iv0 (p0 : Int32) (h2 : p0.toInt < 65) : own_f1 p0 = own_f2 p0 := by
  rw [own_f1, if_pos (own_lt (n := 97) rfl (by omega)), own_f1_12, if_pos (own_lt (n := 65) rfl (by omega)), own_f1_24, if_neg (own_eqn (n := 95) rfl (by omega)), if_pos (own_lt (n := 192) rfl (by omega)), own_f1_44, if_pos (own_lt (n := 216) rfl (by omega)), own_f1_58, if_pos (own_lt (n := 248) rfl (by omega)), own_f1_72, if_pos (own_lt (n := 880) rfl (by omega)), own_f1_86, if_pos (own_lt (n := 895) rfl (by omega)), own_f1_100, if_pos (own_lt (n := 8204) rfl (by omega)), own_f1_114, if_pos (own_lt (n := 8304) rfl (by omega)), own_f1_128, if_pos (own_lt (n := 11264) rfl (by omega)), own_f1_142, if_pos (own_lt (n := 12289) rfl (by omega)), own_f1_156, if_pos (own_lt (n := 63744) rfl (by omega)), own_f1_170, if_pos (own_lt (n := 65008) rfl (by omega)), own_f1_184, if_pos (own_lt (n := 65536) rfl (by omega))]
  rw [own_f2, if_pos (own_lt (n := 65) rfl (by omega))]
theorem own_iv1 (p0 : Int32) (h1 : 65 ≤ p0.toInt) (h2 : p0.toInt < 91) : own_f1 p0 = own_f2 p0 := by
  rw [own_f1, if_pos (own_lt (n := 97) rfl (by omega)), own_f1_12, if_neg (own_ltn (n := 65) rfl (by omega)), if_neg (own_gtn (n := 90) rfl (by omega))]
  rw [own_f2, if_neg (own_ltn (n := 65) rfl (by omega)), if_neg (own_gtn (n := 983039) rfl (by omega)), if_pos (own_lt (n := 91) rfl (by omega)), own_f2_28, if_neg (own_eqn (n := 96) rfl (by omega)), if_pos (own_lt (n := 123) rfl (by omega)), own_f2_51, if_neg (own_eqn (n := 215) rfl (by omega)), if_neg (own_eqn (n := 247) rfl (by omega)), if_pos (own_lt (n := 768) rfl (by omega)), own_f2_83, if_neg (own_eqn (n := 894) rfl (by omega)), if_pos (own_lt (n := 8192) rfl (by omega)), own_f2_108, if_pos (own_lt (n := 8206) rfl (by omega)), own_f2_124, if_pos (own_lt (n := 8592) rfl (by omega)), own_f2_140, if_pos (own_lt (n := 12272) rfl (by omega)), own_f2_156, if_pos (own_lt (n := 55296) rfl (by omega)), own_f2_170, if_pos (own_lt (n := 64976) rfl (by omega)), own_f2_184, if_pos (own_lt (n := 65534) rfl (by omega))]
theorem own_iv2 (p0 : Int32) (h1 : 91 ≤ p0.toInt) (h2 : p0.toInt < 95) : own_f1 p0 = own_f2 p0 := by
  rw [own_f1, if_pos (own_lt (n := 97) rfl (by omega)), own_f1_12, if_neg (own_ltn (n := 65) rfl (by omega)), if_pos (own_gt (n := 90) rfl (by omega)), own_f1_24, if_neg (own_eqn (n := 95) rfl (by omega)), if_pos (own_lt (n := 192) rfl (by omega)), own_f1_44, if_pos (own_lt (n := 216) rfl (by omega)), own_f1_58, if_pos (own_lt (n := 248) rfl (by omega)), own_f1_72, if_pos (own_lt (n := 880) rfl (by omega)), own_f1_86, if_pos (own_lt (n := 895) rfl (by omega)), own_f1_100, if_pos (own_lt (n := 8204) rfl (by omega)), own_f1_114, if_pos (own_lt (n := 8304) rfl (by omega)), own_f1_128, if_pos (own_lt (n := 11264) rfl (by omega)), own_f1_142, if_pos (own_lt (n := 12289) rfl (by omega)), own_f1_156, if_pos (own_lt (n := 63744) rfl (by omega)), own_f1_170, if_pos (own_lt (n := 65008) rfl (by omega)), own_f1_184, if_pos (own_lt (n := 65536) rfl (by omega))]
  rw [own_f2, if_neg (own_ltn (n := 65) rfl (by omega)), if_neg (own_gtn (n := 983039) rfl (by omega)), if_neg (own_ltn (n := 91) rfl (by omega)), if_neg (own_gtn (n := 94) rfl (by omega))]
theorem own_iv3 (p0 : Int32) (h1 : 95 ≤ p0.toInt) (h2 : p0.toInt < 96) : own_f1 p0 = own_f2 p0 := by
  rw [own_f1, if_pos (own_lt (n := 97) rfl (by omega)), own_f1_12, if_neg (own_ltn (n := 65) rfl (by omega)), if_pos (own_gt (n := 90) rfl (by omega)), own_f1_24, if_pos (own_eq (n := 95) rfl (by omega))]
  rw [own_f2, if_neg (own_ltn (n := 65) rfl (by omega)), if_neg (own_gtn (n := 983039) rfl (by omega)), if_neg (own_ltn (n := 91) rfl (by omega)), if_pos (own_gt (n := 94) rfl (by omega)), own_f2_28, if_neg (own_eqn (n := 96) rfl (by omega)), if_pos (own_lt (n := 123) rfl (by omega)), own_f2_51, if_neg (own_eqn (n := 215) rfl (by omega)), if_neg (own_eqn (n := 247) rfl (by omega)), if_pos (own_lt (n := 768) rfl (by omega)), own_f2_83, if_neg (own_eqn (n := 894) rfl (by omega)), if_pos (own_lt (n := 8192) rfl (by omega)), own_f2_108, if_pos (own_lt (n := 8206) rfl (by omega)), own_f2_124, if_pos (own_lt (n := 8592) rfl (by omega)), own_f2_140, if_pos (own_lt (n := 12272) rfl (by omega)), own_f2_156, if_pos (own_lt (n := 55296) rfl (by omega)), own_f2_170, if_pos (own_lt (n := 64976) rfl (by omega)), own_f2_184, if_pos (own_lt (n := 65534) rfl (by omega))]
theorem own_iv4 (p0 : Int32) (h1 : 96 ≤ p0.toInt) (h2 : p0.toInt < 97) : own_f1 p0 = own_f2 p0 := by
  rw [own_f1, if_pos (own_lt (n := 97) rfl (by omega)), own_f1_12, if_neg (own_ltn (n := 65) rfl (by omega)), if_pos (own_gt (n := 90) rfl (by omega)), own_f1_24, if_neg (own_eqn (n := 95) rfl (by omega)), if_pos (own_lt (n := 192) rfl (by omega)), own_f1_44, if_pos (own_lt (n := 216) rfl (by omega)), own_f1_58, if_pos (own_lt (n := 248) rfl (by omega)), own_f1_72, if_pos (own_lt (n := 880) rfl (by omega)), own_f1_86, if_pos (own_lt (n := 895) rfl (by omega)), own_f1_100, if_pos (own_lt (n := 8204) rfl (by omega)), own_f1_114, if_pos (own_lt (n := 8304) rfl (by omega)), own_f1_128, if_pos (own_lt (n := 11264) rfl (by omega)), own_f1_142, if_pos (own_lt (n := 12289) rfl (by omega)), own_f1_156, if_pos (own_lt (n := 63744) rfl (by omega)), own_f1_170, if_pos (own_lt (n := 65008) rfl (by omega)), own_f1_184, if_pos (own_lt (n := 65536) rfl (by omega))]
  rw [own_f2, if_neg (own_ltn (n := 65) rfl (by omega)), if_neg (own_gtn (n := 983039) rfl (by omega)), if_neg (own_ltn (n := 91) rfl (by omega)), if_pos (own_gt (n := 94) rfl (by omega)), own_f2_28, if_pos (own_eq (n := 96) rfl (by omega))]
theorem own_iv5 (p0 : Int32) (h1 : 97 ≤ p0.toInt) (h2 : p0.toInt < 123) : own_f1 p0 = own_f2 p0 := by
  rw [own_f1, if_neg (own_ltn (n := 97) rfl (by omega)), if_neg (own_gtn (n := 122) rfl (by omega))]
  rw [own_f2, if_neg (own_ltn (n := 65) rfl (by omega)), if_neg (own_gtn (n := 983039) rfl (by omega)), if_neg (own_ltn (n := 91) rfl (by omega)), if_pos (own_gt (n := 94) rfl (by omega)), own_f2_28, if_neg (own_eqn (n := 96) rfl (by omega)), if_pos (own_lt (n := 123) rfl (by omega)), own_f2_51, if_neg (own_eqn (n := 215) rfl (by omega)), if_neg (own_eqn (n := 247) rfl (by omega)), if_pos (own_lt (n := 768) rfl (by omega)), own_f2_83, if_neg (own_eqn (n := 894) rfl (by omega)), if_pos (own_lt (n := 8192) rfl (by omega)), own_f2_108, if_pos (own_lt (n := 8206) rfl (by omega)), own_f2_124, if_pos (own_lt (n := 8592) rfl (by omega)), own_f2_140, if_pos (own_lt (n := 12272) rfl (by omega)), own_f2_156, if_pos (own_lt (n := 55296) rfl (by omega)), own_f2_170, if_pos (own_lt (n := 64976) rfl (by omega)), own_f2_184, if_pos (own_lt (n := 65534) rfl (by omega))]
theorem own_iv6 (p0 : Int32) (h1 : 123 ≤ p0.toInt) (h2 : p0.toInt < 192) : own_f1 p0 = own_f2 p0 := by
  rw [own_f1, if_neg (own_ltn (n := 97) rfl (by omega)), if_pos (own_gt (n := 122) rfl (by omega)), own_f1_12, if_neg (own_ltn (n := 65) rfl (by omega)), if_pos (own_gt (n := 90) rfl (by omega)), own_f1_24, if_neg (own_eqn (n := 95) rfl (by omega)), if_pos (own_lt (n := 192) rfl (by omega)), own_f1_44, if_pos (own_lt (n := 216) rfl (by omega)), own_f1_58, if_pos (own_lt (n := 248) rfl (by omega)), own_f1_72, if_pos (own_lt (n := 880) rfl (by omega)), own_f1_86, if_pos (own_lt (n := 895) rfl (by omega)), own_f1_100, if_pos (own_lt (n := 8204) rfl (by omega)), own_f1_114, if_pos (own_lt (n := 8304) rfl (by omega)), own_f1_128, if_pos (own_lt (n := 11264) rfl (by omega)), own_f1_142, if_pos (own_lt (n := 12289) rfl (by omega)), own_f1_156, if_pos (own_lt (n := 63744) rfl (by omega)), own_f1_170, if_pos (own_lt (n := 65008) rfl (by omega)), own_f1_184, if_pos (own_lt (n := 65536) rfl (by omega))]
  rw [own_f2, if_neg (own_ltn (n := 65) rfl (by omega)), if_neg (own_gtn (n := 983039) rfl (by omega)), if_neg (own_ltn (n := 91) rfl (by omega)), if_pos (own_gt (n := 94) rfl (by omega)), own_f2_28, if_neg (own_eqn (n := 96) rfl (by omega)), if_neg (own_ltn (n := 123) rfl (by omega)), if_neg (own_gtn (n := 191) rfl (by omega))]
theorem own_iv7 (p0 : Int32) (h1 : 192 ≤ p0.toInt) (h2 : p0.toInt < 215) : own_f1 p0 = own_f2 p0 := by
  rw [own_f1, if_neg (own_ltn (n := 97) rfl (by omega)), if_pos (own_gt (n := 122) rfl (by omega)), own_f1_12, if_neg (own_ltn (n := 65) rfl (by omega)), if_pos (own_gt (n := 90) rfl (by omega)), own_f1_24, if_neg (own_eqn (n := 95) rfl (by omega)), if_neg (own_ltn (n := 192) rfl (by omega)), if_neg (own_gtn (n := 214) rfl (by omega))]
  rw [own_f2, if_neg (own_ltn (n := 65) rfl (by omega)), if_neg (own_gtn (n := 983039) rfl (by omega)), if_neg (own_ltn (n := 91) rfl (by omega)), if_pos (own_gt (n := 94) rfl (by omega)), own_f2_28, if_neg (own_eqn (n := 96) rfl (by omega)), if_neg (own_ltn (n := 123) rfl (by omega)), if_pos (own_gt (n := 191) rfl (by omega)), own_f2_51, if_neg (own_eqn (n := 215) rfl (by omega)), if_neg (own_eqn (n := 247) rfl (by omega)), if_pos (own_lt (n := 768) rfl (by omega)), own_f2_83, if_neg (own_eqn (n := 894) rfl (by omega)), if_pos (own_lt (n := 8192) rfl (by omega)), own_f2_108, if_pos (own_lt (n := 8206) rfl (by omega)), own_f2_124, if_pos (own_lt (n := 8592) rfl (by omega)), own_f2_140, if_pos (own_lt (n := 12272) rfl (by omega)), own_f2_156, if_pos (own_lt (n := 55296) rfl (by omega)), own_f2_170, if_pos (own_lt (n := 64976) rfl (by omega)), own_f2_184, if_pos (own_lt (n := 65534) rfl (by omega))]
theorem own_iv8 (p0 : Int32) (h1 : 215 ≤ p0.toInt) (h2 : p0.toInt < 216) : own_f1 p0 = own_f2 p0 := by
  rw [own_f1, if_neg (own_ltn (n := 97) rfl (by omega)), if_pos (own_gt (n := 122) rfl (by omega)), own_f1_12, if_neg (own_ltn (n := 65) rfl (by omega)), if_pos (own_gt (n := 90) rfl (by omega)), own_f1_24, if_neg (own_eqn (n := 95) rfl (by omega)), if_neg (own_ltn (n := 192) rfl (by omega)), if_pos (own_gt (n := 214) rfl (by omega)), own_f1_44, if_pos (own_lt (n := 216) rfl (by omega)), own_f1_58, if_pos (own_lt (n := 248) rfl (by omega)), own_f1_72, if_pos (own_lt (n := 880) rfl (by omega)), own_f1_86, if_pos (own_lt (n := 895) rfl (by omega)), own_f1_100, if_pos (own_lt (n := 8204) rfl (by omega)), own_f1_114, if_pos (own_lt (n := 8304) rfl (by omega)), own_f1_128, if_pos (own_lt (n := 11264) rfl (by omega)), own_f1_142, if_pos (own_lt (n := 12289) rfl (by omega)), own_f1_156, if_pos (own_lt (n := 63744) rfl (by omega)), own_f1_170, if_pos (own_lt (n := 65008) rfl (by omega)), own_f1_184, if_pos (own_lt (n := 65536) rfl (by omega))]
  rw [own_f2, if_neg (own_ltn (n := 65) rfl (by omega)), if_neg (own_gtn (n := 983039) rfl (by omega)), if_neg (own_ltn (n := 91) rfl (by omega)), if_pos (own_gt (n := 94) rfl (by omega)), own_f2_28, if_neg (own_eqn (n := 96) rfl (by omega)), if_neg (own_ltn (n := 123) rfl (by omega)), if_pos (own_gt (n := 191) rfl (by omega)), own_f2_51, if_pos (own_eq (n := 215) rfl (by omega))]
theorem own_iv9 (p0 : Int32) (h1 : 216 ≤ p0.toInt) (h2 : p0.toInt < 247) : own_f1 p0 = own_f2 p0 := by
  rw [own_f1, if_neg (own_ltn (n := 97) rfl (by omega)), if_pos (own_gt (n := 122) rfl (by omega)), own_f1_12, if_neg (own_ltn (n := 65) rfl (by omega)), if_pos (own_gt (n := 90) rfl (by omega)), own_f1_24, if_neg (own_eqn (n := 95) rfl (by omega)), if_neg (own_ltn (n := 192) rfl (by omega)), if_pos (own_gt (n := 214) rfl (by omega)), own_f1_44, if_neg (own_ltn (n := 216) rfl (by omega)), if_neg (own_gtn (n := 246) rfl (by omega))]
  rw [own_f2, if_neg (own_ltn (n := 65) rfl (by omega)), if_neg (own_gtn (n := 983039) rfl (by omega)), if_neg (own_ltn (n := 91) rfl (by omega)), if_pos (own_gt (n := 94) rfl (by omega)), own_f2_28, if_neg (own_eqn (n := 96) rfl (by omega)), if_neg (own_ltn (n := 123) rfl (by omega)), if_pos (own_gt (n := 191) rfl (by omega)), own_f2_51, if_neg (own_eqn (n := 215) rfl (by omega)), if_neg (own_eqn (n := 247) rfl (by omega)), if_pos (own_lt (n := 768) rfl (by omega)), own_f2_83, if_neg (own_eqn (n := 894) rfl (by omega)), if_pos (own_lt (n := 8192) rfl (by omega)), own_f2_108, if_pos (own_lt (n := 8206) rfl (by omega)), own_f2_124, if_pos (own_lt (n := 8592) rfl (by omega)), own_f2_140, if_pos (own_lt (n := 12272) rfl (by omega)), own_f2_156, if_pos (own_lt (n := 55296) rfl (by omega)), own_f2_170, if_pos (own_lt (n := 64976) rfl (by omega)), own_f2_184, if_pos (own_lt (n := 65534) rfl (by omega))]
theorem own_iv10 (p0 : Int32) (h1 : 247 ≤ p0.toInt) (h2 : p0.toInt < 248) : own_f1 p0 = own_f2 p0 := by
  rw [own_f1, if_neg (own_ltn (n := 97) rfl (by omega)), if_pos (own_gt (n := 122) rfl (by omega)), own_f1_12, if_neg (own_ltn (n := 65) rfl (by omega)), if_pos (own_gt (n := 90) rfl (by omega)), own_f1_24, if_neg (own_eqn (n := 95) rfl (by omega)), if_neg (own_ltn (n := 192) rfl (by omega)), if_pos (own_gt (n := 214) rfl (by omega)), own_f1_44, if_neg (own_ltn (n := 216) rfl (by omega)), if_pos (own_gt (n := 246) rfl (by omega)), own_f1_58, if_pos (own_lt (n := 248) rfl (by omega)), own_f1_72, if_pos (own_lt (n := 880) rfl (by omega)), own_f1_86, if_pos (own_lt (n := 895) rfl (by omega)), own_f1_100, if_pos (own_lt (n := 8204) rfl (by omega)), own_f1_114, if_pos (own_lt (n := 8304) rfl (by omega)), own_f1_128, if_pos (own_lt (n := 11264) rfl (by omega)), own_f1_142, if_pos (own_lt (n := 12289) rfl (by omega)), own_f1_156, if_pos (own_lt (n := 63744) rfl (by omega)), own_f1_170, if_pos (own_lt (n := 65008) rfl (by omega)), own_f1_184, if_pos (own_lt (n := 65536) rfl (by omega))]
  rw [own_f2, if_neg (own_ltn (n := 65) rfl (by omega)), if_neg (own_gtn (n := 983039) rfl (by omega)), if_neg (own_ltn (n := 91) rfl (by omega)), if_pos (own_gt (n := 94) rfl (by omega)), own_f2_28, if_neg (own_eqn (n := 96) rfl (by omega)), if_neg (own_ltn (n := 123) rfl (by omega)), if_pos (own_gt (n := 191) rfl (by omega)), own_f2_51, if_neg (own_eqn (n := 215) rfl (by omega)), if_pos (own_eq (n := 247) rfl (by omega))]
theorem own_iv11 (p0 : Int32) (h1 : 248 ≤ p0.toInt) (h2 : p0.toInt < 768) : own_f1 p0 = own_f2 p0 := by
  rw [own_f1, if_neg (own_ltn (n := 97) rfl (by omega)), if_pos (own_gt (n := 122) rfl (by omega)), own_f1_12, if_neg (own_ltn (n := 65) rfl (by omega)), if_pos (own_gt (n := 90) rfl (by omega)), own_f1_24, if_neg (own_eqn (n := 95) rfl (by omega)), if_neg (own_ltn (n := 192) rfl (by omega)), if_pos (own_gt (n := 214) rfl (by omega)), own_f1_44, if_neg (own_ltn (n := 216) rfl (by omega)), if_pos (own_gt (n := 246) rfl (by omega)), own_f1_58, if_neg (own_ltn (n := 248) rfl (by omega)), if_neg (own_gtn (n := 767) rfl (by omega))]
  rw [own_f2, if_neg (own_ltn (n := 65) rfl (by omega)), if_neg (own_gtn (n := 983039) rfl (by omega)), if_neg (own_ltn (n := 91) rfl (by omega)), if_pos (own_gt (n := 94) rfl (by omega)), own_f2_28, if_neg (own_eqn (n := 96) rfl (by omega)), if_neg (own_ltn (n := 123) rfl (by omega)), if_pos (own_gt (n := 191) rfl (by omega)), own_f2_51, if_neg (own_eqn (n := 215) rfl (by omega)), if_neg (own_eqn (n := 247) rfl (by omega)), if_pos (own_lt (n := 768) rfl (by omega)), own_f2_83, if_neg (own_eqn (n := 894) rfl (by omega)), if_pos (own_lt (n := 8192) rfl (by omega)), own_f2_108, if_pos (own_lt (n := 8206) rfl (by omega)), own_f2_124, if_pos (own_lt (n := 8592) rfl (by omega)), own_f2_140, if_pos (own_lt (n := 12272) rfl (by omega)), own_f2_156, if_pos (own_lt (n := 55296) rfl (by omega)), own_f2_170, if_pos (own_lt (n := 64976) rfl (by omega)), own_f2_184, if_pos (own_lt (n := 65534) rfl (by omega))]
theorem own_iv12 (p0 : Int32) (h1 : 768 ≤ p0.toInt) (h2 : p0.toInt < 880) : own_f1 p0 = own_f2 p0 := by
  rw [own_f1, if_neg (own_ltn (n := 97) rfl (by omega)), if_pos (own_gt (n := 122) rfl (by omega)), own_f1_12, if_neg (own_ltn (n := 65) rfl (by omega)), if_pos (own_gt (n := 90) rfl (by omega)), own_f1_24, if_neg (own_eqn (n := 95) rfl (by omega)), if_neg (own_ltn (n := 192) rfl (by omega)), if_pos (own_gt (n := 214) rfl (by omega)), own_f1_44, if_neg (own_ltn (n := 216) rfl (by omega)), if_pos (own_gt (n := 246) rfl (by omega)), own_f1_58, if_neg (own_ltn (n := 248) rfl (by omega)), if_pos (own_gt (n := 767) rfl (by omega)), own_f1_72, if_pos (own_lt (n := 880) rfl (by omega)), own_f1_86, if_pos (own_lt (n := 895) rfl (by omega)), own_f1_100, if_pos (own_lt (n := 8204) rfl (by omega)), own_f1_114, if_pos (own_lt (n := 8304) rfl (by omega)), own_f1_128, if_pos (own_lt (n := 11264) rfl (by omega)), own_f1_142, if_pos (own_lt (n := 12289) rfl (by omega)), own_f1_156, if_pos (own_lt (n := 63744) rfl (by omega)), own_f1_170, if_pos (own_lt (n := 65008) rfl (by omega)), own_f1_184, if_pos (own_lt (n := 65536) rfl (by omega))]
  rw [own_f2, if_neg (own_ltn (n := 65) rfl (by omega)), if_neg (own_gtn (n := 983039) rfl (by omega)), if_neg (own_ltn (n := 91) rfl (by omega)), if_pos (own_gt (n := 94) rfl (by omega)), own_f2_28, if_neg (own_eqn (n := 96) rfl (by omega)), if_neg (own_ltn (n := 123) rfl (by omega)), if_pos (own_gt (n := 191) rfl (by omega)), own_f2_51, if_neg (own_eqn (n := 215) rfl (by omega)), if_neg (own_eqn (n := 247) rfl (by omega)), if_neg (own_ltn (n := 768) rfl (by omega)), if_neg (own_gtn (n := 879) rfl (by omega))]
theorem own_iv13 (p0 : Int32) (h1 : 880 ≤ p0.toInt) (h2 : p0.toInt < 894) : own_f1 p0 = own_f2 p0 := by
  rw [own_f1, if_neg (own_ltn (n := 97) rfl (by omega)), if_pos (own_gt (n := 122) rfl (by omega)), own_f1_12, if_neg (own_ltn (n := 65) rfl (by omega)), if_pos (own_gt (n := 90) rfl (by omega)), own_f1_24, if_neg (own_eqn (n := 95) rfl (by omega)), if_neg (own_ltn (n := 192) rfl (by omega)), if_pos (own_gt (n := 214) rfl (by omega)), own_f1_44, if_neg (own_ltn (n := 216) rfl (by omega)), if_pos (own_gt (n := 246) rfl (by omega)), own_f1_58, if_neg (own_ltn (n := 248) rfl (by omega)), if_pos (own_gt (n := 767) rfl (by omega)), own_f1_72, if_neg (own_ltn (n := 880) rfl (by omega)), if_neg (own_gtn (n := 893) rfl (by omega))]
  rw [own_f2, if_neg (own_ltn (n := 65) rfl (by omega)), if_neg (own_gtn (n := 983039) rfl (by omega)), if_neg (own_ltn (n := 91) rfl (by omega)), if_pos (own_gt (n := 94) rfl (by omega)), own_f2_28, if_neg (own_eqn (n := 96) rfl (by omega)), if_neg (own_ltn (n := 123) rfl (by omega)), if_pos (own_gt (n := 191) rfl (by omega)), own_f2_51, if_neg (own_eqn (n := 215) rfl (by omega)), if_neg (own_eqn (n := 247) rfl (by omega)), if_neg (own_ltn (n := 768) rfl (by omega)), if_pos (own_gt (n := 879) rfl (by omega)), own_f2_83, if_neg (own_eqn (n := 894) rfl (by omega)), if_pos (own_lt (n := 8192) rfl (by omega)), own_f2_108, if_pos (own_lt (n := 8206) rfl (by omega)), own_f2_124, if_pos (own_lt (n := 8592) rfl (by omega)), own_f2_140, if_pos (own_lt (n := 12272) rfl (by omega)), own_f2_156, if_pos (own_lt (n := 55296) rfl (by omega)), own_f2_170, if_pos (own_lt (n := 64976) rfl (by omega)), own_f2_184, if_pos (own_lt (n := 65534) rfl (by omega))]
theorem own_iv14 (p0 : Int32) (h1 : 894 ≤ p0.toInt) (h2 : p0.toInt < 895) : own_f1 p0 = own_f2 p0 := by
  rw [own_f1, if_neg (own_ltn (n := 97) rfl (by omega)), if_pos (own_gt (n := 122) rfl (by omega)), own_f1_12, if_neg (own_ltn (n := 65) rfl (by omega)), if_pos (own_gt (n := 90) rfl (by omega)), own_f1_24, if_neg (own_eqn (n := 95) rfl (by omega)), if_neg (own_ltn (n := 192) rfl (by omega)), if_pos (own_gt (n := 214) rfl (by omega)), own_f1_44, if_neg (own_ltn (n := 216) rfl (by omega)), if_pos (own_gt (n := 246) rfl (by omega)), own_f1_58, if_neg (own_ltn (n := 248) rfl (by omega)), if_pos (own_gt (n := 767) rfl (by omega)), own_f1_72, if_neg (own_ltn (n := 880) rfl (by omega)), if_pos (own_gt (n := 893) rfl (by omega)), own_f1_86, if_pos (own_lt (n := 895) rfl (by omega)), own_f1_100, if_pos (own_lt (n := 8204) rfl (by omega)), own_f1_114, if_pos (own_lt (n := 8304) rfl (by omega)), own_f1_128, if_pos (own_lt (n := 11264) rfl (by omega)), own_f1_142, if_pos (own_lt (n := 12289) rfl (by omega)), own_f1_156, if_pos (own_lt (n := 63744) rfl (by omega)), own_f1_170, if_pos (own_lt (n := 65008) rfl (by omega)), own_f1_184, if_pos (own_lt (n := 65536) rfl (by omega))]
  rw [own_f2, if_neg (own_ltn (n := 65) rfl (by omega)), if_neg (own_gtn (n := 983039) rfl (by omega)), if_neg (own_ltn (n := 91) rfl (by omega)), if_pos (own_gt (n := 94) rfl (by omega)), own_f2_28, if_neg (own_eqn (n := 96) rfl (by omega)), if_neg (own_ltn (n := 123) rfl (by omega)), if_pos (own_gt (n := 191) rfl (by omega)), own_f2_51, if_neg (own_eqn (n := 215) rfl (by omega)), if_neg (own_eqn (n := 247) rfl (by omega)), if_neg (own_ltn (n := 768) rfl (by omega)), if_pos (own_gt (n := 879) rfl (by omega)), own_f2_83, if_pos (own_eq (n := 894) rfl (by omega))]
theorem own_iv15 (p0 : Int32) (h1 : 895 ≤ p0.toInt) (h2 : p0.toInt < 8192) : own_f1 p0 = own_f2 p0 := by
  rw [own_f1, if_neg (own_ltn (n := 97) rfl (by omega)), if_pos (own_gt (n := 122) rfl (by omega)), own_f1_12, if_neg (own_ltn (n := 65) rfl (by omega)), if_pos (own_gt (n := 90) rfl (by omega)), own_f1_24, if_neg (own_eqn (n := 95) rfl (by omega)), if_neg (own_ltn (n := 192) rfl (by omega)), if_pos (own_gt (n := 214) rfl (by omega)), own_f1_44, if_neg (own_ltn (n := 216) rfl (by omega)), if_pos (own_gt (n := 246) rfl (by omega)), own_f1_58, if_neg (own_ltn (n := 248) rfl (by omega)), if_pos (own_gt (n := 767) rfl (by omega)), own_f1_72, if_neg (own_ltn (n := 880) rfl (by omega)), if_pos (own_gt (n := 893) rfl (by omega)), own_f1_86, if_neg (own_ltn (n := 895) rfl (by omega)), if_neg (own_gtn (n := 8191) rfl (by omega))]
  rw [own_f2, if_neg (own_ltn (n := 65) rfl (by omega)), if_neg (own_gtn (n := 983039) rfl (by omega)), if_neg (own_ltn (n := 91) rfl (by omega)), if_pos (own_gt (n := 94) rfl (by omega)), own_f2_28, if_neg (own_eqn (n := 96) rfl (by omega)), if_neg (own_ltn (n := 123) rfl (by omega)), if_pos (own_gt (n := 191) rfl (by omega)), own_f2_51, if_neg (own_eqn (n := 215) rfl (by omega)), if_neg (own_eqn (n := 247) rfl (by omega)), if_neg (own_ltn (n := 768) rfl (by omega)), if_pos (own_gt (n := 879) rfl (by omega)), own_f2_83, if_neg (own_eqn (n := 894) rfl (by omega)), if_pos (own_lt (n := 8192) rfl (by omega)), own_f2_108, if_pos (own_lt (n := 8206) rfl (by omega)), own_f2_124, if_pos (own_lt (n := 8592) rfl (by omega)), own_f2_140, if_pos (own_lt (n := 12272) rfl (by omega)), own_f2_156, if_pos (own_lt (n := 55296) rfl (by omega)), own_f2_170, if_pos (own_lt (n := 64976) rfl (by omega)), own_f2_184, if_pos (own_lt (n := 65534) rfl (by omega))]
theorem own_iv16 (p0 : Int32) (h1 : 8192 ≤ p0.toInt) (h2 : p0.toInt < 8204) : own_f1 p0 = own_f2 p0 := by
  rw [own_f1, if_neg (own_ltn (n := 97) rfl (by omega)), if_pos (own_gt (n := 122) rfl (by omega)), own_f1_12, if_neg (own_ltn (n := 65) rfl (by omega)), if_pos (own_gt (n := 90) rfl (by omega)), own_f1_24, if_neg (own_eqn (n := 95) rfl (by omega)), if_neg (own_ltn (n := 192) rfl (by omega)), if_pos (own_gt (n := 214) rfl (by omega)), own_f1_44, if_neg (own_ltn (n := 216) rfl (by omega)), if_pos (own_gt (n := 246) rfl (by omega)), own_f1_58, if_neg (own_ltn (n := 248) rfl (by omega)), if_pos (own_gt (n := 767) rfl (by omega)), own_f1_72, if_neg (own_ltn (n := 880) rfl (by omega)), if_pos (own_gt (n := 893) rfl (by omega)), own_f1_86, if_neg (own_ltn (n := 895) rfl (by omega)), if_pos (own_gt (n := 8191) rfl (by omega)), own_f1_100, if_pos (own_lt (n := 8204) rfl (by omega)), own_f1_114, if_pos (own_lt (n := 8304) rfl (by omega)), own_f1_128, if_pos (own_lt (n := 11264) rfl (by omega)), own_f1_142, if_pos (own_lt (n := 12289) rfl (by omega)), own_f1_156, if_pos (own_lt (n := 63744) rfl (by omega)), own_f1_170, if_pos (own_lt (n := 65008) rfl (by omega)), own_f1_184, if_pos (own_lt (n := 65536) rfl (by omega))]
  rw [own_f2, if_neg (own_ltn (n := 65) rfl (by omega)), if_neg (own_gtn (n := 983039) rfl (by omega)), if_neg (own_ltn (n := 91) rfl (by omega)), if_pos (own_gt (n := 94) rfl (by omega)), own_f2_28, if_neg (own_eqn (n := 96) rfl (by omega)), if_neg (own_ltn (n := 123) rfl (by omega)), if_pos (own_gt (n := 191) rfl (by omega)), own_f2_51, if_neg (own_eqn (n := 215) rfl (by omega)), if_neg (own_eqn (n := 247) rfl (by omega)), if_neg (own_ltn (n := 768) rfl (by omega)), if_pos (own_gt (n := 879) rfl (by omega)), own_f2_83, if_neg (own_eqn (n := 894) rfl (by omega)), if_neg (own_ltn (n := 8192) rfl (by omega)), if_neg (own_gtn (n := 8203) rfl (by omega))]
theorem own_iv17 (p0 : Int32) (h1 : 8204 ≤ p0.toInt) (h2 : p0.toInt < 8206) : own_f1 p0 = own_f2 p0 := by
  rw [own_f1, if_neg (own_ltn (n := 97) rfl (by omega)), if_pos (own_gt (n := 122) rfl (by omega)), own_f1_12, if_neg (own_ltn (n := 65) rfl (by omega)), if_pos (own_gt (n := 90) rfl (by omega)), own_f1_24, if_neg (own_eqn (n := 95) rfl (by omega)), if_neg (own_ltn (n := 192) rfl (by omega)), if_pos (own_gt (n := 214) rfl (by omega)), own_f1_44, if_neg (own_ltn (n := 216) rfl (by omega)), if_pos (own_gt (n := 246) rfl (by omega)), own_f1_58, if_neg (own_ltn (n := 248) rfl (by omega)), if_pos (own_gt (n := 767) rfl (by omega)), own_f1_72, if_neg (own_ltn (n := 880) rfl (by omega)), if_pos (own_gt (n := 893) rfl (by omega)), own_f1_86, if_neg (own_ltn (n := 895) rfl (by omega)), if_pos (own_gt (n := 8191) rfl (by omega)), own_f1_100, if_neg (own_ltn (n := 8204) rfl (by omega)), if_neg (own_gtn (n := 8205) rfl (by omega))]
  rw [own_f2, if_neg (own_ltn (n := 65) rfl (by omega)), if_neg (own_gtn (n := 983039) rfl (by omega)), if_neg (own_ltn (n := 91) rfl (by omega)), if_pos (own_gt (n := 94) rfl (by omega)), own_f2_28, if_neg (own_eqn (n := 96) rfl (by omega)), if_neg (own_ltn (n := 123) rfl (by omega)), if_pos (own_gt (n := 191) rfl (by omega)), own_f2_51, if_neg (own_eqn (n := 215) rfl (by omega)), if_neg (own_eqn (n := 247) rfl (by omega)), if_neg (own_ltn (n := 768) rfl (by omega)), if_pos (own_gt (n := 879) rfl (by omega)), own_f2_83, if_neg (own_eqn (n := 894) rfl (by omega)), if_neg (own_ltn (n := 8192) rfl (by omega)), if_pos (own_gt (n := 8203) rfl (by omega)), own_f2_108, if_pos (own_lt (n := 8206) rfl (by omega)), own_f2_124, if_pos (own_lt (n := 8592) rfl (by omega)), own_f2_140, if_pos (own_lt (n := 12272) rfl (by omega)), own_f2_156, if_pos (own_lt (n := 55296) rfl (by omega)), own_f2_170, if_pos (own_lt (n := 64976) rfl (by omega)), own_f2_184, if_pos (own_lt (n := 65534) rfl (by omega))]
theorem own_iv18 (p0 : Int32) (h1 : 8206 ≤ p0.toInt) (h2 : p0.toInt < 8304) : own_f1 p0 = own_f2 p0 := by
  rw [own_f1, if_neg (own_ltn (n := 97) rfl (by omega)), if_pos (own_gt (n := 122) rfl (by omega)), own_f1_12, if_neg (own_ltn (n := 65) rfl (by omega)), if_pos (own_gt (n := 90) rfl (by omega)), own_f1_24, if_neg (own_eqn (n := 95) rfl (by omega)), if_neg (own_ltn (n := 192) rfl (by omega)), if_pos (own_gt (n := 214) rfl (by omega)), own_f1_44, if_neg (own_ltn (n := 216) rfl (by omega)), if_pos (own_gt (n := 246) rfl (by omega)), own_f1_58, if_neg (own_ltn (n := 248) rfl (by omega)), if_pos (own_gt (n := 767) rfl (by omega)), own_f1_72, if_neg (own_ltn (n := 880) rfl (by omega)), if_pos (own_gt (n := 893) rfl (by omega)), own_f1_86, if_neg (own_ltn (n := 895) rfl (by omega)), if_pos (own_gt (n := 8191) rfl (by omega)), own_f1_100, if_neg (own_ltn (n := 8204) rfl (by omega)), if_pos (own_gt (n := 8205) rfl (by omega)), own_f1_114, if_pos (own_lt (n := 8304) rfl (by omega)), own_f1_128, if_pos (own_lt (n := 11264) rfl (by omega)), own_f1_142, if_pos (own_lt (n := 12289) rfl (by omega)), own_f1_156, if_pos (own_lt (n := 63744) rfl (by omega)), own_f1_170, if_pos (own_lt (n := 65008) rfl (by omega)), own_f1_184, if_pos (own_lt (n := 65536) rfl (by omega))]
  rw [own_f2, if_neg (own_ltn (n := 65) rfl (by omega)), if_neg (own_gtn (n := 983039) rfl (by omega)), if_neg (own_ltn (n := 91) rfl (by omega)), if_pos (own_gt (n := 94) rfl (by omega)), own_f2_28, if_neg (own_eqn (n := 96) rfl (by omega)), if_neg (own_ltn (n := 123) rfl (by omega)), if_pos (own_gt (n := 191) rfl (by omega)), own_f2_51, if_neg (own_eqn (n := 215) rfl (by omega)), if_neg (own_eqn (n := 247) rfl (by omega)), if_neg (own_ltn (n := 768) rfl (by omega)), if_pos (own_gt (n := 879) rfl (by omega)), own_f2_83, if_neg (own_eqn (n := 894) rfl (by omega)), if_neg (own_ltn (n := 8192) rfl (by omega)), if_pos (own_gt (n := 8203) rfl (by omega)), own_f2_108, if_neg (own_ltn (n := 8206) rfl (by omega)), if_neg (own_gtn (n := 8303) rfl (by omega))]
theorem own_iv19 (p0 : Int32) (h1 : 8304 ≤ p0.toInt) (h2 : p0.toInt < 8592) : own_f1 p0 = own_f2 p0 := by
  rw [own_f1, if_neg (own_ltn (n := 97) rfl (by omega)), if_pos (own_gt (n := 122) rfl (by omega)), own_f1_12, if_neg (own_ltn (n := 65) rfl (by omega)), if_pos (own_gt (n := 90) rfl (by omega)), own_f1_24, if_neg (own_eqn (n := 95) rfl (by omega)), if_neg (own_ltn (n := 192) rfl (by omega)), if_pos (own_gt (n := 214) rfl (by omega)), own_f1_44, if_neg (own_ltn (n := 216) rfl (by omega)), if_pos (own_gt (n := 246) rfl (by omega)), own_f1_58, if_neg (own_ltn (n := 248) rfl (by omega)), if_pos (own_gt (n := 767) rfl (by omega)), own_f1_72, if_neg (own_ltn (n := 880) rfl (by omega)), if_pos (own_gt (n := 893) rfl (by omega)), own_f1_86, if_neg (own_ltn (n := 895) rfl (by omega)), if_pos (own_gt (n := 8191) rfl (by omega)), own_f1_100, if_neg (own_ltn (n := 8204) rfl (by omega)), if_pos (own_gt (n := 8205) rfl (by omega)), own_f1_114, if_neg (own_ltn (n := 8304) rfl (by omega)), if_neg (own_gtn (n := 8591) rfl (by omega))]
  rw [own_f2, if_neg (own_ltn (n := 65) rfl (by omega)), if_neg (own_gtn (n := 983039) rfl (by omega)), if_neg (own_ltn (n := 91) rfl (by omega)), if_pos (own_gt (n := 94) rfl (by omega)), own_f2_28, if_neg (own_eqn (n := 96) rfl (by omega)), if_neg (own_ltn (n := 123) rfl (by omega)), if_pos (own_gt (n := 191) rfl (by omega)), own_f2_51, if_neg (own_eqn (n := 215) rfl (by omega)), if_neg (own_eqn (n := 247) rfl (by omega)), if_neg (own_ltn (n := 768) rfl (by omega)), if_pos (own_gt (n := 879) rfl (by omega)), own_f2_83, if_neg (own_eqn (n := 894) rfl (by omega)), if_neg (own_ltn (n := 8192) rfl (by omega)), if_pos (own_gt (n := 8203) rfl (by omega)), own_f2_108, if_neg (own_ltn (n := 8206) rfl (by omega)), if_pos (own_gt (n := 8303) rfl (by omega)), own_f2_124, if_pos (own_lt (n := 8592) rfl (by omega)), own_f2_140, if_pos (own_lt (n := 12272) rfl (by omega)), own_f2_156, if_pos (own_lt (n := 55296) rfl (by omega)), own_f2_170, if_pos (own_lt (n := 64976) rfl (by omega)), own_f2_184, if_pos (own_lt (n := 65534) rfl (by omega))]
theorem own_iv20 (p0 : Int32) (h1 : 8592 ≤ p0.toInt) (h2 : p0.toInt < 11264) : own_f1 p0 = own_f2 p0 := by
  rw [own_f1, if_neg (own_ltn (n := 97) rfl (by omega)), if_pos (own_gt (n := 122) rfl (by omega)), own_f1_12, if_neg (own_ltn (n := 65) rfl (by omega)), if_pos (own_gt (n := 90) rfl (by omega)), own_f1_24, if_neg (own_eqn (n := 95) rfl (by omega)), if_neg (own_ltn (n := 192) rfl (by omega)), if_pos (own_gt (n := 214) rfl (by omega)), own_f1_44, if_neg (own_ltn (n := 216) rfl (by omega)), if_pos (own_gt (n := 246) rfl (by omega)), own_f1_58, if_neg (own_ltn (n := 248) rfl (by omega)), if_pos (own_gt (n := 767) rfl (by omega)), own_f1_72, if_neg (own_ltn (n := 880) rfl (by omega)), if_pos (own_gt (n := 893) rfl (by omega)), own_f1_86, if_neg (own_ltn (n := 895) rfl (by omega)), if_pos (own_gt (n := 8191) rfl (by omega)), own_f1_100, if_neg (own_ltn (n := 8204) rfl (by omega)), if_pos (own_gt (n := 8205) rfl (by omega)), own_f1_114, if_neg (own_ltn (n := 8304) rfl (by omega)), if_pos (own_gt (n := 8591) rfl (by omega)), own_f1_128, if_pos (own_lt (n := 11264) rfl (by omega)), own_f1_142, if_pos (own_lt (n := 12289) rfl (by omega)), own_f1_156, if_pos (own_lt (n := 63744) rfl (by omega)), own_f1_170, if_pos (own_lt (n := 65008) rfl (by omega)), own_f1_184, if_pos (own_lt (n := 65536) rfl (by omega))]
  rw [own_f2, if_neg (own_ltn (n := 65) rfl (by omega)), if_neg (own_gtn (n := 983039) rfl (by omega)), if_neg (own_ltn (n := 91) rfl (by omega)), if_pos (own_gt (n := 94) rfl (by omega)), own_f2_28, if_neg (own_eqn (n := 96) rfl (by omega)), if_neg (own_ltn (n := 123) rfl (by omega)), if_pos (own_gt (n := 191) rfl (by omega)), own_f2_51, if_neg (own_eqn (n := 215) rfl (by omega)), if_neg (own_eqn (n := 247) rfl (by omega)), if_neg (own_ltn (n := 768) rfl (by omega)), if_pos (own_gt (n := 879) rfl (by omega)), own_f2_83, if_neg (own_eqn (n := 894) rfl (by omega)), if_neg (own_ltn (n := 8192) rfl (by omega)), if_pos (own_gt (n := 8203) rfl (by omega)), own_f2_108, if_neg (own_ltn (n := 8206) rfl (by omega)), if_pos (own_gt (n := 8303) rfl (by omega)), own_f2_124, if_neg (own_ltn (n := 8592) rfl (by omega)), if_neg (own_gtn (n := 11263) rfl (by omega))]
theorem own_iv21 (p0 : Int32) (h1 : 11264 ≤ p0.toInt) (h2 : p0.toInt < 12272) : own_f1 p0 = own_f2 p0 := by
  rw [own_f1, if_neg (own_ltn (n := 97) rfl (by omega)), if_pos (own_gt (n := 122) rfl (by omega)), own_f1_12, if_neg (own_ltn (n := 65) rfl (by omega)), if_pos (own_gt (n := 90) rfl (by omega)), own_f1_24, if_neg (own_eqn (n := 95) rfl (by omega)), if_neg (own_ltn (n := 192) rfl (by omega)), if_pos (own_gt (n := 214) rfl (by omega)), own_f1_44, if_neg (own_ltn (n := 216) rfl (by omega)), if_pos (own_gt (n := 246) rfl (by omega)), own_f1_58, if_neg (own_ltn (n := 248) rfl (by omega)), if_pos (own_gt (n := 767) rfl (by omega)), own_f1_72, if_neg (own_ltn (n := 880) rfl (by omega)), if_pos (own_gt (n := 893) rfl (by omega)), own_f1_86, if_neg (own_ltn (n := 895) rfl (by omega)), if_pos (own_gt (n := 8191) rfl (by omega)), own_f1_100, if_neg (own_ltn (n := 8204) rfl (by omega)), if_pos (own_gt (n := 8205) rfl (by omega)), own_f1_114, if_neg (own_ltn (n := 8304) rfl (by omega)), if_pos (own_gt (n := 8591) rfl (by omega)), own_f1_128, if_neg (own_ltn (n := 11264) rfl (by omega)), if_neg (own_gtn (n := 12271) rfl (by omega))]
  rw [own_f2, if_neg (own_ltn (n := 65) rfl (by omega)), if_neg (own_gtn (n := 983039) rfl (by omega)), if_neg (own_ltn (n := 91) rfl (by omega)), if_pos (own_gt (n := 94) rfl (by omega)), own_f2_28, if_neg (own_eqn (n := 96) rfl (by omega)), if_neg (own_ltn (n := 123) rfl (by omega)), if_pos (own_gt (n := 191) rfl (by omega)), own_f2_51, if_neg (own_eqn (n := 215) rfl (by omega)), if_neg (own_eqn (n := 247) rfl (by omega)), if_neg (own_ltn (n := 768) rfl (by omega)), if_pos (own_gt (n := 879) rfl (by omega)), own_f2_83, if_neg (own_eqn (n := 894) rfl (by omega)), if_neg (own_ltn (n := 8192) rfl (by omega)), if_pos (own_gt (n := 8203) rfl (by omega)), own_f2_108, if_neg (own_ltn (n := 8206) rfl (by omega)), if_pos (own_gt (n := 8303) rfl (by omega)), own_f2_124, if_neg (own_ltn (n := 8592) rfl (by omega)), if_pos (own_gt (n := 11263) rfl (by omega)), own_f2_140, if_pos (own_lt (n := 12272) rfl (by omega)), own_f2_156, if_pos (own_lt (n := 55296) rfl (by omega)), own_f2_170, if_pos (own_lt (n := 64976) rfl (by omega)), own_f2_184, if_pos (own_lt (n := 65534) rfl (by omega))]
theorem own_iv22 (p0 : Int32) (h1 : 12272 ≤ p0.toInt) (h2 : p0.toInt < 12289) : own_f1 p0 = own_f2 p0 := by
  rw [own_f1, if_neg (own_ltn (n := 97) rfl (by omega)), if_pos (own_gt (n := 122) rfl (by omega)), own_f1_12, if_neg (own_ltn (n := 65) rfl (by omega)), if_pos (own_gt (n := 90) rfl (by omega)), own_f1_24, if_neg (own_eqn (n := 95) rfl (by omega)), if_neg (own_ltn (n := 192) rfl (by omega)), if_pos (own_gt (n := 214) rfl (by omega)), own_f1_44, if_neg (own_ltn (n := 216) rfl (by omega)), if_pos (own_gt (n := 246) rfl (by omega)), own_f1_58, if_neg (own_ltn (n := 248) rfl (by omega)), if_pos (own_gt (n := 767) rfl (by omega)), own_f1_72, if_neg (own_ltn (n := 880) rfl (by omega)), if_pos (own_gt (n := 893) rfl (by omega)), own_f1_86, if_neg (own_ltn (n := 895) rfl (by omega)), if_pos (own_gt (n := 8191) rfl (by omega)), own_f1_100, if_neg (own_ltn (n := 8204) rfl (by omega)), if_pos (own_gt (n := 8205) rfl (by omega)), own_f1_114, if_neg (own_ltn (n := 8304) rfl (by omega)), if_pos (own_gt (n := 8591) rfl (by omega)), own_f1_128, if_neg (own_ltn (n := 11264) rfl (by omega)), if_pos (own_gt (n := 12271) rfl (by omega)), own_f1_142, if_pos (own_lt (n := 12289) rfl (by omega)), own_f1_156, if_pos (own_lt (n := 63744) rfl (by omega)), own_f1_170, if_pos (own_lt (n := 65008) rfl (by omega)), own_f1_184, if_pos (own_lt (n := 65536) rfl (by omega))]
  rw [own_f2, if_neg (own_ltn (n := 65) rfl (by omega)), if_neg (own_gtn (n := 983039) rfl (by omega)), if_neg (own_ltn (n := 91) rfl (by omega)), if_pos (own_gt (n := 94) rfl (by omega)), own_f2_28, if_neg (own_eqn (n := 96) rfl (by omega)), if_neg (own_ltn (n := 123) rfl (by omega)), if_pos (own_gt (n := 191) rfl (by omega)), own_f2_51, if_neg (own_eqn (n := 215) rfl (by omega)), if_neg (own_eqn (n := 247) rfl (by omega)), if_neg (own_ltn (n := 768) rfl (by omega)), if_pos (own_gt (n := 879) rfl (by omega)), own_f2_83, if_neg (own_eqn (n := 894) rfl (by omega)), if_neg (own_ltn (n := 8192) rfl (by omega)), if_pos (own_gt (n := 8203) rfl (by omega)), own_f2_108, if_neg (own_ltn (n := 8206) rfl (by omega)), if_pos (own_gt (n := 8303) rfl (by omega)), own_f2_124, if_neg (own_ltn (n := 8592) rfl (by omega)), if_pos (own_gt (n := 11263) rfl (by omega)), own_f2_140, if_neg (own_ltn (n := 12272) rfl (by omega)), if_neg (own_gtn (n := 12288) rfl (by omega))]
theorem own_iv23 (p0 : Int32) (h1 : 12289 ≤ p0.toInt) (h2 : p0.toInt < 55296) : own_f1 p0 = own_f2 p0 := by
  rw [own_f1, if_neg (own_ltn (n := 97) rfl (by omega)), if_pos (own_gt (n := 122) rfl (by omega)), own_f1_12, if_neg (own_ltn (n := 65) rfl (by omega)), if_pos (own_gt (n := 90) rfl (by omega)), own_f1_24, if_neg (own_eqn (n := 95) rfl (by omega)), if_neg (own_ltn (n := 192) rfl (by omega)), if_pos (own_gt (n := 214) rfl (by omega)), own_f1_44, if_neg (own_ltn (n := 216) rfl (by omega)), if_pos (own_gt (n := 246) rfl (by omega)), own_f1_58, if_neg (own_ltn (n := 248) rfl (by omega)), if_pos (own_gt (n := 767) rfl (by omega)), own_f1_72, if_neg (own_ltn (n := 880) rfl (by omega)), if_pos (own_gt (n := 893) rfl (by omega)), own_f1_86, if_neg (own_ltn (n := 895) rfl (by omega)), if_pos (own_gt (n := 8191) rfl (by omega)), own_f1_100, if_neg (own_ltn (n := 8204) rfl (by omega)), if_pos (own_gt (n := 8205) rfl (by omega)), own_f1_114, if_neg (own_ltn (n := 8304) rfl (by omega)), if_pos (own_gt (n := 8591) rfl (by omega)), own_f1_128, if_neg (own_ltn (n := 11264) rfl (by omega)), if_pos (own_gt (n := 12271) rfl (by omega)), own_f1_142, if_neg (own_ltn (n := 12289) rfl (by omega)), if_neg (own_gtn (n := 55295) rfl (by omega))]
  rw [own_f2, if_neg (own_ltn (n := 65) rfl (by omega)), if_neg (own_gtn (n := 983039) rfl (by omega)), if_neg (own_ltn (n := 91) rfl (by omega)), if_pos (own_gt (n := 94) rfl (by omega)), own_f2_28, if_neg (own_eqn (n := 96) rfl (by omega)), if_neg (own_ltn (n := 123) rfl (by omega)), if_pos (own_gt (n := 191) rfl (by omega)), own_f2_51, if_neg (own_eqn (n := 215) rfl (by omega)), if_neg (own_eqn (n := 247) rfl (by omega)), if_neg (own_ltn (n := 768) rfl (by omega)), if_pos (own_gt (n := 879) rfl (by omega)), own_f2_83, if_neg (own_eqn (n := 894) rfl (by omega)), if_neg (own_ltn (n := 8192) rfl (by omega)), if_pos (own_gt (n := 8203) rfl (by omega)), own_f2_108, if_neg (own_ltn (n := 8206) rfl (by omega)), if_pos (own_gt (n := 8303) rfl (by omega)), own_f2_124, if_neg (own_ltn (n := 8592) rfl (by omega)), if_pos (own_gt (n := 11263) rfl (by omega)), own_f2_140, if_neg (own_ltn (n := 12272) rfl (by omega)), if_pos (own_gt (n := 12288) rfl (by omega)), own_f2_156, if_pos (own_lt (n := 55296) rfl (by omega)), own_f2_170, if_pos (own_lt (n := 64976) rfl (by omega)), own_f2_184, if_pos (own_lt (n := 65534) rfl (by omega))]
theorem own_iv24 (p0 : Int32) (h1 : 55296 ≤ p0.toInt) (h2 : p0.toInt < 63744) : own_f1 p0 = own_f2 p0 := by
  rw [own_f1, if_neg (own_ltn (n := 97) rfl (by omega)), if_pos (own_gt (n := 122) rfl (by omega)), own_f1_12, if_neg (own_ltn (n := 65) rfl (by omega)), if_pos (own_gt (n := 90) rfl (by omega)), own_f1_24, if_neg (own_eqn (n := 95) rfl (by omega)), if_neg (own_ltn (n := 192) rfl (by omega)), if_pos (own_gt (n := 214) rfl (by omega)), own_f1_44, if_neg (own_ltn (n := 216) rfl (by omega)), if_pos (own_gt (n := 246) rfl (by omega)), own_f1_58, if_neg (own_ltn (n := 248) rfl (by omega)), if_pos (own_gt (n := 767) rfl (by omega)), own_f1_72, if_neg (own_ltn (n := 880) rfl (by omega)), if_pos (own_gt (n := 893) rfl (by omega)), own_f1_86, if_neg (own_ltn (n := 895) rfl (by omega)), if_pos (own_gt (n := 8191) rfl (by omega)), own_f1_100, if_neg (own_ltn (n := 8204) rfl (by omega)), if_pos (own_gt (n := 8205) rfl (by omega)), own_f1_114, if_neg (own_ltn (n := 8304) rfl (by omega)), if_pos (own_gt (n := 8591) rfl (by omega)), own_f1_128, if_neg (own_ltn (n := 11264) rfl (by omega)), if_pos (own_gt (n := 12271) rfl (by omega)), own_f1_142, if_neg (own_ltn (n := 12289) rfl (by omega)), if_pos (own_gt (n := 55295) rfl (by omega)), own_f1_156, if_pos (own_lt (n := 63744) rfl (by omega)), own_f1_170, if_pos (own_lt (n := 65008) rfl (by omega)), own_f1_184, if_pos (own_lt (n := 65536) rfl (by omega))]
  rw [own_f2, if_neg (own_ltn (n := 65) rfl (by omega)), if_neg (own_gtn (n := 983039) rfl (by omega)), if_neg (own_ltn (n := 91) rfl (by omega)), if_pos (own_gt (n := 94) rfl (by omega)), own_f2_28, if_neg (own_eqn (n := 96) rfl (by omega)), if_neg (own_ltn (n := 123) rfl (by omega)), if_pos (own_gt (n := 191) rfl (by omega)), own_f2_51, if_neg (own_eqn (n := 215) rfl (by omega)), if_neg (own_eqn (n := 247) rfl (by omega)), if_neg (own_ltn (n := 768) rfl (by omega)), if_pos (own_gt (n := 879) rfl (by omega)), own_f2_83, if_neg (own_eqn (n := 894) rfl (by omega)), if_neg (own_ltn (n := 8192) rfl (by omega)), if_pos (own_gt (n := 8203) rfl (by omega)), own_f2_108, if_neg (own_ltn (n := 8206) rfl (by omega)), if_pos (own_gt (n := 8303) rfl (by omega)), own_f2_124, if_neg (own_ltn (n := 8592) rfl (by omega)), if_pos (own_gt (n := 11263) rfl (by omega)), own_f2_140, if_neg (own_ltn (n := 12272) rfl (by omega)), if_pos (own_gt (n := 12288) rfl (by omega)), own_f2_156, if_neg (own_ltn (n := 55296) rfl (by omega)), if_neg (own_gtn (n := 63743) rfl (by omega))]
theorem own_iv25 (p0 : Int32) (h1 : 63744 ≤ p0.toInt) (h2 : p0.toInt < 64976) : own_f1 p0 = own_f2 p0 := by
  rw [own_f1, if_neg (own_ltn (n := 97) rfl (by omega)), if_pos (own_gt (n := 122) rfl (by omega)), own_f1_12, if_neg (own_ltn (n := 65) rfl (by omega)), if_pos (own_gt (n := 90) rfl (by omega)), own_f1_24, if_neg (own_eqn (n := 95) rfl (by omega)), if_neg (own_ltn (n := 192) rfl (by omega)), if_pos (own_gt (n := 214) rfl (by omega)), own_f1_44, if_neg (own_ltn (n := 216) rfl (by omega)), if_pos (own_gt (n := 246) rfl (by omega)), own_f1_58, if_neg (own_ltn (n := 248) rfl (by omega)), if_pos (own_gt (n := 767) rfl (by omega)), own_f1_72, if_neg (own_ltn (n := 880) rfl (by omega)), if_pos (own_gt (n := 893) rfl (by omega)), own_f1_86, if_neg (own_ltn (n := 895) rfl (by omega)), if_pos (own_gt (n := 8191) rfl (by omega)), own_f1_100, if_neg (own_ltn (n := 8204) rfl (by omega)), if_pos (own_gt (n := 8205) rfl (by omega)), own_f1_114, if_neg (own_ltn (n := 8304) rfl (by omega)), if_pos (own_gt (n := 8591) rfl (by omega)), own_f1_128, if_neg (own_ltn (n := 11264) rfl (by omega)), if_pos (own_gt (n := 12271) rfl (by omega)), own_f1_142, if_neg (own_ltn (n := 12289) rfl (by omega)), if_pos (own_gt (n := 55295) rfl (by omega)), own_f1_156, if_neg (own_ltn (n := 63744) rfl (by omega)), if_neg (own_gtn (n := 64975) rfl (by omega))]
  rw [own_f2, if_neg (own_ltn (n := 65) rfl (by omega)), if_neg (own_gtn (n := 983039) rfl (by omega)), if_neg (own_ltn (n := 91) rfl (by omega)), if_pos (own_gt (n := 94) rfl (by omega)), own_f2_28, if_neg (own_eqn (n := 96) rfl (by omega)), if_neg (own_ltn (n := 123) rfl (by omega)), if_pos (own_gt (n := 191) rfl (by omega)), own_f2_51, if_neg (own_eqn (n := 215) rfl (by omega)), if_neg (own_eqn (n := 247) rfl (by omega)), if_neg (own_ltn (n := 768) rfl (by omega)), if_pos (own_gt (n := 879) rfl (by omega)), own_f2_83, if_neg (own_eqn (n := 894) rfl (by omega)), if_neg (own_ltn (n := 8192) rfl (by omega)), if_pos (own_gt (n := 8203) rfl (by omega)), own_f2_108, if_neg (own_ltn (n := 8206) rfl (by omega)), if_pos (own_gt (n := 8303) rfl (by omega)), own_f2_124, if_neg (own_ltn (n := 8592) rfl (by omega)), if_pos (own_gt (n := 11263) rfl (by omega)), own_f2_140, if_neg (own_ltn (n := 12272) rfl (by omega)), if_pos (own_gt (n := 12288) rfl (by omega)), own_f2_156, if_neg (own_ltn (n := 55296) rfl (by omega)), if_pos (own_gt (n := 63743) rfl (by omega)), own_f2_170, if_pos (own_lt (n := 64976) rfl (by omega)), own_f2_184, if_pos (own_lt (n := 65534) rfl (by omega))]
theorem own_iv26 (p0 : Int32) (h1 : 64976 ≤ p0.toInt) (h2 : p0.toInt < 65008) : own_f1 p0 = own_f2 p0 := by
  rw [own_f1, if_neg (own_ltn (n := 97) rfl (by omega)), if_pos (own_gt (n := 122) rfl (by omega)), own_f1_12, if_neg (own_ltn (n := 65) rfl (by omega)), if_pos (own_gt (n := 90) rfl (by omega)), own_f1_24, if_neg (own_eqn (n := 95) rfl (by omega)), if_neg (own_ltn (n := 192) rfl (by omega)), if_pos (own_gt (n := 214) rfl (by omega)), own_f1_44, if_neg (own_ltn (n := 216) rfl (by omega)), if_pos (own_gt (n := 246) rfl (by omega)), own_f1_58, if_neg (own_ltn (n := 248) rfl (by omega)), if_pos (own_gt (n := 767) rfl (by omega)), own_f1_72, if_neg (own_ltn (n := 880) rfl (by omega)), if_pos (own_gt (n := 893) rfl (by omega)), own_f1_86, if_neg (own_ltn (n := 895) rfl (by omega)), if_pos (own_gt (n := 8191) rfl (by omega)), own_f1_100, if_neg (own_ltn (n := 8204) rfl (by omega)), if_pos (own_gt (n := 8205) rfl (by omega)), own_f1_114, if_neg (own_ltn (n := 8304) rfl (by omega)), if_pos (own_gt (n := 8591) rfl (by omega)), own_f1_128, if_neg (own_ltn (n := 11264) rfl (by omega)), if_pos (own_gt (n := 12271) rfl (by omega)), own_f1_142, if_neg (own_ltn (n := 12289) rfl (by omega)), if_pos (own_gt (n := 55295) rfl (by omega)), own_f1_156, if_neg (own_ltn (n := 63744) rfl (by omega)), if_pos (own_gt (n := 64975) rfl (by omega)), own_f1_170, if_pos (own_lt (n := 65008) rfl (by omega)), own_f1_184, if_pos (own_lt (n := 65536) rfl (by omega))]
  rw [own_f2, if_neg (own_ltn (n := 65) rfl (by omega)), if_neg (own_gtn (n := 983039) rfl (by omega)), if_neg (own_ltn (n := 91) rfl (by omega)), if_pos (own_gt (n := 94) rfl (by omega)), own_f2_28, if_neg (own_eqn (n := 96) rfl (by omega)), if_neg (own_ltn (n := 123) rfl (by omega)), if_pos (own_gt (n := 191) rfl (by omega)), own_f2_51, if_neg (own_eqn (n := 215) rfl (by omega)), if_neg (own_eqn (n := 247) rfl (by omega)), if_neg (own_ltn (n := 768) rfl (by omega)), if_pos (own_gt (n := 879) rfl (by omega)), own_f2_83, if_neg (own_eqn (n := 894) rfl (by omega)), if_neg (own_ltn (n := 8192) rfl (by omega)), if_pos (own_gt (n := 8203) rfl (by omega)), own_f2_108, if_neg (own_ltn (n := 8206) rfl (by omega)), if_pos (own_gt (n := 8303) rfl (by omega)), own_f2_124, if_neg (own_ltn (n := 8592) rfl (by omega)), if_pos (own_gt (n := 11263) rfl (by omega)), own_f2_140, if_neg (own_ltn (n := 12272) rfl (by omega)), if_pos (own_gt (n := 12288) rfl (by omega)), own_f2_156, if_neg (own_ltn (n := 55296) rfl (by omega)), if_pos (own_gt (n := 63743) rfl (by omega)), own_f2_170, if_neg (own_ltn (n := 64976) rfl (by omega)), if_neg (own_gtn (n := 65007) rfl (by omega))]
theorem own_iv27 (p0 : Int32) (h1 : 65008 ≤ p0.toInt) (h2 : p0.toInt < 65534) : own_f1 p0 = own_f2 p0 := by
  rw [own_f1, if_neg (own_ltn (n := 97) rfl (by omega)), if_pos (own_gt (n := 122) rfl (by omega)), own_f1_12, if_neg (own_ltn (n := 65) rfl (by omega)), if_pos (own_gt (n := 90) rfl (by omega)), own_f1_24, if_neg (own_eqn (n := 95) rfl (by omega)), if_neg (own_ltn (n := 192) rfl (by omega)), if_pos (own_gt (n := 214) rfl (by omega)), own_f1_44, if_neg (own_ltn (n := 216) rfl (by omega)), if_pos (own_gt (n := 246) rfl (by omega)), own_f1_58, if_neg (own_ltn (n := 248) rfl (by omega)), if_pos (own_gt (n := 767) rfl (by omega)), own_f1_72, if_neg (own_ltn (n := 880) rfl (by omega)), if_pos (own_gt (n := 893) rfl (by omega)), own_f1_86, if_neg (own_ltn (n := 895) rfl (by omega)), if_pos (own_gt (n := 8191) rfl (by omega)), own_f1_100, if_neg (own_ltn (n := 8204) rfl (by omega)), if_pos (own_gt (n := 8205) rfl (by omega)), own_f1_114, if_neg (own_ltn (n := 8304) rfl (by omega)), if_pos (own_gt (n := 8591) rfl (by omega)), own_f1_128, if_neg (own_ltn (n := 11264) rfl (by omega)), if_pos (own_gt (n := 12271) rfl (by omega)), own_f1_142, if_neg (own_ltn (n := 12289) rfl (by omega)), if_pos (own_gt (n := 55295) rfl (by omega)), own_f1_156, if_neg (own_ltn (n := 63744) rfl (by omega)), if_pos (own_gt (n := 64975) rfl (by omega)), own_f1_170, if_neg (own_ltn (n := 65008) rfl (by omega)), if_neg (own_gtn (n := 65533) rfl (by omega))]
  rw [own_f2, if_neg (own_ltn (n := 65) rfl (by omega)), if_neg (own_gtn (n := 983039) rfl (by omega)), if_neg (own_ltn (n := 91) rfl (by omega)), if_pos (own_gt (n := 94) rfl (by omega)), own_f2_28, if_neg (own_eqn (n := 96) rfl (by omega)), if_neg (own_ltn (n := 123) rfl (by omega)), if_pos (own_gt (n := 191) rfl (by omega)), own_f2_51, if_neg (own_eqn (n := 215) rfl (by omega)), if_neg (own_eqn (n := 247) rfl (by omega)), if_neg (own_ltn (n := 768) rfl (by omega)), if_pos (own_gt (n := 879) rfl (by omega)), own_f2_83, if_neg (own_eqn (n := 894) rfl (by omega)), if_neg (own_ltn (n := 8192) rfl (by omega)), if_pos (own_gt (n := 8203) rfl (by omega)), own_f2_108, if_neg (own_ltn (n := 8206) rfl (by omega)), if_pos (own_gt (n := 8303) rfl (by omega)), own_f2_124, if_neg (own_ltn (n := 8592) rfl (by omega)), if_pos (own_gt (n := 11263) rfl (by omega)), own_f2_140, if_neg (own_ltn (n := 12272) rfl (by omega)), if_pos (own_gt (n := 12288) rfl (by omega)), own_f2_156, if_neg (own_ltn (n := 55296) rfl (by omega)), if_pos (own_gt (n := 63743) rfl (by omega)), own_f2_170, if_neg (own_ltn (n := 64976) rfl (by omega)), if_pos (own_gt (n := 65007) rfl (by omega)), own_f2_184, if_pos (own_lt (n := 65534) rfl (by omega))]
theorem own_iv28 (p0 : Int32) (h1 : 65534 ≤ p0.toInt) (h2 : p0.toInt < 65536) : own_f1 p0 = own_f2 p0 := by
  rw [own_f1, if_neg (own_ltn (n := 97) rfl (by omega)), if_pos (own_gt (n := 122) rfl (by omega)), own_f1_12, if_neg (own_ltn (n := 65) rfl (by omega)), if_pos (own_gt (n := 90) rfl (by omega)), own_f1_24, if_neg (own_eqn (n := 95) rfl (by omega)), if_neg (own_ltn (n := 192) rfl (by omega)), if_pos (own_gt (n := 214) rfl (by omega)), own_f1_44, if_neg (own_ltn (n := 216) rfl (by omega)), if_pos (own_gt (n := 246) rfl (by omega)), own_f1_58, if_neg (own_ltn (n := 248) rfl (by omega)), if_pos (own_gt (n := 767) rfl (by omega)), own_f1_72, if_neg (own_ltn (n := 880) rfl (by omega)), if_pos (own_gt (n := 893) rfl (by omega)), own_f1_86, if_neg (own_ltn (n := 895) rfl (by omega)), if_pos (own_gt (n := 8191) rfl (by omega)), own_f1_100, if_neg (own_ltn (n := 8204) rfl (by omega)), if_pos (own_gt (n := 8205) rfl (by omega)), own_f1_114, if_neg (own_ltn (n := 8304) rfl (by omega)), if_pos (own_gt (n := 8591) rfl (by omega)), own_f1_128, if_neg (own_ltn (n := 11264) rfl (by omega)), if_pos (own_gt (n := 12271) rfl (by omega)), own_f1_142, if_neg (own_ltn (n := 12289) rfl (by omega)), if_pos (own_gt (n := 55295) rfl (by omega)), own_f1_156, if_neg (own_ltn (n := 63744) rfl (by omega)), if_pos (own_gt (n := 64975) rfl (by omega)), own_f1_170, if_neg (own_ltn (n := 65008) rfl (by omega)), if_pos (own_gt (n := 65533) rfl (by omega)), own_f1_184, if_pos (own_lt (n := 65536) rfl (by omega))]
  rw [own_f2, if_neg (own_ltn (n := 65) rfl (by omega)), if_neg (own_gtn (n := 983039) rfl (by omega)), if_neg (own_ltn (n := 91) rfl (by omega)), if_pos (own_gt (n := 94) rfl (by omega)), own_f2_28, if_neg (own_eqn (n := 96) rfl (by omega)), if_neg (own_ltn (n := 123) rfl (by omega)), if_pos (own_gt (n := 191) rfl (by omega)), own_f2_51, if_neg (own_eqn (n := 215) rfl (by omega)), if_neg (own_eqn (n := 247) rfl (by omega)), if_neg (own_ltn (n := 768) rfl (by omega)), if_pos (own_gt (n := 879) rfl (by omega)), own_f2_83, if_neg (own_eqn (n := 894) rfl (by omega)), if_neg (own_ltn (n := 8192) rfl (by omega)), if_pos (own_gt (n := 8203) rfl (by omega)), own_f2_108, if_neg (own_ltn (n := 8206) rfl (by omega)), if_pos (own_gt (n := 8303) rfl (by omega)), own_f2_124, if_neg (own_ltn (n := 8592) rfl (by omega)), if_pos (own_gt (n := 11263) rfl (by omega)), own_f2_140, if_neg (own_ltn (n := 12272) rfl (by omega)), if_pos (own_gt (n := 12288) rfl (by omega)), own_f2_156, if_neg (own_ltn (n := 55296) rfl (by omega)), if_pos (own_gt (n := 63743) rfl (by omega)), own_f2_170, if_neg (own_ltn (n := 64976) rfl (by omega)), if_pos (own_gt (n := 65007) rfl (by omega)), own_f2_184, if_neg (own_ltn (n := 65534) rfl (by omega)), if_neg (own_gtn (n := 65535) rfl (by omega))]
theorem own_iv29 (p0 : Int32) (h1 : 65536 ≤ p0.toInt) (h2 : p0.toInt < 983040) : own_f1 p0 = own_f2 p0 := by
  rw [own_f1, if_neg (own_ltn (n := 97) rfl (by omega)), if_pos (own_gt (n := 122) rfl (by omega)), own_f1_12, if_neg (own_ltn (n := 65) rfl (by omega)), if_pos (own_gt (n := 90) rfl (by omega)), own_f1_24, if_neg (own_eqn (n := 95) rfl (by omega)), if_neg (own_ltn (n := 192) rfl (by omega)), if_pos (own_gt (n := 214) rfl (by omega)), own_f1_44, if_neg (own_ltn (n := 216) rfl (by omega)), if_pos (own_gt (n := 246) rfl (by omega)), own_f1_58, if_neg (own_ltn (n := 248) rfl (by omega)), if_pos (own_gt (n := 767) rfl (by omega)), own_f1_72, if_neg (own_ltn (n := 880) rfl (by omega)), if_pos (own_gt (n := 893) rfl (by omega)), own_f1_86, if_neg (own_ltn (n := 895) rfl (by omega)), if_pos (own_gt (n := 8191) rfl (by omega)), own_f1_100, if_neg (own_ltn (n := 8204) rfl (by omega)), if_pos (own_gt (n := 8205) rfl (by omega)), own_f1_114, if_neg (own_ltn (n := 8304) rfl (by omega)), if_pos (own_gt (n := 8591) rfl (by omega)), own_f1_128, if_neg (own_ltn (n := 11264) rfl (by omega)), if_pos (own_gt (n := 12271) rfl (by omega)), own_f1_142, if_neg (own_ltn (n := 12289) rfl (by omega)), if_pos (own_gt (n := 55295) rfl (by omega)), own_f1_156, if_neg (own_ltn (n := 63744) rfl (by omega)), if_pos (own_gt (n := 64975) rfl (by omega)), own_f1_170, if_neg (own_ltn (n := 65008) rfl (by omega)), if_pos (own_gt (n := 65533) rfl (by omega)), own_f1_184, if_neg (own_ltn (n := 65536) rfl (by omega)), if_neg (own_gtn (n := 983039) rfl (by omega))]
  rw [own_f2, if_neg (own_ltn (n := 65) rfl (by omega)), if_neg (own_gtn (n := 983039) rfl (by omega)), if_neg (own_ltn (n := 91) rfl (by omega)), if_pos (own_gt (n := 94) rfl (by omega)), own_f2_28, if_neg (own_eqn (n := 96) rfl (by omega)), if_neg (own_ltn (n := 123) rfl (by omega)), if_pos (own_gt (n := 191) rfl (by omega)), own_f2_51, if_neg (own_eqn (n := 215) rfl (by omega)), if_neg (own_eqn (n := 247) rfl (by omega)), if_neg (own_ltn (n := 768) rfl (by omega)), if_pos (own_gt (n := 879) rfl (by omega)), own_f2_83, if_neg (own_eqn (n := 894) rfl (by omega)), if_neg (own_ltn (n := 8192) rfl (by omega)), if_pos (own_gt (n := 8203) rfl (by omega)), own_f2_108, if_neg (own_ltn (n := 8206) rfl (by omega)), if_pos (own_gt (n := 8303) rfl (by omega)), own_f2_124, if_neg (own_ltn (n := 8592) rfl (by omega)), if_pos (own_gt (n := 11263) rfl (by omega)), own_f2_140, if_neg (own_ltn (n := 12272) rfl (by omega)), if_pos (own_gt (n := 12288) rfl (by omega)), own_f2_156, if_neg (own_ltn (n := 55296) rfl (by omega)), if_pos (own_gt (n := 63743) rfl (by omega)), own_f2_170, if_neg (own_ltn (n := 64976) rfl (by omega)), if_pos (own_gt (n := 65007) rfl (by omega)), own_f2_184, if_neg (own_ltn (n := 65534) rfl (by omega)), if_pos (own_gt (n := 65535) rfl (by omega))]
theorem own_iv30 (p0 : Int32) (h1 : 983040 ≤ p0.toInt) : own_f1 p0 = own_f2 p0 := by
  rw [own_f1, if_neg (own_ltn (n := 97) rfl (by omega)), if_pos (own_gt (n := 122) rfl (by omega)), own_f1_12, if_neg (own_ltn (n := 65) rfl (by omega)), if_pos (own_gt (n := 90) rfl (by omega)), own_f1_24, if_neg (own_eqn (n := 95) rfl (by omega)), if_neg (own_ltn (n := 192) rfl (by omega)), if_pos (own_gt (n := 214) rfl (by omega)), own_f1_44, if_neg (own_ltn (n := 216) rfl (by omega)), if_pos (own_gt (n := 246) rfl (by omega)), own_f1_58, if_neg (own_ltn (n := 248) rfl (by omega)), if_pos (own_gt (n := 767) rfl (by omega)), own_f1_72, if_neg (own_ltn (n := 880) rfl (by omega)), if_pos (own_gt (n := 893) rfl (by omega)), own_f1_86, if_neg (own_ltn (n := 895) rfl (by omega)), if_pos (own_gt (n := 8191) rfl (by omega)), own_f1_100, if_neg (own_ltn (n := 8204) rfl (by omega)), if_pos (own_gt (n := 8205) rfl (by omega)), own_f1_114, if_neg (own_ltn (n := 8304) rfl (by omega)), if_pos (own_gt (n := 8591) rfl (by omega)), own_f1_128, if_neg (own_ltn (n := 11264) rfl (by omega)), if_pos (own_gt (n := 12271) rfl (by omega)), own_f1_142, if_neg (own_ltn (n := 12289) rfl (by omega)), if_pos (own_gt (n := 55295) rfl (by omega)), own_f1_156, if_neg (own_ltn (n := 63744) rfl (by omega)), if_pos (own_gt (n := 64975) rfl (by omega)), own_f1_170, if_neg (own_ltn (n := 65008) rfl (by omega)), if_pos (own_gt (n := 65533) rfl (by omega)), own_f1_184, if_neg (own_ltn (n := 65536) rfl (by omega)), if_pos (own_gt (n := 983039) rfl (by omega))]
  rw [own_f2, if_neg (own_ltn (n := 65) rfl (by omega)), if_pos (own_gt (n := 983039) rfl (by omega))]
theorem own_same (p0 : Int32) : own_f1 p0 = own_f2 p0 := by
  by_cases c0 : p0.toInt < 65
  · exact own_iv0 p0 c0
  by_cases c1 : p0.toInt < 91
  · exact own_iv1 p0 (Int.not_lt.mp c0) c1
  by_cases c2 : p0.toInt < 95
  · exact own_iv2 p0 (Int.not_lt.mp c1) c2
  by_cases c3 : p0.toInt < 96
  · exact own_iv3 p0 (Int.not_lt.mp c2) c3
  by_cases c4 : p0.toInt < 97
  · exact own_iv4 p0 (Int.not_lt.mp c3) c4
  by_cases c5 : p0.toInt < 123
  · exact own_iv5 p0 (Int.not_lt.mp c4) c5
  by_cases c6 : p0.toInt < 192
  · exact own_iv6 p0 (Int.not_lt.mp c5) c6
  by_cases c7 : p0.toInt < 215
  · exact own_iv7 p0 (Int.not_lt.mp c6) c7
  by_cases c8 : p0.toInt < 216
  · exact own_iv8 p0 (Int.not_lt.mp c7) c8
  by_cases c9 : p0.toInt < 247
  · exact own_iv9 p0 (Int.not_lt.mp c8) c9
  by_cases c10 : p0.toInt < 248
  · exact own_iv10 p0 (Int.not_lt.mp c9) c10
  by_cases c11 : p0.toInt < 768
  · exact own_iv11 p0 (Int.not_lt.mp c10) c11
  by_cases c12 : p0.toInt < 880
  · exact own_iv12 p0 (Int.not_lt.mp c11) c12
  by_cases c13 : p0.toInt < 894
  · exact own_iv13 p0 (Int.not_lt.mp c12) c13
  by_cases c14 : p0.toInt < 895
  · exact own_iv14 p0 (Int.not_lt.mp c13) c14
  by_cases c15 : p0.toInt < 8192
  · exact own_iv15 p0 (Int.not_lt.mp c14) c15
  by_cases c16 : p0.toInt < 8204
  · exact own_iv16 p0 (Int.not_lt.mp c15) c16
  by_cases c17 : p0.toInt < 8206
  · exact own_iv17 p0 (Int.not_lt.mp c16) c17
  by_cases c18 : p0.toInt < 8304
  · exact own_iv18 p0 (Int.not_lt.mp c17) c18
  by_cases c19 : p0.toInt < 8592
  · exact own_iv19 p0 (Int.not_lt.mp c18) c19
  by_cases c20 : p0.toInt < 11264
  · exact own_iv20 p0 (Int.not_lt.mp c19) c20
  by_cases c21 : p0.toInt < 12272
  · exact own_iv21 p0 (Int.not_lt.mp c20) c21
  by_cases c22 : p0.toInt < 12289
  · exact own_iv22 p0 (Int.not_lt.mp c21) c22
  by_cases c23 : p0.toInt < 55296
  · exact own_iv23 p0 (Int.not_lt.mp c22) c23
  by_cases c24 : p0.toInt < 63744
  · exact own_iv24 p0 (Int.not_lt.mp c23) c24
  by_cases c25 : p0.toInt < 64976
  · exact own_iv25 p0 (Int.not_lt.mp c24) c25
  by_cases c26 : p0.toInt < 65008
  · exact own_iv26 p0 (Int.not_lt.mp c25) c26
  by_cases c27 : p0.toInt < 65534
  · exact own_iv27 p0 (Int.not_lt.mp c26) c27
  by_cases c28 : p0.toInt < 65536
  · exact own_iv28 p0 (Int.not_lt.mp c27) c28
  by_cases c29 : p0.toInt < 983040
  · exact own_iv29 p0 (Int.not_lt.mp c28) c29
  exact own_iv30 p0 (Int.not_lt.mp c29)
theorem own_k (x : Int32) : ¬ ((XT.ushr x (1 : Int32)) % (29 : Int32)) < 0 ∧ ((XT.ushr x (1 : Int32)) % (29 : Int32)) < (29 : Int32) := by
  have h0 : 0 ≤ XT.ushr x (1 : Int32) := Jvm.Kit.i32_iushr_nonneg x (n := ((1 : Int32) &&& 31).toUInt32) (k := 1) (by decide) (by decide) (by decide)
  rw [Int32.le_iff_toInt_le] at h0
  rw [Int32.lt_iff_toInt_lt, Int32.lt_iff_toInt_lt, Int32.toInt_mod]
  have e0 : (0 : Int32).toInt = 0 := rfl
  have e1 : (29 : Int32).toInt = 29 := rfl
  rw [e0] at h0
  rw [e1, e0, Int.tmod_eq_emod_of_nonneg h0]
  omega
theorem own_pn0 : plainName "com/example/lean_markup/leanmarkup/service/ExpressionTextIsNameStartPinLaw" = true := by first | (simp [plainName, overriddenIn]; done) | decide +kernel
theorem own_ef0 (m : MethodId) (p0 : Int32) (p1 : Int32) (p2 : Int32) : entryFrame m #[(.int p0), (.int p1), (.int p2)] maxLocals = mkF m 0 #[.val (.int p0), .val (.int p1), .val (.int p2), .unset, .unset, .unset, .unset] [] := by first | (simp [entryFrame, mkF, argsToLocals, Value.category, maxLocals]; done) | rfl
def Q0 (h0 : Heap) (n0 : Nat) (v : Option Value) (h : Heap) (L : List Loc) : Prop := v = some (.int 1) ∧ Fr n0 L
theorem own_pd0 : parseMethodDescriptor "(I)Z" = some ⟨[.int], some .boolean⟩ := by decide +kernel
set_option maxRecDepth 65536 in
set_option maxHeartbeats 40000000 in
theorem rm0 (l : Launch) (Z : State) (a0 : Array Value) (hw : ∀ d ∈ tables_1, d.before a0 Z = true) (ws : List Jvm.Cond) (p0 : Int32) (p1 : Int32) (p2 : Int32) (h0 : Heap) (n0 : Nat) (Z0 : n0 ≤ h0.size) :
    MetFree l x (head1 (Jvm.Cond.code x code maxLocals ret :: ws) room_1) (fun a U => a = #[(.int p0), (.int p1), (.int p2)] ∧ Z.Warmed39 U.vm ∧ U.heap = h0) (fun _ _ _ _ _ => True) (fun _ U o U' => ∃ v L, o = .returned v ∧ Q0 h0 n0 v U'.heap L ∧ FrameEnd U o U' L room_1.cells room_1.slots) := by
  refine MetFree.of_bodySF (plainFor_of_name own_pn0) hisR ?_
  intro p e s m args below meth c s₁ Bd hml0 hP hK
  obtain ⟨ha, hZ, hh⟩ := hP
  have hx := Bd.exec
  have hby := Bd.bytes
  have hml : c.maxLocals = 7 := hml0
  have hown : s.vm.findClass "com/example/lean_markup/leanmarkup/service/ExpressionTextIsNameStartPinLaw" = some m.cls := findClass_of_methodNamed Bd.named
  have hnm := (name_of_methodNamed Bd.named Bd.method).1
  have X0 : Stand p l e room_1 s m args below meth c s₁ [] 0 0 := Stand.of_body Bd
  have e0 : s₁.heap = h0 := by rw [← hh, Bd.state]; rfl
  have N0 := Fr.nil n0
  refine own_enter (Q := (Q0 h0 n0)) (g := mkF m 0 #[.val (.int p0), .val (.int p1), .val (.int p2), .unset, .unset, .unset, .unset] []) (by rw [ha]; exact own_ef0 m p0 p1 p2) ?_
  refine own_run (g' := (mkF m 2 #[.val (.int p0), .val (.int p1), .val (.int p2), .unset, .unset, .unset, .unset] [(.int (29 : Int32))])) (fun _ kt => XS.bipush X0.here hx rfl (hb hby at_0) (kt)) ?_
  refine own_newA X0 hx hZ (aty := .int) (hw _ (List.mem_of_getElem? (i := 0) rfl)) (ty := .int) rfl rfl e0 (hb hby at_2) (by decide) (cap := 29) (by decide) (by decide) (by decide) (by decide) ?_
  intro T1 h1 b1 qq1 X1 e1 E1 A1
  have g_b1 : n0 ≤ b1 := by rw [qq1]; exact Z0
  have Z1 : n0 ≤ h1.size := Nat.le_trans Z0 E1.1
  replace A1 : own_A Z h1 b1 .int (29 : Int32) [(0 : Int32), (0 : Int32), (0 : Int32), (0 : Int32), (0 : Int32), (0 : Int32), (0 : Int32), (0 : Int32), (0 : Int32), (0 : Int32), (0 : Int32), (0 : Int32), (0 : Int32), (0 : Int32), (0 : Int32), (0 : Int32), (0 : Int32), (0 : Int32), (0 : Int32), (0 : Int32), (0 : Int32), (0 : Int32), (0 : Int32), (0 : Int32), (0 : Int32), (0 : Int32), (0 : Int32), (0 : Int32), (0 : Int32)] := A1
  refine own_run (g' := (mkF m 8 #[.val (.int p0), .val (.int p1), .val (.int p2), .unset, .unset, .unset, .unset] [(.int (97 : Int32)), (.int (0 : Int32)), (.ref b1), (.ref b1)])) (fun _ kt => XS.dup X1.here hx rfl (hb hby at_4) rfl rfl (XS.iconst X1.here hx rfl (hb hby at_5) (XS.bipush X1.here hx rfl (hb hby at_6) (kt)))) ?_
  refine own_stI X1 hx hZ e1 A1 (j := (0 : Int32)) (by decide) N0 g_b1 (hb hby at_8) (ys := [(97 : Int32), (0 : Int32), (0 : Int32), (0 : Int32), (0 : Int32), (0 : Int32), (0 : Int32), (0 : Int32), (0 : Int32), (0 : Int32), (0 : Int32), (0 : Int32), (0 : Int32), (0 : Int32), (0 : Int32), (0 : Int32), (0 : Int32), (0 : Int32), (0 : Int32), (0 : Int32), (0 : Int32), (0 : Int32), (0 : Int32), (0 : Int32), (0 : Int32), (0 : Int32), (0 : Int32), (0 : Int32), (0 : Int32)]) rfl ?_
  intro T2 h2 L2 X2 N2 e2 W2 A2
  have ZW2 : n0 ≤ h2.size := Nat.le_trans Z1 (Keep.of_wr W2).1
  refine own_run (g' := (mkF m 13 #[.val (.int p0), .val (.int p1), .val (.int p2), .unset, .unset, .unset, .unset] [(.int (122 : Int32)), (.int (1 : Int32)), (.ref b1), (.ref b1)])) (fun _ kt => XS.dup X2.here hx rfl (hb hby at_9) rfl rfl (XS.iconst X2.here hx rfl (hb hby at_10) (XS.bipush X2.here hx rfl (hb hby at_11) (kt)))) ?_
  refine own_stI X2 hx hZ e2 A2 (j := (1 : Int32)) (by decide) N2 g_b1 (hb hby at_13) (ys := [(97 : Int32), (122 : Int32), (0 : Int32), (0 : Int32), (0 : Int32), (0 : Int32), (0 : Int32), (0 : Int32), (0 : Int32), (0 : Int32), (0 : Int32), (0 : Int32), (0 : Int32), (0 : Int32), (0 : Int32), (0 : Int32), (0 : Int32), (0 : Int32), (0 : Int32), (0 : Int32), (0 : Int32), (0 : Int32), (0 : Int32), (0 : Int32), (0 : Int32), (0 : Int32), (0 : Int32), (0 : Int32), (0 : Int32)]) rfl ?_
  intro T3 h3 L3 X3 N3 e3 W3 A3
  have ZW3 : n0 ≤ h3.size := Nat.le_trans ZW2 (Keep.of_wr W3).1
  refine own_run (g' := (mkF m 18 #[.val (.int p0), .val (.int p1), .val (.int p2), .unset, .unset, .unset, .unset] [(.int (65 : Int32)), (.int (2 : Int32)), (.ref b1), (.ref b1)])) (fun _ kt => XS.dup X3.here hx rfl (hb hby at_14) rfl rfl (XS.iconst X3.here hx rfl (hb hby at_15) (XS.bipush X3.here hx rfl (hb hby at_16) (kt)))) ?_
  refine own_stI X3 hx hZ e3 A3 (j := (2 : Int32)) (by decide) N3 g_b1 (hb hby at_18) (ys := [(97 : Int32), (122 : Int32), (65 : Int32), (0 : Int32), (0 : Int32), (0 : Int32), (0 : Int32), (0 : Int32), (0 : Int32), (0 : Int32), (0 : Int32), (0 : Int32), (0 : Int32), (0 : Int32), (0 : Int32), (0 : Int32), (0 : Int32), (0 : Int32), (0 : Int32), (0 : Int32), (0 : Int32), (0 : Int32), (0 : Int32), (0 : Int32), (0 : Int32), (0 : Int32), (0 : Int32), (0 : Int32), (0 : Int32)]) rfl ?_
  intro T4 h4 L4 X4 N4 e4 W4 A4
  have ZW4 : n0 ≤ h4.size := Nat.le_trans ZW3 (Keep.of_wr W4).1
  refine own_run (g' := (mkF m 23 #[.val (.int p0), .val (.int p1), .val (.int p2), .unset, .unset, .unset, .unset] [(.int (90 : Int32)), (.int (3 : Int32)), (.ref b1), (.ref b1)])) (fun _ kt => XS.dup X4.here hx rfl (hb hby at_19) rfl rfl (XS.iconst X4.here hx rfl (hb hby at_20) (XS.bipush X4.here hx rfl (hb hby at_21) (kt)))) ?_
  refine own_stI X4 hx hZ e4 A4 (j := (3 : Int32)) (by decide) N4 g_b1 (hb hby at_23) (ys := [(97 : Int32), (122 : Int32), (65 : Int32), (90 : Int32), (0 : Int32), (0 : Int32), (0 : Int32), (0 : Int32), (0 : Int32), (0 : Int32), (0 : Int32), (0 : Int32), (0 : Int32), (0 : Int32), (0 : Int32), (0 : Int32), (0 : Int32), (0 : Int32), (0 : Int32), (0 : Int32), (0 : Int32), (0 : Int32), (0 : Int32), (0 : Int32), (0 : Int32), (0 : Int32), (0 : Int32), (0 : Int32), (0 : Int32)]) rfl ?_
  intro T5 h5 L5 X5 N5 e5 W5 A5
  have ZW5 : n0 ≤ h5.size := Nat.le_trans ZW4 (Keep.of_wr W5).1
  refine own_run (g' := (mkF m 28 #[.val (.int p0), .val (.int p1), .val (.int p2), .unset, .unset, .unset, .unset] [(.int (95 : Int32)), (.int (4 : Int32)), (.ref b1), (.ref b1)])) (fun _ kt => XS.dup X5.here hx rfl (hb hby at_24) rfl rfl (XS.iconst X5.here hx rfl (hb hby at_25) (XS.bipush X5.here hx rfl (hb hby at_26) (kt)))) ?_
  refine own_stI X5 hx hZ e5 A5 (j := (4 : Int32)) (by decide) N5 g_b1 (hb hby at_28) (ys := [(97 : Int32), (122 : Int32), (65 : Int32), (90 : Int32), (95 : Int32), (0 : Int32), (0 : Int32), (0 : Int32), (0 : Int32), (0 : Int32), (0 : Int32), (0 : Int32), (0 : Int32), (0 : Int32), (0 : Int32), (0 : Int32), (0 : Int32), (0 : Int32), (0 : Int32), (0 : Int32), (0 : Int32), (0 : Int32), (0 : Int32), (0 : Int32), (0 : Int32), (0 : Int32), (0 : Int32), (0 : Int32), (0 : Int32)]) rfl ?_
  intro T6 h6 L6 X6 N6 e6 W6 A6
  have ZW6 : n0 ≤ h6.size := Nat.le_trans ZW5 (Keep.of_wr W6).1
  refine own_run (g' := (mkF m 34 #[.val (.int p0), .val (.int p1), .val (.int p2), .unset, .unset, .unset, .unset] [(.int (192 : Int32)), (.int (5 : Int32)), (.ref b1), (.ref b1)])) (fun _ kt => XS.dup X6.here hx rfl (hb hby at_29) rfl rfl (XS.iconst X6.here hx rfl (hb hby at_30) (XS.sipush X6.here hx rfl (hb hby at_31) (kt)))) ?_
  refine own_stI X6 hx hZ e6 A6 (j := (5 : Int32)) (by decide) N6 g_b1 (hb hby at_34) (ys := [(97 : Int32), (122 : Int32), (65 : Int32), (90 : Int32), (95 : Int32), (192 : Int32), (0 : Int32), (0 : Int32), (0 : Int32), (0 : Int32), (0 : Int32), (0 : Int32), (0 : Int32), (0 : Int32), (0 : Int32), (0 : Int32), (0 : Int32), (0 : Int32), (0 : Int32), (0 : Int32), (0 : Int32), (0 : Int32), (0 : Int32), (0 : Int32), (0 : Int32), (0 : Int32), (0 : Int32), (0 : Int32), (0 : Int32)]) rfl ?_
  intro T7 h7 L7 X7 N7 e7 W7 A7
  have ZW7 : n0 ≤ h7.size := Nat.le_trans ZW6 (Keep.of_wr W7).1
  refine own_run (g' := (mkF m 41 #[.val (.int p0), .val (.int p1), .val (.int p2), .unset, .unset, .unset, .unset] [(.int (214 : Int32)), (.int (6 : Int32)), (.ref b1), (.ref b1)])) (fun _ kt => XS.dup X7.here hx rfl (hb hby at_35) rfl rfl (XS.bipush X7.here hx rfl (hb hby at_36) (XS.sipush X7.here hx rfl (hb hby at_38) (kt)))) ?_
  refine own_stI X7 hx hZ e7 A7 (j := (6 : Int32)) (by decide) N7 g_b1 (hb hby at_41) (ys := [(97 : Int32), (122 : Int32), (65 : Int32), (90 : Int32), (95 : Int32), (192 : Int32), (214 : Int32), (0 : Int32), (0 : Int32), (0 : Int32), (0 : Int32), (0 : Int32), (0 : Int32), (0 : Int32), (0 : Int32), (0 : Int32), (0 : Int32), (0 : Int32), (0 : Int32), (0 : Int32), (0 : Int32), (0 : Int32), (0 : Int32), (0 : Int32), (0 : Int32), (0 : Int32), (0 : Int32), (0 : Int32), (0 : Int32)]) rfl ?_
  intro T8 h8 L8 X8 N8 e8 W8 A8
  have ZW8 : n0 ≤ h8.size := Nat.le_trans ZW7 (Keep.of_wr W8).1
  refine own_run (g' := (mkF m 48 #[.val (.int p0), .val (.int p1), .val (.int p2), .unset, .unset, .unset, .unset] [(.int (216 : Int32)), (.int (7 : Int32)), (.ref b1), (.ref b1)])) (fun _ kt => XS.dup X8.here hx rfl (hb hby at_42) rfl rfl (XS.bipush X8.here hx rfl (hb hby at_43) (XS.sipush X8.here hx rfl (hb hby at_45) (kt)))) ?_
  refine own_stI X8 hx hZ e8 A8 (j := (7 : Int32)) (by decide) N8 g_b1 (hb hby at_48) (ys := [(97 : Int32), (122 : Int32), (65 : Int32), (90 : Int32), (95 : Int32), (192 : Int32), (214 : Int32), (216 : Int32), (0 : Int32), (0 : Int32), (0 : Int32), (0 : Int32), (0 : Int32), (0 : Int32), (0 : Int32), (0 : Int32), (0 : Int32), (0 : Int32), (0 : Int32), (0 : Int32), (0 : Int32), (0 : Int32), (0 : Int32), (0 : Int32), (0 : Int32), (0 : Int32), (0 : Int32), (0 : Int32), (0 : Int32)]) rfl ?_
  intro T9 h9 L9 X9 N9 e9 W9 A9
  have ZW9 : n0 ≤ h9.size := Nat.le_trans ZW8 (Keep.of_wr W9).1
  refine own_run (g' := (mkF m 55 #[.val (.int p0), .val (.int p1), .val (.int p2), .unset, .unset, .unset, .unset] [(.int (246 : Int32)), (.int (8 : Int32)), (.ref b1), (.ref b1)])) (fun _ kt => XS.dup X9.here hx rfl (hb hby at_49) rfl rfl (XS.bipush X9.here hx rfl (hb hby at_50) (XS.sipush X9.here hx rfl (hb hby at_52) (kt)))) ?_
  refine own_stI X9 hx hZ e9 A9 (j := (8 : Int32)) (by decide) N9 g_b1 (hb hby at_55) (ys := [(97 : Int32), (122 : Int32), (65 : Int32), (90 : Int32), (95 : Int32), (192 : Int32), (214 : Int32), (216 : Int32), (246 : Int32), (0 : Int32), (0 : Int32), (0 : Int32), (0 : Int32), (0 : Int32), (0 : Int32), (0 : Int32), (0 : Int32), (0 : Int32), (0 : Int32), (0 : Int32), (0 : Int32), (0 : Int32), (0 : Int32), (0 : Int32), (0 : Int32), (0 : Int32), (0 : Int32), (0 : Int32), (0 : Int32)]) rfl ?_
  intro T10 h10 L10 X10 N10 e10 W10 A10
  have ZW10 : n0 ≤ h10.size := Nat.le_trans ZW9 (Keep.of_wr W10).1
  refine own_run (g' := (mkF m 62 #[.val (.int p0), .val (.int p1), .val (.int p2), .unset, .unset, .unset, .unset] [(.int (248 : Int32)), (.int (9 : Int32)), (.ref b1), (.ref b1)])) (fun _ kt => XS.dup X10.here hx rfl (hb hby at_56) rfl rfl (XS.bipush X10.here hx rfl (hb hby at_57) (XS.sipush X10.here hx rfl (hb hby at_59) (kt)))) ?_
  refine own_stI X10 hx hZ e10 A10 (j := (9 : Int32)) (by decide) N10 g_b1 (hb hby at_62) (ys := [(97 : Int32), (122 : Int32), (65 : Int32), (90 : Int32), (95 : Int32), (192 : Int32), (214 : Int32), (216 : Int32), (246 : Int32), (248 : Int32), (0 : Int32), (0 : Int32), (0 : Int32), (0 : Int32), (0 : Int32), (0 : Int32), (0 : Int32), (0 : Int32), (0 : Int32), (0 : Int32), (0 : Int32), (0 : Int32), (0 : Int32), (0 : Int32), (0 : Int32), (0 : Int32), (0 : Int32), (0 : Int32), (0 : Int32)]) rfl ?_
  intro T11 h11 L11 X11 N11 e11 W11 A11
  have ZW11 : n0 ≤ h11.size := Nat.le_trans ZW10 (Keep.of_wr W11).1
  refine own_run (g' := (mkF m 69 #[.val (.int p0), .val (.int p1), .val (.int p2), .unset, .unset, .unset, .unset] [(.int (767 : Int32)), (.int (10 : Int32)), (.ref b1), (.ref b1)])) (fun _ kt => XS.dup X11.here hx rfl (hb hby at_63) rfl rfl (XS.bipush X11.here hx rfl (hb hby at_64) (XS.sipush X11.here hx rfl (hb hby at_66) (kt)))) ?_
  refine own_stI X11 hx hZ e11 A11 (j := (10 : Int32)) (by decide) N11 g_b1 (hb hby at_69) (ys := [(97 : Int32), (122 : Int32), (65 : Int32), (90 : Int32), (95 : Int32), (192 : Int32), (214 : Int32), (216 : Int32), (246 : Int32), (248 : Int32), (767 : Int32), (0 : Int32), (0 : Int32), (0 : Int32), (0 : Int32), (0 : Int32), (0 : Int32), (0 : Int32), (0 : Int32), (0 : Int32), (0 : Int32), (0 : Int32), (0 : Int32), (0 : Int32), (0 : Int32), (0 : Int32), (0 : Int32), (0 : Int32), (0 : Int32)]) rfl ?_
  intro T12 h12 L12 X12 N12 e12 W12 A12
  have ZW12 : n0 ≤ h12.size := Nat.le_trans ZW11 (Keep.of_wr W12).1
  refine own_run (g' := (mkF m 76 #[.val (.int p0), .val (.int p1), .val (.int p2), .unset, .unset, .unset, .unset] [(.int (880 : Int32)), (.int (11 : Int32)), (.ref b1), (.ref b1)])) (fun _ kt => XS.dup X12.here hx rfl (hb hby at_70) rfl rfl (XS.bipush X12.here hx rfl (hb hby at_71) (XS.sipush X12.here hx rfl (hb hby at_73) (kt)))) ?_
  refine own_stI X12 hx hZ e12 A12 (j := (11 : Int32)) (by decide) N12 g_b1 (hb hby at_76) (ys := [(97 : Int32), (122 : Int32), (65 : Int32), (90 : Int32), (95 : Int32), (192 : Int32), (214 : Int32), (216 : Int32), (246 : Int32), (248 : Int32), (767 : Int32), (880 : Int32), (0 : Int32), (0 : Int32), (0 : Int32), (0 : Int32), (0 : Int32), (0 : Int32), (0 : Int32), (0 : Int32), (0 : Int32), (0 : Int32), (0 : Int32), (0 : Int32), (0 : Int32), (0 : Int32), (0 : Int32), (0 : Int32), (0 : Int32)]) rfl ?_
  intro T13 h13 L13 X13 N13 e13 W13 A13
  have ZW13 : n0 ≤ h13.size := Nat.le_trans ZW12 (Keep.of_wr W13).1
  refine own_run (g' := (mkF m 83 #[.val (.int p0), .val (.int p1), .val (.int p2), .unset, .unset, .unset, .unset] [(.int (893 : Int32)), (.int (12 : Int32)), (.ref b1), (.ref b1)])) (fun _ kt => XS.dup X13.here hx rfl (hb hby at_77) rfl rfl (XS.bipush X13.here hx rfl (hb hby at_78) (XS.sipush X13.here hx rfl (hb hby at_80) (kt)))) ?_
  refine own_stI X13 hx hZ e13 A13 (j := (12 : Int32)) (by decide) N13 g_b1 (hb hby at_83) (ys := [(97 : Int32), (122 : Int32), (65 : Int32), (90 : Int32), (95 : Int32), (192 : Int32), (214 : Int32), (216 : Int32), (246 : Int32), (248 : Int32), (767 : Int32), (880 : Int32), (893 : Int32), (0 : Int32), (0 : Int32), (0 : Int32), (0 : Int32), (0 : Int32), (0 : Int32), (0 : Int32), (0 : Int32), (0 : Int32), (0 : Int32), (0 : Int32), (0 : Int32), (0 : Int32), (0 : Int32), (0 : Int32), (0 : Int32)]) rfl ?_
  intro T14 h14 L14 X14 N14 e14 W14 A14
  have ZW14 : n0 ≤ h14.size := Nat.le_trans ZW13 (Keep.of_wr W14).1
  refine own_run (g' := (mkF m 90 #[.val (.int p0), .val (.int p1), .val (.int p2), .unset, .unset, .unset, .unset] [(.int (895 : Int32)), (.int (13 : Int32)), (.ref b1), (.ref b1)])) (fun _ kt => XS.dup X14.here hx rfl (hb hby at_84) rfl rfl (XS.bipush X14.here hx rfl (hb hby at_85) (XS.sipush X14.here hx rfl (hb hby at_87) (kt)))) ?_
  refine own_stI X14 hx hZ e14 A14 (j := (13 : Int32)) (by decide) N14 g_b1 (hb hby at_90) (ys := [(97 : Int32), (122 : Int32), (65 : Int32), (90 : Int32), (95 : Int32), (192 : Int32), (214 : Int32), (216 : Int32), (246 : Int32), (248 : Int32), (767 : Int32), (880 : Int32), (893 : Int32), (895 : Int32), (0 : Int32), (0 : Int32), (0 : Int32), (0 : Int32), (0 : Int32), (0 : Int32), (0 : Int32), (0 : Int32), (0 : Int32), (0 : Int32), (0 : Int32), (0 : Int32), (0 : Int32), (0 : Int32), (0 : Int32)]) rfl ?_
  intro T15 h15 L15 X15 N15 e15 W15 A15
  have ZW15 : n0 ≤ h15.size := Nat.le_trans ZW14 (Keep.of_wr W15).1
  refine own_run (g' := (mkF m 97 #[.val (.int p0), .val (.int p1), .val (.int p2), .unset, .unset, .unset, .unset] [(.int (8191 : Int32)), (.int (14 : Int32)), (.ref b1), (.ref b1)])) (fun _ kt => XS.dup X15.here hx rfl (hb hby at_91) rfl rfl (XS.bipush X15.here hx rfl (hb hby at_92) (XS.sipush X15.here hx rfl (hb hby at_94) (kt)))) ?_
  refine own_stI X15 hx hZ e15 A15 (j := (14 : Int32)) (by decide) N15 g_b1 (hb hby at_97) (ys := [(97 : Int32), (122 : Int32), (65 : Int32), (90 : Int32), (95 : Int32), (192 : Int32), (214 : Int32), (216 : Int32), (246 : Int32), (248 : Int32), (767 : Int32), (880 : Int32), (893 : Int32), (895 : Int32), (8191 : Int32), (0 : Int32), (0 : Int32), (0 : Int32), (0 : Int32), (0 : Int32), (0 : Int32), (0 : Int32), (0 : Int32), (0 : Int32), (0 : Int32), (0 : Int32), (0 : Int32), (0 : Int32), (0 : Int32)]) rfl ?_
  intro T16 h16 L16 X16 N16 e16 W16 A16
  have ZW16 : n0 ≤ h16.size := Nat.le_trans ZW15 (Keep.of_wr W16).1
  refine own_run (g' := (mkF m 104 #[.val (.int p0), .val (.int p1), .val (.int p2), .unset, .unset, .unset, .unset] [(.int (8204 : Int32)), (.int (15 : Int32)), (.ref b1), (.ref b1)])) (fun _ kt => XS.dup X16.here hx rfl (hb hby at_98) rfl rfl (XS.bipush X16.here hx rfl (hb hby at_99) (XS.sipush X16.here hx rfl (hb hby at_101) (kt)))) ?_
  refine own_stI X16 hx hZ e16 A16 (j := (15 : Int32)) (by decide) N16 g_b1 (hb hby at_104) (ys := [(97 : Int32), (122 : Int32), (65 : Int32), (90 : Int32), (95 : Int32), (192 : Int32), (214 : Int32), (216 : Int32), (246 : Int32), (248 : Int32), (767 : Int32), (880 : Int32), (893 : Int32), (895 : Int32), (8191 : Int32), (8204 : Int32), (0 : Int32), (0 : Int32), (0 : Int32), (0 : Int32), (0 : Int32), (0 : Int32), (0 : Int32), (0 : Int32), (0 : Int32), (0 : Int32), (0 : Int32), (0 : Int32), (0 : Int32)]) rfl ?_
  intro T17 h17 L17 X17 N17 e17 W17 A17
  have ZW17 : n0 ≤ h17.size := Nat.le_trans ZW16 (Keep.of_wr W17).1
  refine own_run (g' := (mkF m 111 #[.val (.int p0), .val (.int p1), .val (.int p2), .unset, .unset, .unset, .unset] [(.int (8205 : Int32)), (.int (16 : Int32)), (.ref b1), (.ref b1)])) (fun _ kt => XS.dup X17.here hx rfl (hb hby at_105) rfl rfl (XS.bipush X17.here hx rfl (hb hby at_106) (XS.sipush X17.here hx rfl (hb hby at_108) (kt)))) ?_
  refine own_stI X17 hx hZ e17 A17 (j := (16 : Int32)) (by decide) N17 g_b1 (hb hby at_111) (ys := [(97 : Int32), (122 : Int32), (65 : Int32), (90 : Int32), (95 : Int32), (192 : Int32), (214 : Int32), (216 : Int32), (246 : Int32), (248 : Int32), (767 : Int32), (880 : Int32), (893 : Int32), (895 : Int32), (8191 : Int32), (8204 : Int32), (8205 : Int32), (0 : Int32), (0 : Int32), (0 : Int32), (0 : Int32), (0 : Int32), (0 : Int32), (0 : Int32), (0 : Int32), (0 : Int32), (0 : Int32), (0 : Int32), (0 : Int32)]) rfl ?_
  intro T18 h18 L18 X18 N18 e18 W18 A18
  have ZW18 : n0 ≤ h18.size := Nat.le_trans ZW17 (Keep.of_wr W18).1
  refine own_run (g' := (mkF m 118 #[.val (.int p0), .val (.int p1), .val (.int p2), .unset, .unset, .unset, .unset] [(.int (8304 : Int32)), (.int (17 : Int32)), (.ref b1), (.ref b1)])) (fun _ kt => XS.dup X18.here hx rfl (hb hby at_112) rfl rfl (XS.bipush X18.here hx rfl (hb hby at_113) (XS.sipush X18.here hx rfl (hb hby at_115) (kt)))) ?_
  refine own_stI X18 hx hZ e18 A18 (j := (17 : Int32)) (by decide) N18 g_b1 (hb hby at_118) (ys := [(97 : Int32), (122 : Int32), (65 : Int32), (90 : Int32), (95 : Int32), (192 : Int32), (214 : Int32), (216 : Int32), (246 : Int32), (248 : Int32), (767 : Int32), (880 : Int32), (893 : Int32), (895 : Int32), (8191 : Int32), (8204 : Int32), (8205 : Int32), (8304 : Int32), (0 : Int32), (0 : Int32), (0 : Int32), (0 : Int32), (0 : Int32), (0 : Int32), (0 : Int32), (0 : Int32), (0 : Int32), (0 : Int32), (0 : Int32)]) rfl ?_
  intro T19 h19 L19 X19 N19 e19 W19 A19
  have ZW19 : n0 ≤ h19.size := Nat.le_trans ZW18 (Keep.of_wr W19).1
  refine own_run (g' := (mkF m 125 #[.val (.int p0), .val (.int p1), .val (.int p2), .unset, .unset, .unset, .unset] [(.int (8591 : Int32)), (.int (18 : Int32)), (.ref b1), (.ref b1)])) (fun _ kt => XS.dup X19.here hx rfl (hb hby at_119) rfl rfl (XS.bipush X19.here hx rfl (hb hby at_120) (XS.sipush X19.here hx rfl (hb hby at_122) (kt)))) ?_
  refine own_stI X19 hx hZ e19 A19 (j := (18 : Int32)) (by decide) N19 g_b1 (hb hby at_125) (ys := [(97 : Int32), (122 : Int32), (65 : Int32), (90 : Int32), (95 : Int32), (192 : Int32), (214 : Int32), (216 : Int32), (246 : Int32), (248 : Int32), (767 : Int32), (880 : Int32), (893 : Int32), (895 : Int32), (8191 : Int32), (8204 : Int32), (8205 : Int32), (8304 : Int32), (8591 : Int32), (0 : Int32), (0 : Int32), (0 : Int32), (0 : Int32), (0 : Int32), (0 : Int32), (0 : Int32), (0 : Int32), (0 : Int32), (0 : Int32)]) rfl ?_
  intro T20 h20 L20 X20 N20 e20 W20 A20
  have ZW20 : n0 ≤ h20.size := Nat.le_trans ZW19 (Keep.of_wr W20).1
  refine own_run (g' := (mkF m 132 #[.val (.int p0), .val (.int p1), .val (.int p2), .unset, .unset, .unset, .unset] [(.int (11264 : Int32)), (.int (19 : Int32)), (.ref b1), (.ref b1)])) (fun _ kt => XS.dup X20.here hx rfl (hb hby at_126) rfl rfl (XS.bipush X20.here hx rfl (hb hby at_127) (XS.sipush X20.here hx rfl (hb hby at_129) (kt)))) ?_
  refine own_stI X20 hx hZ e20 A20 (j := (19 : Int32)) (by decide) N20 g_b1 (hb hby at_132) (ys := [(97 : Int32), (122 : Int32), (65 : Int32), (90 : Int32), (95 : Int32), (192 : Int32), (214 : Int32), (216 : Int32), (246 : Int32), (248 : Int32), (767 : Int32), (880 : Int32), (893 : Int32), (895 : Int32), (8191 : Int32), (8204 : Int32), (8205 : Int32), (8304 : Int32), (8591 : Int32), (11264 : Int32), (0 : Int32), (0 : Int32), (0 : Int32), (0 : Int32), (0 : Int32), (0 : Int32), (0 : Int32), (0 : Int32), (0 : Int32)]) rfl ?_
  intro T21 h21 L21 X21 N21 e21 W21 A21
  have ZW21 : n0 ≤ h21.size := Nat.le_trans ZW20 (Keep.of_wr W21).1
  refine own_run (g' := (mkF m 139 #[.val (.int p0), .val (.int p1), .val (.int p2), .unset, .unset, .unset, .unset] [(.int (12271 : Int32)), (.int (20 : Int32)), (.ref b1), (.ref b1)])) (fun _ kt => XS.dup X21.here hx rfl (hb hby at_133) rfl rfl (XS.bipush X21.here hx rfl (hb hby at_134) (XS.sipush X21.here hx rfl (hb hby at_136) (kt)))) ?_
  refine own_stI X21 hx hZ e21 A21 (j := (20 : Int32)) (by decide) N21 g_b1 (hb hby at_139) (ys := [(97 : Int32), (122 : Int32), (65 : Int32), (90 : Int32), (95 : Int32), (192 : Int32), (214 : Int32), (216 : Int32), (246 : Int32), (248 : Int32), (767 : Int32), (880 : Int32), (893 : Int32), (895 : Int32), (8191 : Int32), (8204 : Int32), (8205 : Int32), (8304 : Int32), (8591 : Int32), (11264 : Int32), (12271 : Int32), (0 : Int32), (0 : Int32), (0 : Int32), (0 : Int32), (0 : Int32), (0 : Int32), (0 : Int32), (0 : Int32)]) rfl ?_
  intro T22 h22 L22 X22 N22 e22 W22 A22
  have ZW22 : n0 ≤ h22.size := Nat.le_trans ZW21 (Keep.of_wr W22).1
  refine own_run (g' := (mkF m 146 #[.val (.int p0), .val (.int p1), .val (.int p2), .unset, .unset, .unset, .unset] [(.int (12289 : Int32)), (.int (21 : Int32)), (.ref b1), (.ref b1)])) (fun _ kt => XS.dup X22.here hx rfl (hb hby at_140) rfl rfl (XS.bipush X22.here hx rfl (hb hby at_141) (XS.sipush X22.here hx rfl (hb hby at_143) (kt)))) ?_
  refine own_stI X22 hx hZ e22 A22 (j := (21 : Int32)) (by decide) N22 g_b1 (hb hby at_146) (ys := [(97 : Int32), (122 : Int32), (65 : Int32), (90 : Int32), (95 : Int32), (192 : Int32), (214 : Int32), (216 : Int32), (246 : Int32), (248 : Int32), (767 : Int32), (880 : Int32), (893 : Int32), (895 : Int32), (8191 : Int32), (8204 : Int32), (8205 : Int32), (8304 : Int32), (8591 : Int32), (11264 : Int32), (12271 : Int32), (12289 : Int32), (0 : Int32), (0 : Int32), (0 : Int32), (0 : Int32), (0 : Int32), (0 : Int32), (0 : Int32)]) rfl ?_
  intro T23 h23 L23 X23 N23 e23 W23 A23
  have ZW23 : n0 ≤ h23.size := Nat.le_trans ZW22 (Keep.of_wr W23).1
  refine own_run (g' := (mkF m 150 #[.val (.int p0), .val (.int p1), .val (.int p2), .unset, .unset, .unset, .unset] [(.int (22 : Int32)), (.ref b1), (.ref b1)])) (fun _ kt => XS.dup X23.here hx rfl (hb hby at_147) rfl rfl (XS.bipush X23.here hx rfl (hb hby at_148) (kt))) ?_
  refine own_ldcI X23 hx hZ hown (hw _ (List.mem_of_getElem? (i := 1) rfl)) (hb hby at_150) ?_
  refine own_stI X23 hx hZ e23 A23 (j := (22 : Int32)) (by decide) N23 g_b1 (hb hby at_152) (ys := [(97 : Int32), (122 : Int32), (65 : Int32), (90 : Int32), (95 : Int32), (192 : Int32), (214 : Int32), (216 : Int32), (246 : Int32), (248 : Int32), (767 : Int32), (880 : Int32), (893 : Int32), (895 : Int32), (8191 : Int32), (8204 : Int32), (8205 : Int32), (8304 : Int32), (8591 : Int32), (11264 : Int32), (12271 : Int32), (12289 : Int32), (55295 : Int32), (0 : Int32), (0 : Int32), (0 : Int32), (0 : Int32), (0 : Int32), (0 : Int32)]) rfl ?_
  intro T24 h24 L24 X24 N24 e24 W24 A24
  have ZW24 : n0 ≤ h24.size := Nat.le_trans ZW23 (Keep.of_wr W24).1
  refine own_run (g' := (mkF m 156 #[.val (.int p0), .val (.int p1), .val (.int p2), .unset, .unset, .unset, .unset] [(.int (23 : Int32)), (.ref b1), (.ref b1)])) (fun _ kt => XS.dup X24.here hx rfl (hb hby at_153) rfl rfl (XS.bipush X24.here hx rfl (hb hby at_154) (kt))) ?_
  refine own_ldcI X24 hx hZ hown (hw _ (List.mem_of_getElem? (i := 2) rfl)) (hb hby at_156) ?_
  refine own_stI X24 hx hZ e24 A24 (j := (23 : Int32)) (by decide) N24 g_b1 (hb hby at_158) (ys := [(97 : Int32), (122 : Int32), (65 : Int32), (90 : Int32), (95 : Int32), (192 : Int32), (214 : Int32), (216 : Int32), (246 : Int32), (248 : Int32), (767 : Int32), (880 : Int32), (893 : Int32), (895 : Int32), (8191 : Int32), (8204 : Int32), (8205 : Int32), (8304 : Int32), (8591 : Int32), (11264 : Int32), (12271 : Int32), (12289 : Int32), (55295 : Int32), (63744 : Int32), (0 : Int32), (0 : Int32), (0 : Int32), (0 : Int32), (0 : Int32)]) rfl ?_
  intro T25 h25 L25 X25 N25 e25 W25 A25
  have ZW25 : n0 ≤ h25.size := Nat.le_trans ZW24 (Keep.of_wr W25).1
  refine own_run (g' := (mkF m 162 #[.val (.int p0), .val (.int p1), .val (.int p2), .unset, .unset, .unset, .unset] [(.int (24 : Int32)), (.ref b1), (.ref b1)])) (fun _ kt => XS.dup X25.here hx rfl (hb hby at_159) rfl rfl (XS.bipush X25.here hx rfl (hb hby at_160) (kt))) ?_
  refine own_ldcI X25 hx hZ hown (hw _ (List.mem_of_getElem? (i := 3) rfl)) (hb hby at_162) ?_
  refine own_stI X25 hx hZ e25 A25 (j := (24 : Int32)) (by decide) N25 g_b1 (hb hby at_164) (ys := [(97 : Int32), (122 : Int32), (65 : Int32), (90 : Int32), (95 : Int32), (192 : Int32), (214 : Int32), (216 : Int32), (246 : Int32), (248 : Int32), (767 : Int32), (880 : Int32), (893 : Int32), (895 : Int32), (8191 : Int32), (8204 : Int32), (8205 : Int32), (8304 : Int32), (8591 : Int32), (11264 : Int32), (12271 : Int32), (12289 : Int32), (55295 : Int32), (63744 : Int32), (64975 : Int32), (0 : Int32), (0 : Int32), (0 : Int32), (0 : Int32)]) rfl ?_
  intro T26 h26 L26 X26 N26 e26 W26 A26
  have ZW26 : n0 ≤ h26.size := Nat.le_trans ZW25 (Keep.of_wr W26).1
  refine own_run (g' := (mkF m 168 #[.val (.int p0), .val (.int p1), .val (.int p2), .unset, .unset, .unset, .unset] [(.int (25 : Int32)), (.ref b1), (.ref b1)])) (fun _ kt => XS.dup X26.here hx rfl (hb hby at_165) rfl rfl (XS.bipush X26.here hx rfl (hb hby at_166) (kt))) ?_
  refine own_ldcI X26 hx hZ hown (hw _ (List.mem_of_getElem? (i := 4) rfl)) (hb hby at_168) ?_
  refine own_stI X26 hx hZ e26 A26 (j := (25 : Int32)) (by decide) N26 g_b1 (hb hby at_170) (ys := [(97 : Int32), (122 : Int32), (65 : Int32), (90 : Int32), (95 : Int32), (192 : Int32), (214 : Int32), (216 : Int32), (246 : Int32), (248 : Int32), (767 : Int32), (880 : Int32), (893 : Int32), (895 : Int32), (8191 : Int32), (8204 : Int32), (8205 : Int32), (8304 : Int32), (8591 : Int32), (11264 : Int32), (12271 : Int32), (12289 : Int32), (55295 : Int32), (63744 : Int32), (64975 : Int32), (65008 : Int32), (0 : Int32), (0 : Int32), (0 : Int32)]) rfl ?_
  intro T27 h27 L27 X27 N27 e27 W27 A27
  have ZW27 : n0 ≤ h27.size := Nat.le_trans ZW26 (Keep.of_wr W27).1
  refine own_run (g' := (mkF m 174 #[.val (.int p0), .val (.int p1), .val (.int p2), .unset, .unset, .unset, .unset] [(.int (26 : Int32)), (.ref b1), (.ref b1)])) (fun _ kt => XS.dup X27.here hx rfl (hb hby at_171) rfl rfl (XS.bipush X27.here hx rfl (hb hby at_172) (kt))) ?_
  refine own_ldcI X27 hx hZ hown (hw _ (List.mem_of_getElem? (i := 5) rfl)) (hb hby at_174) ?_
  refine own_stI X27 hx hZ e27 A27 (j := (26 : Int32)) (by decide) N27 g_b1 (hb hby at_176) (ys := [(97 : Int32), (122 : Int32), (65 : Int32), (90 : Int32), (95 : Int32), (192 : Int32), (214 : Int32), (216 : Int32), (246 : Int32), (248 : Int32), (767 : Int32), (880 : Int32), (893 : Int32), (895 : Int32), (8191 : Int32), (8204 : Int32), (8205 : Int32), (8304 : Int32), (8591 : Int32), (11264 : Int32), (12271 : Int32), (12289 : Int32), (55295 : Int32), (63744 : Int32), (64975 : Int32), (65008 : Int32), (65533 : Int32), (0 : Int32), (0 : Int32)]) rfl ?_
  intro T28 h28 L28 X28 N28 e28 W28 A28
  have ZW28 : n0 ≤ h28.size := Nat.le_trans ZW27 (Keep.of_wr W28).1
  refine own_run (g' := (mkF m 180 #[.val (.int p0), .val (.int p1), .val (.int p2), .unset, .unset, .unset, .unset] [(.int (27 : Int32)), (.ref b1), (.ref b1)])) (fun _ kt => XS.dup X28.here hx rfl (hb hby at_177) rfl rfl (XS.bipush X28.here hx rfl (hb hby at_178) (kt))) ?_
  refine own_ldcI X28 hx hZ hown (hw _ (List.mem_of_getElem? (i := 6) rfl)) (hb hby at_180) ?_
  refine own_stI X28 hx hZ e28 A28 (j := (27 : Int32)) (by decide) N28 g_b1 (hb hby at_182) (ys := [(97 : Int32), (122 : Int32), (65 : Int32), (90 : Int32), (95 : Int32), (192 : Int32), (214 : Int32), (216 : Int32), (246 : Int32), (248 : Int32), (767 : Int32), (880 : Int32), (893 : Int32), (895 : Int32), (8191 : Int32), (8204 : Int32), (8205 : Int32), (8304 : Int32), (8591 : Int32), (11264 : Int32), (12271 : Int32), (12289 : Int32), (55295 : Int32), (63744 : Int32), (64975 : Int32), (65008 : Int32), (65533 : Int32), (65536 : Int32), (0 : Int32)]) rfl ?_
  intro T29 h29 L29 X29 N29 e29 W29 A29
  have ZW29 : n0 ≤ h29.size := Nat.le_trans ZW28 (Keep.of_wr W29).1
  refine own_run (g' := (mkF m 186 #[.val (.int p0), .val (.int p1), .val (.int p2), .unset, .unset, .unset, .unset] [(.int (28 : Int32)), (.ref b1), (.ref b1)])) (fun _ kt => XS.dup X29.here hx rfl (hb hby at_183) rfl rfl (XS.bipush X29.here hx rfl (hb hby at_184) (kt))) ?_
  refine own_ldcI X29 hx hZ hown (hw _ (List.mem_of_getElem? (i := 7) rfl)) (hb hby at_186) ?_
  refine own_stI X29 hx hZ e29 A29 (j := (28 : Int32)) (by decide) N29 g_b1 (hb hby at_188) (ys := [(97 : Int32), (122 : Int32), (65 : Int32), (90 : Int32), (95 : Int32), (192 : Int32), (214 : Int32), (216 : Int32), (246 : Int32), (248 : Int32), (767 : Int32), (880 : Int32), (893 : Int32), (895 : Int32), (8191 : Int32), (8204 : Int32), (8205 : Int32), (8304 : Int32), (8591 : Int32), (11264 : Int32), (12271 : Int32), (12289 : Int32), (55295 : Int32), (63744 : Int32), (64975 : Int32), (65008 : Int32), (65533 : Int32), (65536 : Int32), (983039 : Int32)]) rfl ?_
  intro T30 h30 L30 X30 N30 e30 W30 A30
  have ZW30 : n0 ≤ h30.size := Nat.le_trans ZW29 (Keep.of_wr W30).1
  refine own_run (g' := (mkF m 193 #[.val (.int p0), .val (.int p1), .val (.int p2), .val (.ref b1), .unset, .unset, .unset] [(.int (p1 &&& (1 : Int32)))])) (fun _ kt => XS.astoreN X30.here hx rfl (hb hby at_189) rfl rfl (l' := #[.val (.int p0), .val (.int p1), .val (.int p2), .val (.ref b1), .unset, .unset, .unset]) rfl (XS.iloadN X30.here hx rfl (hb hby at_190) rfl (XS.iconst X30.here hx rfl (hb hby at_191) (XS.iand X30.here hx rfl (hb hby at_192) rfl (kt))))) ?_
  have J31 : ∀ (v31_4 : Int32) (s31_5 : Slot) (s31_6 : Slot), v31_4 = (if (p1 &&& (1 : Int32)) = (0 : Int32) then p0 else (([(97 : Int32), (122 : Int32), (65 : Int32), (90 : Int32), (95 : Int32), (192 : Int32), (214 : Int32), (216 : Int32), (246 : Int32), (248 : Int32), (767 : Int32), (880 : Int32), (893 : Int32), (895 : Int32), (8191 : Int32), (8204 : Int32), (8205 : Int32), (8304 : Int32), (8591 : Int32), (11264 : Int32), (12271 : Int32), (12289 : Int32), (55295 : Int32), (63744 : Int32), (64975 : Int32), (65008 : Int32), (65533 : Int32), (65536 : Int32), (983039 : Int32)].getD ((XT.ushr p1 (1 : Int32)) % (29 : Int32)).toNatClampNeg 0) + (((p2 &&& (2147483647 : Int32)) % (3 : Int32)) - (1 : Int32)))) → (s31_5 = .unset ∨ ∃ w, s31_5 = .val w ∧ w.category = 1) → (s31_6 = .unset ∨ ∃ w, s31_6 = .val w ∧ w.category = 1) →  own_Run p e below s room_1.cells room_1.slots (Q0 h0 n0) T30 (mkF m 229 #[.val (.int p0), .val (.int p1), .val (.int p2), .val (.ref b1), .val (.int v31_4), s31_5, s31_6] []) := by
    intro v31_4 s31_5 s31_6 hv31_4 hs31_5 hs31_6
    refine own_run (g' := (mkF m 231 #[.val (.int p0), .val (.int p1), .val (.int p2), .val (.ref b1), .val (.int v31_4), s31_5, s31_6] [(.int v31_4)])) (fun _ kt => XS.iload X30.here hx rfl (hb hby at_229) rfl (kt)) ?_
    refine own_callS X30 hx hZ hown (hw _ (List.mem_of_getElem? (i := 9) rfl)) (hw _ (List.mem_of_getElem? (i := 10) rfl)) (hw _ (List.mem_of_getElem? (i := 11) rfl)) (hw _ (List.mem_of_getElem? (i := 12) rfl)) (by decide) (rm1 l Z a0 hw [] v31_4 h30 n0) e30 (by decide) (by decide) (by decide) (by decide) (by rw [hml]; rfl) (argsL := [(.int v31_4)]) (rest := []) (lenOf own_pd0 rfl) rfl (W := 0) (Nat.le_of_eq rfl) (hb hby at_231) ?_
    intro T32 r32 L32 X32 hQ32
    obtain ⟨rfl, Nq32, e32⟩ := hQ32
    have N32 := Fr.app N30 Nq32
    refine own_run (g' := (mkF m 236 #[.val (.int p0), .val (.int p1), .val (.int p2), .val (.ref b1), .val (.int v31_4), s31_5, s31_6] [(.int v31_4), (.int (own_f1 v31_4))])) (fun _ kt => XS.iload X32.here hx rfl (hb hby at_234) rfl (kt)) ?_
    refine own_callS X32 hx hZ hown (hw _ (List.mem_of_getElem? (i := 16) rfl)) (hw _ (List.mem_of_getElem? (i := 17) rfl)) (hw _ (List.mem_of_getElem? (i := 18) rfl)) (hw _ (List.mem_of_getElem? (i := 19) rfl)) (by decide) (rm2 l Z a0 hw [] v31_4 h30 n0) e32 (by decide) (by decide) (by decide) (by decide) (by rw [hml]; rfl) (argsL := [(.int v31_4)]) (rest := [(.int (own_f1 v31_4))]) (lenOf own_pd0 rfl) rfl (W := 1) (Nat.le_of_eq rfl) (hb hby at_236) ?_
    intro T33 r33 L33 X33 hQ33
    obtain ⟨rfl, Nq33, e33⟩ := hQ33
    have N33 := Fr.app N32 Nq33
    have hd239 : (own_f1 v31_4) = (own_f2 v31_4) := own_same _
    refine own_run (g' := (mkF m 247 #[.val (.int p0), .val (.int p1), .val (.int p2), .val (.ref b1), .val (.int v31_4), s31_5, s31_6] [(.int (1 : Int32))])) (fun _ kt => XS.icmpNo X33.here hx rfl (hb hby at_239) rfl ((teq hd239).2) (XS.iconst X33.here hx rfl (hb hby at_242) (XS.goto X33.here hx rfl (pc0 := 243) (pc' := 247) rfl (hb hby at_243) (by decide) (by decide) (kt)))) ?_
    exact own_retN (t := .boolean) X33 hx Bd.notSynchronized Bd.returns (by simp) (hb hby at_247) (by decide) (by decide) ⟨rfl, N33⟩
  by_cases hc193 : (p1 &&& (1 : Int32)) = (0 : Int32)
  · refine own_run (g' := (mkF m 229 #[.val (.int p0), .val (.int p1), .val (.int p2), .val (.ref b1), .val (.int p0), .unset, .unset] [])) (fun _ kt => XS.ifNo X30.here hx rfl (hb hby at_193) rfl ((if0 _ _).trans (teq hc193).2) (XS.iloadN X30.here hx rfl (hb hby at_196) rfl (XS.istore X30.here hx rfl (hb hby at_197) rfl (l' := #[.val (.int p0), .val (.int p1), .val (.int p2), .val (.ref b1), .val (.int p0), .unset, .unset]) rfl (XS.goto X30.here hx rfl (pc0 := 199) (pc' := 229) rfl (hb hby at_199) (by decide) (by decide) (kt))))) ?_
    exact J31 p0 (.unset) (.unset) (by rw [if_pos hc193]) (Or.inl rfl) (Or.inl rfl)
  · refine own_run (g' := (mkF m 210 #[.val (.int p0), .val (.int p1), .val (.int p2), .val (.ref b1), .unset, .val (.int ((XT.ushr p1 (1 : Int32)) % (29 : Int32))), .unset] [])) (fun _ kt => XS.ifYes X30.here hx rfl (pc0 := 193) (pc' := 202) rfl (hb hby at_193) rfl ((if0 _ _).trans (feq hc193).2) (by decide) (by decide) (XS.iloadN X30.here hx rfl (hb hby at_202) rfl (XS.iconst X30.here hx rfl (hb hby at_203) (XS.iushr X30.here hx rfl (hb hby at_204) rfl (XS.bipush X30.here hx rfl (hb hby at_205) (own_irem X30.here hx rfl (hb hby at_207) rfl (by decide) (XS.istore X30.here hx rfl (hb hby at_208) rfl (l' := #[.val (.int p0), .val (.int p1), .val (.int p2), .val (.ref b1), .unset, .val (.int ((XT.ushr p1 (1 : Int32)) % (29 : Int32))), .unset]) rfl (kt)))))))) ?_
    obtain ⟨v208, hv208⟩ : ∃ z : Int32, z = ((XT.ushr p1 (1 : Int32)) % (29 : Int32)) := ⟨_, rfl⟩
    rw [← hv208]
    refine own_run (g' := (mkF m 211 #[.val (.int p0), .val (.int p1), .val (.int p2), .val (.ref b1), .unset, .val (.int v208), .unset] [(.int p2)])) (fun _ kt => XS.iloadN X30.here hx rfl (hb hby at_210) rfl (kt)) ?_
    refine own_ldcI X30 hx hZ hown (hw _ (List.mem_of_getElem? (i := 8) rfl)) (hb hby at_211) ?_
    refine own_run (g' := (mkF m 220 #[.val (.int p0), .val (.int p1), .val (.int p2), .val (.ref b1), .unset, .val (.int v208), .val (.int (((p2 &&& (2147483647 : Int32)) % (3 : Int32)) - (1 : Int32)))] [])) (fun _ kt => XS.iand X30.here hx rfl (hb hby at_213) rfl (XS.iconst X30.here hx rfl (hb hby at_214) (own_irem X30.here hx rfl (hb hby at_215) rfl (by decide) (XS.iconst X30.here hx rfl (hb hby at_216) (XS.isub X30.here hx rfl (hb hby at_217) rfl (XS.istore X30.here hx rfl (hb hby at_218) rfl (l' := #[.val (.int p0), .val (.int p1), .val (.int p2), .val (.ref b1), .unset, .val (.int v208), .val (.int (((p2 &&& (2147483647 : Int32)) % (3 : Int32)) - (1 : Int32)))]) rfl (kt))))))) ?_
    obtain ⟨v218, hv218⟩ : ∃ z : Int32, z = (((p2 &&& (2147483647 : Int32)) % (3 : Int32)) - (1 : Int32)) := ⟨_, rfl⟩
    rw [← hv218]
    refine own_run (g' := (mkF m 223 #[.val (.int p0), .val (.int p1), .val (.int p2), .val (.ref b1), .unset, .val (.int v208), .val (.int v218)] [(.int v208), (.ref b1)])) (fun _ kt => XS.aloadN X30.here hx rfl (hb hby at_220) rfl rfl (XS.iload X30.here hx rfl (hb hby at_221) rfl (kt))) ?_
    refine own_ldI X30 hx hZ e30 A30 (j := v208) (by rw [hv208]; exact own_k p1) (hb hby at_223) (x := ([(97 : Int32), (122 : Int32), (65 : Int32), (90 : Int32), (95 : Int32), (192 : Int32), (214 : Int32), (216 : Int32), (246 : Int32), (248 : Int32), (767 : Int32), (880 : Int32), (893 : Int32), (895 : Int32), (8191 : Int32), (8204 : Int32), (8205 : Int32), (8304 : Int32), (8591 : Int32), (11264 : Int32), (12271 : Int32), (12289 : Int32), (55295 : Int32), (63744 : Int32), (64975 : Int32), (65008 : Int32), (65533 : Int32), (65536 : Int32), (983039 : Int32)].getD v208.toNatClampNeg 0)) rfl ?_
    refine own_run (g' := (mkF m 229 #[.val (.int p0), .val (.int p1), .val (.int p2), .val (.ref b1), .val (.int (([(97 : Int32), (122 : Int32), (65 : Int32), (90 : Int32), (95 : Int32), (192 : Int32), (214 : Int32), (216 : Int32), (246 : Int32), (248 : Int32), (767 : Int32), (880 : Int32), (893 : Int32), (895 : Int32), (8191 : Int32), (8204 : Int32), (8205 : Int32), (8304 : Int32), (8591 : Int32), (11264 : Int32), (12271 : Int32), (12289 : Int32), (55295 : Int32), (63744 : Int32), (64975 : Int32), (65008 : Int32), (65533 : Int32), (65536 : Int32), (983039 : Int32)].getD v208.toNatClampNeg 0) + v218)), .val (.int v208), .val (.int v218)] [])) (fun _ kt => XS.iload X30.here hx rfl (hb hby at_224) rfl (XS.iadd X30.here hx rfl (hb hby at_226) rfl (XS.istore X30.here hx rfl (hb hby at_227) rfl (l' := #[.val (.int p0), .val (.int p1), .val (.int p2), .val (.ref b1), .val (.int (([(97 : Int32), (122 : Int32), (65 : Int32), (90 : Int32), (95 : Int32), (192 : Int32), (214 : Int32), (216 : Int32), (246 : Int32), (248 : Int32), (767 : Int32), (880 : Int32), (893 : Int32), (895 : Int32), (8191 : Int32), (8204 : Int32), (8205 : Int32), (8304 : Int32), (8591 : Int32), (11264 : Int32), (12271 : Int32), (12289 : Int32), (55295 : Int32), (63744 : Int32), (64975 : Int32), (65008 : Int32), (65533 : Int32), (65536 : Int32), (983039 : Int32)].getD v208.toNatClampNeg 0) + v218)), .val (.int v208), .val (.int v218)]) rfl (kt)))) ?_
    obtain ⟨v227, hv227⟩ : ∃ z : Int32, z = (([(97 : Int32), (122 : Int32), (65 : Int32), (90 : Int32), (95 : Int32), (192 : Int32), (214 : Int32), (216 : Int32), (246 : Int32), (248 : Int32), (767 : Int32), (880 : Int32), (893 : Int32), (895 : Int32), (8191 : Int32), (8204 : Int32), (8205 : Int32), (8304 : Int32), (8591 : Int32), (11264 : Int32), (12271 : Int32), (12289 : Int32), (55295 : Int32), (63744 : Int32), (64975 : Int32), (65008 : Int32), (65533 : Int32), (65536 : Int32), (983039 : Int32)].getD v208.toNatClampNeg 0) + v218) := ⟨_, rfl⟩
    rw [← hv227]
    exact J31 v227 (.val (.int v208)) (.val (.int v218)) (by subst hv208 hv218 hv227; rw [if_neg hc193]) (Or.inr ⟨_, rfl, rfl⟩) (Or.inr ⟨_, rfl, rfl⟩)
set_option maxRecDepth 65536 in
set_option maxHeartbeats 40000000 in
theorem comes_1 {Post : Tables → Env → Array Value → State → Outcome → State → Prop} (hpost : ∀ tb e args s v u, (limb_1_1.after args s (.returned v) u = true ∧ limb_1_2.after args s (.returned v) u = true ∧ True) → FrameEnd s (.returned v) u (Jvm.fieldLocs frame_1_writes args s ++ Jvm.arrayLocs frame_1_arrays args s ++ Jvm.staticLocs frame_1_statics s) 16 128 → Post tb e args s (.returned v) u) :
    ArmFor flags0 classFile x code maxLocals ret World_1 tables_1 room_1 Calls_1 rest_1 Pre_1 Post := by
  intro l hfl _ _ p e ha hc hk s m args below hf hA hF happ hP
  obtain ⟨hcalls, hrest, hpre⟩ := hP
  obtain ⟨-, -, -, hnamed, -, -, -, hat⟩ := (Spec.applies_iff hf).mp happ
  obtain ⟨hg, hn⟩ := and_e (Cond.before_iff.mp (show (Jvm.Cond.and given_1 narrow_1).before args s = true from hpre))
  obtain ⟨hcnt, g0⟩ := and_e hg
  obtain ⟨k0, g1⟩ := and_e g0
  obtain ⟨k1, g2⟩ := and_e g1
  obtain ⟨w0, w1, w2, rfl⟩ : ∃ w0 w1 w2 : Value, args = #[w0, w1, w2] := by
    have hs : args.size = 3 := by simpa [Cond.value, given_1] using hcnt
    obtain ⟨L⟩ := args
    match L, hs with
    | [w0, w1, w2], _ => exact ⟨w0, w1, w2, rfl⟩
  have hw := fun d (hd : d ∈ tables_1) => atoms_spec (ws := Jvm.Cond.code x code maxLocals ret :: tables_1) hat d (List.mem_cons_of_mem _ hd)
  obtain ⟨i0, ei0⟩ := is_v k0
  obtain rfl : w0 = (.int i0) := Option.some.inj ei0
  obtain ⟨i1, ei1⟩ := is_v k1
  obtain rfl : w1 = (.int i1) := Option.some.inj ei1
  obtain ⟨i2, ei2⟩ := is_v g2
  obtain rfl : w2 = (.int i2) := Option.some.inj ei2
  obtain ⟨n, o, h1, h2, h3, _, L, rfl, ⟨rfl, N⟩, hq⟩ := rm0 l s _ hw tables_1 i0 i1 i2 s.heap s.heap.size (Nat.le_refl _) p e ha hc hk s m _ below hf ((Spec.applies_iff_loose hf).mp happ).1 ⟨rfl, State.Warmed39.refl s, rfl⟩ trivial
  refine ⟨n, _, h1, h2, h3, hpost _ _ _ _ _ _ ⟨Cond.after_iff.mpr rfl, Cond.after_iff.mpr (eq_i res_at (Term.int_eval (1)) rfl), trivial⟩ ⟨hq.1, hq.2.1, (hq.2.2.sift fun y hy => Or.inr (N y hy)).mono (by decide) (by decide)⟩⟩
theorem main_1_1 : Claimed_1_1 := comes_1 fun _ _ _ _ _ _ h hF => ⟨h.1, hF⟩
theorem main_1_2 : Claimed_1_2 := comes_1 fun _ _ _ _ _ _ h hF => ⟨h.2.1, hF⟩
end Jvm.Pilot.@@N@@
namespace Jvm.Pilot.@@N@@
open Jvm Jvm.ClassFile Sem Op Lib Jvm.Free Jvm.Stand Jvm.Pilot.@@N@@.Jvm.D
/-! MADE BY PROGRAM (witnessworld.py) out of the Statement's table words and the real class files: 9 classes; the members and pool entries that the words name. The judged class is class 1, her method 1. -/
namespace start1
open Jvm.ClassFile
def u (s : String) : CpInfo := .utf8 (stringToUtf16 s)
/-- a pool by its gaps: so many unusable entries, then the entry; so many at the end -/
def gap : Nat → List CpInfo → List CpInfo
  | 0, r => r
  | n + 1, r => .unusable :: gap n r
def poolList (es : List (Nat × CpInfo)) (last : Nat) : List CpInfo := es.foldr (fun e r => gap e.1 (e.2 :: r)) (gap last [])
def pool (es : List (Nat × CpInfo)) (last : Nat) : Array CpInfo := ⟨poolList es last⟩
def fileOf (pool : Array CpInfo) (this : Nat) (attrs : Array Attribute := #[]) (ms : Array MethodInfo := #[]) (fl : Nat := 33) (sup : Nat := 0) (ifs : Array Nat := #[]) (fds : Array FieldInfo := #[]) : ClassFile where
  minorVersion := 0
  majorVersion := 65
  constantPool := pool
  accessFlags := fl
  thisClass := this
  superClass := sup
  interfaces := ifs
  fields := fds
  methods := ms
  attributes := attrs
def plain (name : String) (sup : Option ClassId) : Class where
  name := name
  kind := .ordinary
  loader := none
  accessFlags := 33
  super := sup
  interfaces := #[]
  cf := none
  fields := #[]
  methods := #[]
  instanceTypes := #[]
  staticTypes := #[]
  resolved := #[]
  callSites := []
  init := .initialized
  statics := none
  mirror := none

def pool0 : Array CpInfo := pool [(5, u "<init>"), (0, u "()V"), (1, .class_ 10), (1, u "java/lang/Object")] 113

def k0m0 : Method := { name := "<init>", desc := "()V", sig := { parameters := [], returnType := none }, accessFlags := 1, code := none }
/-- java/lang/Object -/
def k0 : Class := { plain "java/lang/Object" none with
  accessFlags := 33
  interfaces := #[]
  cf := some (fileOf pool0 8 #[] #[{ accessFlags := 1, nameIndex := 5, descriptorIndex := 6, attributes := #[] }] 33 0 #[] #[])
  fields := #[]
  methods := #[k0m0]
  instanceTypes := #[]
  staticTypes := #[]
  resolved := Array.replicate 124 none
  statics := none }

def pool1 : Array CpInfo := pool [(2, .class_ 4), (1, u "java/lang/Object"), (0, u "<init>"), (0, u "()V"), (0, .integer 55295), (0, .integer 63744), (0, .integer 64975), (0, .integer 65008), (0, .integer 65533), (0, .integer 65536), (0, .integer 983039), (0, .integer 2147483647), (0, .methodref 16 17), (0, .class_ 18), (0, .nameAndType 19 20), (0, u "com/example/lean_markup/leanmarkup/service/ExpressionText"), (0, u "isNameStart"), (0, u "(I)Z"), (0, .methodref 22 23), (0, .class_ 24), (0, .nameAndType 25 20), (0, u "com/example/lean_markup/leanmarkup/service/ExpressionTextIsNameStartPinLaw"), (0, u "reference"), (0, .integer 55296), (0, .integer 63743), (0, .integer 64976), (0, .integer 65007), (0, .integer 65534), (0, .integer 65535), (2, u "law"), (0, u "(III)Z")] 5

def k1m0 : Method := { name := "<init>", desc := "()V", sig := { parameters := [], returnType := none }, accessFlags := 1, code := none }
def k1c1 : Code := { maxStack := 4, maxLocals := 7, code := code, exceptionTable := #[], attributes := #[] }
def k1m1 : Method := { name := "law", desc := "(III)Z", sig := { parameters := [.int, .int, .int], returnType := some .boolean }, accessFlags := 9, code := some k1c1 }
def k1c2 : Code := { maxStack := 2, maxLocals := 1, code := method_3_code, exceptionTable := #[], attributes := #[] }
def k1m2 : Method := { name := "reference", desc := "(I)Z", sig := { parameters := [.int], returnType := some .boolean }, accessFlags := 10, code := some k1c2 }
/-- com/example/lean_markup/leanmarkup/service/ExpressionTextIsNameStartPinLaw -/
def k1 : Class := { plain "com/example/lean_markup/leanmarkup/service/ExpressionTextIsNameStartPinLaw" (some 0) with
  accessFlags := 49
  interfaces := #[]
  cf := some (fileOf pool1 22 #[] #[{ accessFlags := 1, nameIndex := 5, descriptorIndex := 6, attributes := #[] }, { accessFlags := 9, nameIndex := 34, descriptorIndex := 35, attributes := #[] }, { accessFlags := 10, nameIndex := 25, descriptorIndex := 20, attributes := #[] }] 49 2 #[] #[])
  fields := #[]
  methods := #[k1m0, k1m1, k1m2]
  instanceTypes := #[]
  staticTypes := #[]
  resolved := Array.replicate 41 none
  statics := none }

def pool2 : Array CpInfo := pool [(2, .class_ 4), (1, u "java/lang/Object"), (3, .class_ 10), (1, u "com/example/lean_markup/leanmarkup/service/ExpressionText"), (0, u "text"), (0, u "Ljava/lang/String;"), (2, u "xquery"), (0, u "Z"), (2, u "position"), (0, u "I"), (13, u "(I)Z"), (25, u "isNameStart"), (197, .integer 55295), (1, .integer 65533), (0, .integer 65536), (1, .integer 63744), (0, .integer 64975), (0, .integer 65008), (0, .integer 983039)] 61

def k2c0 : Code := { maxStack := 2, maxLocals := 1, code := prog_79_method_34_code, exceptionTable := #[], attributes := #[] }
def k2m0 : Method := { name := "isNameStart", desc := "(I)Z", sig := { parameters := [.int], returnType := some .boolean }, accessFlags := 8, code := some k2c0 }
/-- com/example/lean_markup/leanmarkup/service/ExpressionText -/
def k2 : Class := { plain "com/example/lean_markup/leanmarkup/service/ExpressionText" (some 0) with
  accessFlags := 32
  interfaces := #[]
  cf := some (fileOf pool2 8 #[] #[{ accessFlags := 8, nameIndex := 60, descriptorIndex := 34, attributes := #[] }] 32 2 #[] #[{ accessFlags := 18, nameIndex := 11, descriptorIndex := 12, attributes := #[] }, { accessFlags := 18, nameIndex := 15, descriptorIndex := 16, attributes := #[] }, { accessFlags := 2, nameIndex := 19, descriptorIndex := 20, attributes := #[] }])
  fields := #[{ name := "text", type := (.object "java/lang/String"), accessFlags := 18, slot := 0, constantValue := 0 }, { name := "xquery", type := .boolean, accessFlags := 18, slot := 1, constantValue := 0 }, { name := "position", type := .int, accessFlags := 2, slot := 2, constantValue := 0 }]
  methods := #[k2m0]
  instanceTypes := #[(.object "java/lang/String"), .boolean, .int]
  staticTypes := #[]
  resolved := Array.replicate 328 none
  statics := none }

def pool3 : Array CpInfo := pool [(1, u "java/lang/Cloneable"), (0, .class_ 1), (0, u "java/lang/Object"), (0, .class_ 3)] 3

/-- java/lang/Cloneable -/
def k3 : Class := { plain "java/lang/Cloneable" (some 0) with
  accessFlags := 1537
  interfaces := #[]
  cf := some (fileOf pool3 2 #[] #[] 1537 4 #[] #[])
  fields := #[]
  methods := #[]
  instanceTypes := #[]
  staticTypes := #[]
  resolved := Array.replicate 8 none
  statics := none }

def pool4 : Array CpInfo := pool [(1, u "java/io/Serializable"), (0, .class_ 1), (0, u "java/lang/Object"), (0, .class_ 3)] 3

/-- java/io/Serializable -/
def k4 : Class := { plain "java/io/Serializable" (some 0) with
  accessFlags := 1537
  interfaces := #[]
  cf := some (fileOf pool4 2 #[] #[] 1537 4 #[] #[])
  fields := #[]
  methods := #[]
  instanceTypes := #[]
  staticTypes := #[]
  resolved := Array.replicate 8 none
  statics := none }

/-- the primitive byte -/
def k5 : Class := { plain "byte" none with kind := .primitive 'B', accessFlags := 0x411 }
/-- [B -/
def k6 : Class := { plain "[B" (some 0) with kind := .array 5 .byte, interfaces := #[3, 4], accessFlags := 1041 }

/-- the primitive int -/
def k7 : Class := { plain "int" none with kind := .primitive 'I', accessFlags := 0x411 }
/-- [I -/
def k8 : Class := { plain "[I" (some 0) with kind := .array 7 .int, interfaces := #[3, 4], accessFlags := 1041 }

def heap : Heap := #[]
def classes : Array Class := #[k0, k1, k2, k3, k4, k5, k6, k7, k8]
def interned : List (Array UInt16 × Addr) := []
def slotsUsed : Nat := 0
def theMethod : MethodId := ⟨1, 1⟩
def args0 : Array Value := #[.int 7, .int 1, .int 3]
def aboutOver (below : List Frame) : State where
  vm := { classes := classes, interned := interned.toArray }
  heap := heap
  slotsUsed := slotsUsed
  threads := #[{ frames := .invoking theMethod args0 :: below }]
def below0 : List Frame := [.native { method := ⟨0, 0⟩, args := #[] }]
def about1 : State := aboutOver below0
def p0 : Program := .bare "" "" ""
def e0 : Env := launch0.env 0 0 0
theorem w_frames : about1.frames = Frame.invoking theMethod args0 :: below0 := rfl
set_option maxRecDepth 65536 in
theorem w_args : argsFit about1.vm theMethod args0 = true := by decide +kernel
set_option maxRecDepth 65536 in
theorem w_heap : heapFits about1 = true := by decide +kernel
set_option maxRecDepth 65536 in
theorem w_runnable : about1.curStatus? = some .runnable := by decide +kernel
set_option maxRecDepth 65536 in
theorem w_alone : about1.alone = true := by decide +kernel
set_option maxRecDepth 65536 in
theorem w_named : about1.methodNamed? x = some theMethod := by decide +kernel
set_option maxRecDepth 65536 in
theorem w_hears : about1.hears theMethod below0 = true := by decide +kernel
set_option maxRecDepth 65536 in
theorem w_ripe : about1.ripe theMethod args0 below0 = true := by decide +kernel
theorem w_running : about1.status = .running := rfl
set_option maxRecDepth 65536 in
theorem w_room : about1.hasRoom e0.platform room_1 = true :=
  launch0.hasRoom_least _ room_1 (by decide +kernel) (by decide +kernel) (by decide +kernel) (by decide +kernel) (by decide +kernel) (by decide +kernel)
theorem allAtoms_all (ts : List Jvm.Cond) (a : Array Jvm.Value) (st : Jvm.State) : (allAtoms ts).before a st = ts.all (fun c => c.before a st) := by
  induction ts with
  | nil => rfl
  | cons c t ih =>
    show (Jvm.Cond.and c (allAtoms t)).before a st = _
    rw [Jvm.Cond.before_and, ih, List.all_cons]
def words1 : List Jvm.Cond := Jvm.Cond.code x code maxLocals ret :: tables_1
/-- a 'code' word, met by the world's own term for the bytes: nothing is compared byte by byte -/
theorem code_word {y : MethodName} {bytes : ByteArray} {mx : Nat} {rt : Option FieldType} {a : Array Value} {s : State} {m : MethodId} {meth : Method} {c : Code} (h1 : s.methodNamed? y = some m) (h2 : s.vm.method? m = some meth) (h3 : meth.code = some c) (h4 : c.code = bytes)
    (h5 : (c.maxLocals == mx && c.exceptionTable.isEmpty && decide (c.maxStack ≤ mostOperands) && decide (meth.sig.returnType = rt) && !meth.locks && decide (parseMethodDescriptor y.desc = some meth.sig)) = true) : (Jvm.Cond.code y bytes mx rt).before a s = true := by
  simp only [Bool.and_eq_true, beq_iff_eq, Bool.not_eq_true', decide_eq_true_eq] at h5
  obtain ⟨⟨⟨⟨⟨g1, g2⟩, g3⟩, g4⟩, g5⟩, g6⟩ := h5
  simp [Cond.before, Cond.holds, Cond.value, h1, h2, h3, h4, g1, g2, g3, g4, g5, g6]
def isCode : Jvm.Cond → Bool
  | .code _ _ _ _ => true
  | _ => false
theorem all_split {L : List Jvm.Cond} {P : Jvm.Cond → Bool} (h1 : L.all (fun c => isCode c || P c) = true) (h2 : ∀ c ∈ L.filter isCode, P c = true) : L.all P = true := by
  refine List.all_eq_true.mpr fun c hc => ?_
  have h := List.all_eq_true.mp h1 c hc
  rcases Bool.eq_false_or_eq_true (isCode c) with hi | hi
  · exact h2 c (List.mem_filter.mpr ⟨hc, hi⟩)
  · simpa [hi] using h
set_option maxRecDepth 65536 in
theorem w_c0 : (Jvm.Cond.code x code maxLocals ret).before args0 about1 = true := code_word (m := ⟨1, 1⟩) (meth := k1m1) (c := k1c1) (by decide +kernel) rfl rfl rfl (by decide +kernel)
set_option maxRecDepth 65536 in
theorem w_c1 : (Jvm.Cond.code ({ cls := "com/example/lean_markup/leanmarkup/service/ExpressionText", name := "isNameStart", desc := "(I)Z" } : Jvm.MethodName) prog_79_method_34_code (1 : Nat) (Option.some Jvm.ClassFile.FieldType.boolean)).before args0 about1 = true := code_word (m := ⟨2, 0⟩) (meth := k2m0) (c := k2c0) (by decide +kernel) rfl rfl rfl (by decide +kernel)
set_option maxRecDepth 65536 in
theorem w_c2 : (Jvm.Cond.code ({ cls := "com/example/lean_markup/leanmarkup/service/ExpressionTextIsNameStartPinLaw", name := "reference", desc := "(I)Z" } : Jvm.MethodName) method_3_code (1 : Nat) (Option.some Jvm.ClassFile.FieldType.boolean)).before args0 about1 = true := code_word (m := ⟨1, 2⟩) (meth := k1m2) (c := k1c2) (by decide +kernel) rfl rfl rfl (by decide +kernel)
def codes1 : List Jvm.Cond := [Jvm.Cond.code x code maxLocals ret, Jvm.Cond.code ({ cls := "com/example/lean_markup/leanmarkup/service/ExpressionText", name := "isNameStart", desc := "(I)Z" } : Jvm.MethodName) prog_79_method_34_code (1 : Nat) (Option.some Jvm.ClassFile.FieldType.boolean), Jvm.Cond.code ({ cls := "com/example/lean_markup/leanmarkup/service/ExpressionTextIsNameStartPinLaw", name := "reference", desc := "(I)Z" } : Jvm.MethodName) method_3_code (1 : Nat) (Option.some Jvm.ClassFile.FieldType.boolean)]
set_option maxRecDepth 65536 in
theorem codes_eq : words1.filter isCode = codes1 := rfl
theorem w_codes : ∀ c ∈ words1.filter isCode, c.before args0 about1 = true := by
  rw [codes_eq]
  intro c hc
  simp only [codes1, List.mem_cons, List.not_mem_nil, or_false] at hc
  rcases hc with rfl | rfl | rfl
  · exact w_c0
  · exact w_c1
  · exact w_c2
set_option maxRecDepth 65536 in
theorem w_t1 : (words1.take 24).all (fun c => isCode c || c.before args0 about1) = true := by decide +kernel
set_option maxRecDepth 65536 in
theorem w_t2 : (words1.drop 24).all (fun c => isCode c || c.before args0 about1) = true := by decide +kernel
theorem w_tables : (allAtoms (Jvm.Cond.code x code maxLocals ret :: tables_1)).before args0 about1 = true := by
  rw [allAtoms_all]
  show words1.all (fun c => c.before args0 about1) = true
  refine all_split ?_ w_codes
  rw [← List.take_append_drop 24 words1, List.all_append, w_t1, w_t2]
  rfl
set_option maxRecDepth 65536 in
theorem w_case : (Jvm.Cond.and given_1 narrow_1).before args0 about1 = true := by decide +kernel
theorem w_applies : (headSpec (Jvm.Cond.code x code maxLocals ret :: tables_1) room_1).applies x e0.platform about1 = true :=
  (Spec.applies_iff w_frames).mpr ⟨w_running, w_runnable, w_alone, w_named, w_hears, w_ripe, w_room, w_tables⟩
theorem atStart : AtStart classFile x code maxLocals ret World_1 tables_1 room_1 Calls_1 rest_1 Pre_1 launch0 p0 e0 about1 theMethod args0 below0 :=
  ⟨lists_1, trivial, launch0.admits_env _ _ _, launch0.least_env, fairChoices_fair.cas, fairChoices_fair.clock, w_frames, w_args, w_heap, w_applies, trivial, trivial, w_case⟩
end start1
theorem witness_1 : WitnessClaimed_1 := ⟨start1.p0, start1.e0, start1.about1, start1.theMethod, start1.args0, start1.below0, start1.atStart⟩
end Jvm.Pilot.@@N@@

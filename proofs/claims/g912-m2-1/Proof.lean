import JvmDerived
import JvmDerived.Pilot.@@N@@Statement
import JvmDerived.Pilot.@@N@@Code
set_option linter.unusedVariables false
set_option linter.unusedSimpArgs false
namespace Jvm.Pilot.@@N@@
open Jvm Jvm.ClassFile Sem Op Lib Jvm.Free Jvm.Stand Jvm.LawKit Jvm.RoadKit Bundle Jvm.Pilot.@@N@@.Jvm.D
abbrev Cx : Type := Program × Launch × Env × Room × State × MethodId × Array Value × List Frame × Method × Code
abbrev Cx.p (K : Cx) : Program := K.1
abbrev Cx.l (K : Cx) : Launch := K.2.1
abbrev Cx.e (K : Cx) : Env := K.2.2.1
abbrev Cx.R (K : Cx) : Room := K.2.2.2.1
abbrev Cx.s (K : Cx) : State := K.2.2.2.2.1
abbrev Cx.m (K : Cx) : MethodId := K.2.2.2.2.2.1
abbrev Cx.args (K : Cx) : Array Value := K.2.2.2.2.2.2.1
abbrev Cx.below (K : Cx) : List Frame := K.2.2.2.2.2.2.2.1
abbrev Cx.meth (K : Cx) : Method := K.2.2.2.2.2.2.2.2.1
abbrev Cx.c (K : Cx) : Code := K.2.2.2.2.2.2.2.2.2
/-- from T at this frame the body ends within the room, and what it leaves is Q's -/
def Go (K : Cx) (n0 kc kj : Nat) (Q : Option Value → Heap → Prop) (T : State) (pc : Nat) (Ls : Array Slot) (st : List Value) : Prop :=
  ∃ t o, Steps K.p.tables K.e K.below (T.setTop (mkF K.m pc Ls st)) t ∧ t.status = .running ∧ Ended t K.below o ∧ ∃ v L, o = .returned v ∧ (Q v t.heap ∧ Fr n0 L) ∧ FrameEnd K.s o t L kc kj
/-- where the walk stands: the body's own facts, the heap, how many cells and slots have been made -/
def St (K : Cx) (Z : State) (own : String) (b : ByteArray) (mx : Nat) (ret : Option FieldType) (rm : Room) (n0 k j : Nat) (T : State) (h : Heap) : Prop :=
  K.p.tables.exec = Jvm.exec ∧ Z.Warmed39 K.s.vm ∧ K.s.vm.findClass own = some K.m.cls ∧ K.c.code = b ∧ K.c.maxLocals = mx ∧ K.meth.sig.returnType = ret ∧ K.meth.locks = false ∧ K.R = rm ∧ T.heap = h ∧
    ∃ locs, Stand K.p K.l K.e K.R K.s K.m K.args K.below K.meth K.c T locs k j ∧ Fr n0 locs
def Isn (b : ByteArray) (pc : Nat) (i : Instr) (n pc' : Nat) : Prop := decode b pc = .ok (i, n) ∧ pc + n = pc'
def Brn (b : ByteArray) (pc : Nat) (i : Instr) (o : Int) (pc' tg : Nat) : Prop := decode b pc = .ok (i, 3) ∧ pc + 3 = pc' ∧ 0 ≤ (pc : Int) + o ∧ ((pc : Int) + o).toNat = tg
/-- a body's contract, at its arguments and heap -/
def CtrW (l : Launch) (Z : State) (y : MethodName) (b : ByteArray) (mx : Nat) (ret : Option FieldType) (ws : List Jvm.Cond) (rm : Room) (kc kj : Nat) (as' : List Value) (h : Heap) (n0 : Nat) (Q : Option Value → Heap → Prop) : Prop :=
  MetFree l y (head1 (Jvm.Cond.code y b mx ret :: ws) rm) (fun a U => a = as'.toArray ∧ Z.Warmed39 U.vm ∧ U.heap = h) (fun _ _ _ _ _ => True) (fun _ U o U' => ∃ v L, o = .returned v ∧ (Q v U'.heap ∧ Fr n0 L) ∧ FrameEnd U o U' L kc kj)
abbrev Ctr (l : Launch) (Z : State) (y : MethodName) (b : ByteArray) (mx : Nat) (ret : Option FieldType) (rm : Room) (as' : List Value) (h : Heap) (n0 : Nat) (Q : Option Value → Heap → Prop) : Prop :=
  CtrW l Z y b mx ret [] rm rm.cells rm.slots as' h n0 Q
section OwnKit
variable {K : Cx} {Z : State} {own : String} {b : ByteArray} {mx : Nat} {ret : Option FieldType} {rm : Room} {n0 k j kc kj : Nat} {T : State} {h : Heap} {Q : Option Value → Heap → Prop} {pc pc' tg : Nat} {Ls Ls' : Array Slot} {st rest : List Value} {a0 : Array Value}
theorem St.ex (X : St K Z own b mx ret rm n0 k j T h) : K.p.tables.exec = Jvm.exec := X.1
theorem St.wZ (X : St K Z own b mx ret rm n0 k j T h) : Z.Warmed39 K.s.vm := X.2.1
theorem St.ow (X : St K Z own b mx ret rm n0 k j T h) : K.s.vm.findClass own = some K.m.cls := X.2.2.1
theorem St.dec (X : St K Z own b mx ret rm n0 k j T h) {r : Except DecodeError (Instr × Nat)} (d : decode b pc = r) : decode K.c.code pc = r := hb X.2.2.2.1 d
theorem St.ml (X : St K Z own b mx ret rm n0 k j T h) : K.c.maxLocals = mx := X.2.2.2.2.1
theorem St.rt (X : St K Z own b mx ret rm n0 k j T h) : K.meth.sig.returnType = ret := X.2.2.2.2.2.1
theorem St.nl (X : St K Z own b mx ret rm n0 k j T h) : K.meth.locks = false := X.2.2.2.2.2.2.1
theorem St.rmE (X : St K Z own b mx ret rm n0 k j T h) : K.R = rm := X.2.2.2.2.2.2.2.1
theorem St.hp (X : St K Z own b mx ret rm n0 k j T h) : T.heap = h := X.2.2.2.2.2.2.2.2.1
theorem St.sd (X : St K Z own b mx ret rm n0 k j T h) : ∃ locs, Stand K.p K.l K.e K.R K.s K.m K.args K.below K.meth K.c T locs k j ∧ Fr n0 locs := X.2.2.2.2.2.2.2.2.2
theorem St.here (X : St K Z own b mx ret rm n0 k j T h) : At T K.m K.c K.below := by obtain ⟨_, S, _⟩ := X.sd; exact S.here
theorem St.mk' (X : St K Z own b mx ret rm n0 k j T h) {T' : State} {h' : Heap} {k' j' : Nat} {locs : List Loc} (S : Stand K.p K.l K.e K.R K.s K.m K.args K.below K.meth K.c T' locs k' j') (N : Fr n0 locs) (q : T'.heap = h') : St K Z own b mx ret rm n0 k' j' T' h' :=
  ⟨X.1, X.2.1, X.2.2.1, X.2.2.2.1, X.2.2.2.2.1, X.2.2.2.2.2.1, X.2.2.2.2.2.2.1, X.2.2.2.2.2.2.2.1, q, _, S, N⟩
theorem St.more (X : St K Z own b mx ret rm n0 k j T h) {k' j' : Nat} (hk : k ≤ k') (hj : j ≤ j') : St K Z own b mx ret rm n0 k' j' T h := by
  obtain ⟨_, S, N⟩ := X.sd; exact X.mk' (S.more hk hj) N X.hp
theorem St.eqh (X : St K Z own b mx ret rm n0 k j T h) {h' : Heap} (q : h = h') : St K Z own b mx ret rm n0 k j T h' := q ▸ X
theorem o_go {T' : State} {st' : List Value} (f : ∀ t, Steps K.p.tables K.e K.below (T'.setTop (mkF K.m pc' Ls' st')) t → Steps K.p.tables K.e K.below (T.setTop (mkF K.m pc Ls st)) t) (g : Go K n0 kc kj Q T' pc' Ls' st') : Go K n0 kc kj Q T pc Ls st := by
  obtain ⟨t, o, h1, h2⟩ := g; exact ⟨t, o, f t h1, h2⟩
theorem Go.imp {Q' : Option Value → Heap → Prop} (g : Go K n0 kc kj Q T pc Ls st) (f : ∀ v h, Q v h → Q' v h) : Go K n0 kc kj Q' T pc Ls st := by
  obtain ⟨t, o, h1, h2, h3, v, L, h4, ⟨h5, h6⟩, h7⟩ := g; exact ⟨t, o, h1, h2, h3, v, L, h4, ⟨f _ _ h5, h6⟩, h7⟩
theorem o_v1 {v : Value} (g : Go K n0 kc kj Q T pc Ls (v :: rest)) : Go K n0 kc kj Q T pc Ls ((some v).toList ++ rest) := g
theorem o_v0 (g : Go K n0 kc kj Q T pc Ls rest) : Go K n0 kc kj Q T pc Ls ((none : Option Value).toList ++ rest) := g
theorem o_st {st' : List Value} (q : st = st') (g : Go K n0 kc kj Q T pc Ls st') : Go K n0 kc kj Q T pc Ls st := q ▸ g
theorem o_gen {x : Int32} (g : ∀ z, z = x → Go K n0 kc kj Q T pc Ls (.int z :: rest)) : Go K n0 kc kj Q T pc Ls (.int x :: rest) := g x rfl
theorem o_genL {x : Int64} (g : ∀ z, z = x → Go K n0 kc kj Q T pc Ls (.long z :: rest)) : Go K n0 kc kj Q T pc Ls (.long x :: rest) := g x rfl
theorem o_cutL (pj : Nat) (z : Int64) {x : Int32} (B : Go K n0 kc kj Q T pj Ls (.long z :: rest) → Go K n0 kc kj Q T pc Ls (.int x :: rest)) (J : Go K n0 kc kj Q T pj Ls (.long z :: rest)) : Go K n0 kc kj Q T pc Ls (.int x :: rest) := B J
theorem o_cutI (pj : Nat) (z : Int32) {x : Int32} (B : Go K n0 kc kj Q T pj Ls (.int z :: rest) → Go K n0 kc kj Q T pc Ls (.int x :: rest)) (J : Go K n0 kc kj Q T pj Ls (.int z :: rest)) : Go K n0 kc kj Q T pc Ls (.int x :: rest) := B J
theorem o_cutI2 (pj : Nat) (z : Int32) {x y : Int32} (B : Go K n0 kc kj Q T pj Ls (.int z :: rest) → Go K n0 kc kj Q T pc Ls (.int y :: .int x :: rest)) (J : Go K n0 kc kj Q T pj Ls (.int z :: rest)) : Go K n0 kc kj Q T pc Ls (.int y :: .int x :: rest) := B J
theorem o_cutS (pj : Nat) {x : Int32} (X : St K Z own b mx ret rm n0 k j T h) (B : (∀ T' z, St K Z own b mx ret rm n0 k j T' h → Go K n0 kc kj Q T' pj Ls (.int z :: rest)) → Go K n0 kc kj Q T pc Ls (.int x :: rest)) (J : ∀ T' z, St K Z own b mx ret rm n0 k j T' h → Go K n0 kc kj Q T' pj Ls (.int z :: rest)) : Go K n0 kc kj Q T pc Ls (.int x :: rest) := B J
theorem o_cutI2L (pj : Nat) (z : Int64) {x y : Int32} (B : Go K n0 kc kj Q T pj Ls (.long z :: rest) → Go K n0 kc kj Q T pc Ls (.int y :: .int x :: rest)) (J : Go K n0 kc kj Q T pj Ls (.long z :: rest)) : Go K n0 kc kj Q T pc Ls (.int y :: .int x :: rest) := B J
theorem o_ls (q : Ls = Ls') (g : Go K n0 kc kj Q T pc Ls' st) : Go K n0 kc kj Q T pc Ls st := q ▸ g
theorem o_iadd (X : St K Z own b mx ret rm n0 k j T h) {x y : Int32} (d : Isn b pc (.iadd) 1 pc') (g : Go K n0 kc kj Q T pc' Ls (.int (x + y) :: rest)) : Go K n0 kc kj Q T pc Ls (.int y :: .int x :: rest) := by
  obtain ⟨d, rfl⟩ := d; exact o_go (fun t k => XS.iadd X.here X.ex rfl (X.dec d) rfl k) g
theorem o_isub (X : St K Z own b mx ret rm n0 k j T h) {x y : Int32} (d : Isn b pc (.isub) 1 pc') (g : Go K n0 kc kj Q T pc' Ls (.int (x - y) :: rest)) : Go K n0 kc kj Q T pc Ls (.int y :: .int x :: rest) := by
  obtain ⟨d, rfl⟩ := d; exact o_go (fun t k => XS.isub X.here X.ex rfl (X.dec d) rfl k) g
theorem o_imul (X : St K Z own b mx ret rm n0 k j T h) {x y : Int32} (d : Isn b pc (.imul) 1 pc') (g : Go K n0 kc kj Q T pc' Ls (.int (x * y) :: rest)) : Go K n0 kc kj Q T pc Ls (.int y :: .int x :: rest) := by
  obtain ⟨d, rfl⟩ := d; exact o_go (fun t k => XS.imul X.here X.ex rfl (X.dec d) rfl k) g
theorem o_iand (X : St K Z own b mx ret rm n0 k j T h) {x y : Int32} (d : Isn b pc (.iand) 1 pc') (g : Go K n0 kc kj Q T pc' Ls (.int (x &&& y) :: rest)) : Go K n0 kc kj Q T pc Ls (.int y :: .int x :: rest) := by
  obtain ⟨d, rfl⟩ := d; exact o_go (fun t k => XS.iand X.here X.ex rfl (X.dec d) rfl k) g
theorem o_ixor (X : St K Z own b mx ret rm n0 k j T h) {x y : Int32} (d : Isn b pc (.ixor) 1 pc') (g : Go K n0 kc kj Q T pc' Ls (.int (x ^^^ y) :: rest)) : Go K n0 kc kj Q T pc Ls (.int y :: .int x :: rest) := by
  obtain ⟨d, rfl⟩ := d; exact o_go (fun t k => XT.ixor X.here X.ex rfl (X.dec d) rfl k) g
theorem o_ior (X : St K Z own b mx ret rm n0 k j T h) {x y : Int32} (d : Isn b pc (.ior) 1 pc') (g : Go K n0 kc kj Q T pc' Ls (.int (x ||| y) :: rest)) : Go K n0 kc kj Q T pc Ls (.int y :: .int x :: rest) := by
  obtain ⟨d, rfl⟩ := d; exact o_go (fun t k => XT.ior X.here X.ex rfl (X.dec d) rfl k) g
theorem o_ishl (X : St K Z own b mx ret rm n0 k j T h) {x y : Int32} (d : Isn b pc (.ishl) 1 pc') (g : Go K n0 kc kj Q T pc' Ls (.int (x <<< (y &&& 31)) :: rest)) : Go K n0 kc kj Q T pc Ls (.int y :: .int x :: rest) := by
  obtain ⟨d, rfl⟩ := d; exact o_go (fun t k => XT.ishl X.here X.ex rfl (X.dec d) rfl k) g
theorem o_ishr (X : St K Z own b mx ret rm n0 k j T h) {x y : Int32} (d : Isn b pc (.ishr) 1 pc') (g : Go K n0 kc kj Q T pc' Ls (.int (x >>> (y &&& 31)) :: rest)) : Go K n0 kc kj Q T pc Ls (.int y :: .int x :: rest) := by
  obtain ⟨d, rfl⟩ := d; exact o_go (fun t k => XT.ishr X.here X.ex rfl (X.dec d) rfl k) g
theorem o_iushr (X : St K Z own b mx ret rm n0 k j T h) {x y : Int32} (d : Isn b pc (.iushr) 1 pc') (g : Go K n0 kc kj Q T pc' Ls (.int (XT.ushr x y) :: rest)) : Go K n0 kc kj Q T pc Ls (.int y :: .int x :: rest) := by
  obtain ⟨d, rfl⟩ := d; exact o_go (fun t k => XT.iushr X.here X.ex rfl (X.dec d) rfl k) g
theorem o_ladd (X : St K Z own b mx ret rm n0 k j T h) {x y : Int64} (d : Isn b pc (.ladd) 1 pc') (g : Go K n0 kc kj Q T pc' Ls (.long (x + y) :: rest)) : Go K n0 kc kj Q T pc Ls (.long y :: .long x :: rest) := by
  obtain ⟨d, rfl⟩ := d; exact o_go (fun t k => XT.ladd X.here X.ex rfl (X.dec d) rfl k) g
theorem o_lsub (X : St K Z own b mx ret rm n0 k j T h) {x y : Int64} (d : Isn b pc (.lsub) 1 pc') (g : Go K n0 kc kj Q T pc' Ls (.long (x - y) :: rest)) : Go K n0 kc kj Q T pc Ls (.long y :: .long x :: rest) := by
  obtain ⟨d, rfl⟩ := d; exact o_go (fun t k => XT.lsub X.here X.ex rfl (X.dec d) rfl k) g
theorem o_lmul (X : St K Z own b mx ret rm n0 k j T h) {x y : Int64} (d : Isn b pc (.lmul) 1 pc') (g : Go K n0 kc kj Q T pc' Ls (.long (x * y) :: rest)) : Go K n0 kc kj Q T pc Ls (.long y :: .long x :: rest) := by
  obtain ⟨d, rfl⟩ := d; exact o_go (fun t k => XT.lmul X.here X.ex rfl (X.dec d) rfl k) g
theorem o_land (X : St K Z own b mx ret rm n0 k j T h) {x y : Int64} (d : Isn b pc (.land) 1 pc') (g : Go K n0 kc kj Q T pc' Ls (.long (x &&& y) :: rest)) : Go K n0 kc kj Q T pc Ls (.long y :: .long x :: rest) := by
  obtain ⟨d, rfl⟩ := d; exact o_go (fun t k => XT.land X.here X.ex rfl (X.dec d) rfl k) g
theorem o_lor (X : St K Z own b mx ret rm n0 k j T h) {x y : Int64} (d : Isn b pc (.lor) 1 pc') (g : Go K n0 kc kj Q T pc' Ls (.long (x ||| y) :: rest)) : Go K n0 kc kj Q T pc Ls (.long y :: .long x :: rest) := by
  obtain ⟨d, rfl⟩ := d; exact o_go (fun t k => XT.lor X.here X.ex rfl (X.dec d) rfl k) g
theorem o_lxor (X : St K Z own b mx ret rm n0 k j T h) {x y : Int64} (d : Isn b pc (.lxor) 1 pc') (g : Go K n0 kc kj Q T pc' Ls (.long (x ^^^ y) :: rest)) : Go K n0 kc kj Q T pc Ls (.long y :: .long x :: rest) := by
  obtain ⟨d, rfl⟩ := d; exact o_go (fun t k => XT.lxor X.here X.ex rfl (X.dec d) rfl k) g
theorem o_lshl (X : St K Z own b mx ret rm n0 k j T h) {x : Int64} {y : Int32} (d : Isn b pc (.lshl) 1 pc') (g : Go K n0 kc kj Q T pc' Ls (.long (x <<< (y.toInt64 &&& 63)) :: rest)) : Go K n0 kc kj Q T pc Ls (.int y :: .long x :: rest) := by
  obtain ⟨d, rfl⟩ := d; exact o_go (fun t k => XT.lshl X.here X.ex rfl (X.dec d) rfl k) g
theorem o_lshr (X : St K Z own b mx ret rm n0 k j T h) {x : Int64} {y : Int32} (d : Isn b pc (.lshr) 1 pc') (g : Go K n0 kc kj Q T pc' Ls (.long (x >>> (y.toInt64 &&& 63)) :: rest)) : Go K n0 kc kj Q T pc Ls (.int y :: .long x :: rest) := by
  obtain ⟨d, rfl⟩ := d; exact o_go (fun t k => XT.lshr X.here X.ex rfl (X.dec d) rfl k) g
theorem o_lushr (X : St K Z own b mx ret rm n0 k j T h) {x : Int64} {y : Int32} (d : Isn b pc (.lushr) 1 pc') (g : Go K n0 kc kj Q T pc' Ls (.long (XT.ushrL x y) :: rest)) : Go K n0 kc kj Q T pc Ls (.int y :: .long x :: rest) := by
  obtain ⟨d, rfl⟩ := d; exact o_go (fun t k => XT.lushr X.here X.ex rfl (X.dec d) rfl k) g
theorem o_lcmp (X : St K Z own b mx ret rm n0 k j T h) {x y : Int64} (d : Isn b pc (.lcmp) 1 pc') (g : Go K n0 kc kj Q T pc' Ls (.int (XT.cmpL x y) :: rest)) : Go K n0 kc kj Q T pc Ls (.long y :: .long x :: rest) := by
  obtain ⟨d, rfl⟩ := d; exact o_go (fun t k => XT.lcmp X.here X.ex rfl (X.dec d) rfl k) g
theorem o_idiv (X : St K Z own b mx ret rm n0 k j T h) {x y : Int32} (d : Isn b pc (.idiv) 1 pc') (hy : y ≠ 0) (g : Go K n0 kc kj Q T pc' Ls (.int (x / y) :: rest)) : Go K n0 kc kj Q T pc Ls (.int y :: .int x :: rest) := by
  obtain ⟨d, rfl⟩ := d; exact o_go (fun t k => XS.idiv X.here X.ex rfl (X.dec d) rfl hy k) g
theorem o_ldiv (X : St K Z own b mx ret rm n0 k j T h) {x y : Int64} (d : Isn b pc (.ldiv) 1 pc') (hy : y ≠ 0) (g : Go K n0 kc kj Q T pc' Ls (.long (x / y) :: rest)) : Go K n0 kc kj Q T pc Ls (.long y :: .long x :: rest) := by
  obtain ⟨d, rfl⟩ := d; exact o_go (fun t k => XT.ldiv X.here X.ex rfl (X.dec d) rfl hy k) g
theorem o_irem (X : St K Z own b mx ret rm n0 k j T h) {x y : Int32} (d : Isn b pc .irem 1 pc') (hy : y ≠ 0) (g : Go K n0 kc kj Q T pc' Ls (.int (x % y) :: rest)) : Go K n0 kc kj Q T pc Ls (.int y :: .int x :: rest) := by
  obtain ⟨d, rfl⟩ := d; obtain ⟨_, S, _⟩ := X.sd; exact o_go (fun t k => iremM S X.ex rfl (X.dec d) rfl hy k) g
theorem o_lrem (X : St K Z own b mx ret rm n0 k j T h) {x y : Int64} (d : Isn b pc .lrem 1 pc') (hy : y ≠ 0) (g : Go K n0 kc kj Q T pc' Ls (.long (x % y) :: rest)) : Go K n0 kc kj Q T pc Ls (.long y :: .long x :: rest) := by
  obtain ⟨d, rfl⟩ := d; rw [← lrem_mod] at g; exact o_go (fun t k => XT.lrem X.here X.ex rfl (X.dec d) rfl hy k) g
theorem o_i2l (X : St K Z own b mx ret rm n0 k j T h) {x : Int32} (d : Isn b pc (.i2l) 1 pc') (g : Go K n0 kc kj Q T pc' Ls (.long (x.toInt64) :: rest)) : Go K n0 kc kj Q T pc Ls (.int x :: rest) := by
  obtain ⟨d, rfl⟩ := d; exact o_go (fun t k => XT.i2l X.here X.ex rfl (X.dec d) rfl k) g
theorem o_l2i (X : St K Z own b mx ret rm n0 k j T h) {x : Int64} (d : Isn b pc (.l2i) 1 pc') (g : Go K n0 kc kj Q T pc' Ls (.int (x.toInt32) :: rest)) : Go K n0 kc kj Q T pc Ls (.long x :: rest) := by
  obtain ⟨d, rfl⟩ := d; exact o_go (fun t k => XT.l2i X.here X.ex rfl (X.dec d) rfl k) g
theorem o_i2b (X : St K Z own b mx ret rm n0 k j T h) {x : Int32} (d : Isn b pc (.i2b) 1 pc') (g : Go K n0 kc kj Q T pc' Ls (.int (x.toInt8.toInt32) :: rest)) : Go K n0 kc kj Q T pc Ls (.int x :: rest) := by
  obtain ⟨d, rfl⟩ := d; exact o_go (fun t k => XT.i2b X.here X.ex rfl (X.dec d) rfl k) g
theorem o_i2c (X : St K Z own b mx ret rm n0 k j T h) {x : Int32} (d : Isn b pc (.i2c) 1 pc') (g : Go K n0 kc kj Q T pc' Ls (.int (x.toUInt32.toUInt16.toUInt32.toInt32) :: rest)) : Go K n0 kc kj Q T pc Ls (.int x :: rest) := by
  obtain ⟨d, rfl⟩ := d; exact o_go (fun t k => XT.i2c X.here X.ex rfl (X.dec d) rfl k) g
theorem o_i2s (X : St K Z own b mx ret rm n0 k j T h) {x : Int32} (d : Isn b pc (.i2s) 1 pc') (g : Go K n0 kc kj Q T pc' Ls (.int (x.toInt16.toInt32) :: rest)) : Go K n0 kc kj Q T pc Ls (.int x :: rest) := by
  obtain ⟨d, rfl⟩ := d; exact o_go (fun t k => XT.i2s X.here X.ex rfl (X.dec d) rfl k) g
theorem o_ineg (X : St K Z own b mx ret rm n0 k j T h) {x : Int32} (d : Isn b pc (.ineg) 1 pc') (g : Go K n0 kc kj Q T pc' Ls (.int (-x) :: rest)) : Go K n0 kc kj Q T pc Ls (.int x :: rest) := by
  obtain ⟨d, rfl⟩ := d; exact o_go (fun t k => XS.ineg X.here X.ex rfl (X.dec d) rfl k) g
theorem o_lneg (X : St K Z own b mx ret rm n0 k j T h) {x : Int64} (d : Isn b pc (.lneg) 1 pc') (g : Go K n0 kc kj Q T pc' Ls (.long (-x) :: rest)) : Go K n0 kc kj Q T pc Ls (.long x :: rest) := by
  obtain ⟨d, rfl⟩ := d; exact o_go (fun t k => XT.lneg X.here X.ex rfl (X.dec d) rfl k) g
theorem o_iload_n (X : St K Z own b mx ret rm n0 k j T h) {i : Fin 4} {v : Int32} (d : Isn b pc (.iload_n i) 1 pc') (hl : Ls[i.val]? = some (.val (.int v))) (g : Go K n0 kc kj Q T pc' Ls (.int v :: st)) : Go K n0 kc kj Q T pc Ls (st) := by
  obtain ⟨d, rfl⟩ := d; exact o_go (fun t k => XS.iloadN X.here X.ex rfl (X.dec d) hl k) g
theorem o_iload (X : St K Z own b mx ret rm n0 k j T h) {i : Nat} {v : Int32} (d : Isn b pc (.iload i) 2 pc') (hl : Ls[i]? = some (.val (.int v))) (g : Go K n0 kc kj Q T pc' Ls (.int v :: st)) : Go K n0 kc kj Q T pc Ls (st) := by
  obtain ⟨d, rfl⟩ := d; exact o_go (fun t k => XS.iload X.here X.ex rfl (X.dec d) hl k) g
theorem o_lload_n (X : St K Z own b mx ret rm n0 k j T h) {i : Fin 4} {v : Int64} (d : Isn b pc (.lload_n i) 1 pc') (hl : Ls[i.val]? = some (.val (.long v))) (g : Go K n0 kc kj Q T pc' Ls (.long v :: st)) : Go K n0 kc kj Q T pc Ls (st) := by
  obtain ⟨d, rfl⟩ := d; exact o_go (fun t k => XT.lloadN X.here X.ex rfl (X.dec d) hl k) g
theorem o_lload (X : St K Z own b mx ret rm n0 k j T h) {i : Nat} {v : Int64} (d : Isn b pc (.lload i) 2 pc') (hl : Ls[i]? = some (.val (.long v))) (g : Go K n0 kc kj Q T pc' Ls (.long v :: st)) : Go K n0 kc kj Q T pc Ls (st) := by
  obtain ⟨d, rfl⟩ := d; exact o_go (fun t k => XT.lload X.here X.ex rfl (X.dec d) hl k) g
theorem o_aload_n (X : St K Z own b mx ret rm n0 k j T h) {i : Fin 4} {v : Value} (d : Isn b pc (.aload_n i) 1 pc') (hl : Ls[i.val]? = some (.val v)) (hv : v.isRef = true) (g : Go K n0 kc kj Q T pc' Ls (v :: st)) : Go K n0 kc kj Q T pc Ls (st) := by
  obtain ⟨d, rfl⟩ := d; exact o_go (fun t k => XS.aloadN X.here X.ex rfl (X.dec d) hl hv k) g
theorem o_aload (X : St K Z own b mx ret rm n0 k j T h) {i : Nat} {v : Value} (d : Isn b pc (.aload i) 2 pc') (hl : Ls[i]? = some (.val v)) (hv : v.isRef = true) (g : Go K n0 kc kj Q T pc' Ls (v :: st)) : Go K n0 kc kj Q T pc Ls (st) := by
  obtain ⟨d, rfl⟩ := d; exact o_go (fun t k => XS.aload X.here X.ex rfl (X.dec d) hl hv k) g
theorem o_istore_n (X : St K Z own b mx ret rm n0 k j T h) {i : Fin 4} {x : Int32} (d : Isn b pc (.istore_n i) 1 pc') (hl : storeLocals Ls i.val (.int x) = some Ls') (g : Go K n0 kc kj Q T pc' Ls' (rest)) : Go K n0 kc kj Q T pc Ls (.int x :: rest) := by
  obtain ⟨d, rfl⟩ := d; exact o_go (fun t k => XS.istoreN X.here X.ex rfl (X.dec d) rfl hl k) g
theorem o_istore (X : St K Z own b mx ret rm n0 k j T h) {i : Nat} {x : Int32} (d : Isn b pc (.istore i) 2 pc') (hl : storeLocals Ls i (.int x) = some Ls') (g : Go K n0 kc kj Q T pc' Ls' (rest)) : Go K n0 kc kj Q T pc Ls (.int x :: rest) := by
  obtain ⟨d, rfl⟩ := d; exact o_go (fun t k => XS.istore X.here X.ex rfl (X.dec d) rfl hl k) g
theorem o_lstore_n (X : St K Z own b mx ret rm n0 k j T h) {i : Fin 4} {x : Int64} (d : Isn b pc (.lstore_n i) 1 pc') (hl : storeLocals Ls i.val (.long x) = some Ls') (g : Go K n0 kc kj Q T pc' Ls' (rest)) : Go K n0 kc kj Q T pc Ls (.long x :: rest) := by
  obtain ⟨d, rfl⟩ := d; exact o_go (fun t k => XT.lstoreN X.here X.ex rfl (X.dec d) rfl hl k) g
theorem o_lstore (X : St K Z own b mx ret rm n0 k j T h) {i : Nat} {x : Int64} (d : Isn b pc (.lstore i) 2 pc') (hl : storeLocals Ls i (.long x) = some Ls') (g : Go K n0 kc kj Q T pc' Ls' (rest)) : Go K n0 kc kj Q T pc Ls (.long x :: rest) := by
  obtain ⟨d, rfl⟩ := d; exact o_go (fun t k => XT.lstore X.here X.ex rfl (X.dec d) rfl hl k) g
theorem o_istoreO (X : St K Z own b mx ret rm n0 k j T h) {i : Nat} {x : Int32} {o : Slot} (d : Isn b pc (.istore i) 2 pc') (hold : Ls[i]? = some o) (ho : o = .unset ∨ ∃ w, o = .val w ∧ w.category = 1) (hl : Ls.setIfInBounds i (.val (.int x)) = Ls') (g : Go K n0 kc kj Q T pc' Ls' (rest)) : Go K n0 kc kj Q T pc Ls (.int x :: rest) := by
  obtain ⟨d, rfl⟩ := d; subst hl; exact o_go (fun t k => XS.istoreS X.here X.ex rfl (X.dec d) rfl hold ho k) g
theorem o_astore_n (X : St K Z own b mx ret rm n0 k j T h) {i : Fin 4} {x : Value} (d : Isn b pc (.astore_n i) 1 pc') (hv : x.isRef = true) (hl : storeLocals Ls i.val x = some Ls') (g : Go K n0 kc kj Q T pc' Ls' (rest)) : Go K n0 kc kj Q T pc Ls (x :: rest) := by
  obtain ⟨d, rfl⟩ := d; exact o_go (fun t k => XS.astoreN X.here X.ex rfl (X.dec d) rfl hv hl k) g
theorem o_astore (X : St K Z own b mx ret rm n0 k j T h) {i : Nat} {x : Value} (d : Isn b pc (.astore i) 2 pc') (hv : x.isRef = true) (hl : storeLocals Ls i x = some Ls') (g : Go K n0 kc kj Q T pc' Ls' (rest)) : Go K n0 kc kj Q T pc Ls (x :: rest) := by
  obtain ⟨d, rfl⟩ := d; exact o_go (fun t k => XS.astore X.here X.ex rfl (X.dec d) rfl hv hl k) g
theorem o_iconst (v : Int32) (X : St K Z own b mx ret rm n0 k j T h) {i : Int} (d : Isn b pc (.iconst i) 1 pc') (hv : Int32.ofInt i = v) (g : Go K n0 kc kj Q T pc' Ls (.int v :: st)) : Go K n0 kc kj Q T pc Ls (st) := by
  obtain ⟨d, rfl⟩ := d; exact o_go (fun t k => XT.iconstV X.here X.ex rfl v (X.dec d) hv k) g
theorem o_bipush (v : Int32) (X : St K Z own b mx ret rm n0 k j T h) {i : Int} (d : Isn b pc (.bipush i) 2 pc') (hv : (Int8.ofInt i).toInt32 = v) (g : Go K n0 kc kj Q T pc' Ls (.int v :: st)) : Go K n0 kc kj Q T pc Ls (st) := by
  obtain ⟨d, rfl⟩ := d; exact o_go (fun t k => XT.bipushV X.here X.ex rfl v (X.dec d) hv k) g
theorem o_sipush (v : Int32) (X : St K Z own b mx ret rm n0 k j T h) {i : Int} (d : Isn b pc (.sipush i) 3 pc') (hv : (Int16.ofInt i).toInt32 = v) (g : Go K n0 kc kj Q T pc' Ls (.int v :: st)) : Go K n0 kc kj Q T pc Ls (st) := by
  obtain ⟨d, rfl⟩ := d; exact o_go (fun t k => XT.sipushV X.here X.ex rfl v (X.dec d) hv k) g
theorem o_lconst (v : Int64) (X : St K Z own b mx ret rm n0 k j T h) {i : Fin 2} (d : Isn b pc (.lconst i) 1 pc') (hv : Int64.ofNat i = v) (g : Go K n0 kc kj Q T pc' Ls (.long v :: st)) : Go K n0 kc kj Q T pc Ls (st) := by
  obtain ⟨d, rfl⟩ := d; exact o_go (fun t k => XT.lconstV X.here X.ex rfl v (X.dec d) hv k) g
theorem o_aconst_null (X : St K Z own b mx ret rm n0 k j T h)  (d : Isn b pc (.aconst_null) 1 pc') (g : Go K n0 kc kj Q T pc' Ls (.null :: st)) : Go K n0 kc kj Q T pc Ls (st) := by
  obtain ⟨d, rfl⟩ := d; exact o_go (fun t k => XS.aconstNull X.here X.ex rfl (X.dec d)  k) g
theorem o_iinc (v : Int32) (X : St K Z own b mx ret rm n0 k j T h) {i : Nat} {cst : Int} {x : Int32} (d : Isn b pc (.iinc i cst) 3 pc') (hv : Int32.ofInt cst = v) (hl : Ls[i]? = some (.val (.int x))) (hl' : storeLocals Ls i (.int (x + v)) = some Ls') (g : Go K n0 kc kj Q T pc' Ls' (st)) : Go K n0 kc kj Q T pc Ls (st) := by
  obtain ⟨d, rfl⟩ := d; exact o_go (fun t k => XT.iincV X.here X.ex rfl v (X.dec d) hv hl hl' k) g
theorem o_ldc (X : St K Z own b mx ret rm n0 k j T h) {i : Nat} {v : Int32} (d : Isn b pc (.ldc i) 2 pc') (wd : (Jvm.Cond.constant own i v).before a0 Z = true) (g : Go K n0 kc kj Q T pc' Ls (.int v :: st)) : Go K n0 kc kj Q T pc Ls (st) := by
  obtain ⟨d, rfl⟩ := d; obtain ⟨_, S, _⟩ := X.sd; exact o_go (fun t k => S.ldcI X.ex X.ow (mvT X.wZ wd) rfl (X.dec d) k) g
theorem o_ldc2 (X : St K Z own b mx ret rm n0 k j T h) {i : Nat} {v : Int64} (d : Isn b pc (.ldc2_w i) 3 pc') (wd : (Jvm.Cond.constantLong own i v).before a0 Z = true) (g : Go K n0 kc kj Q T pc' Ls (.long v :: st)) : Go K n0 kc kj Q T pc Ls (st) := by
  obtain ⟨d, rfl⟩ := d; obtain ⟨_, S, _⟩ := X.sd; exact o_go (fun t k => S.ldc2J X.ex X.ow (mvT X.wZ wd) rfl (X.dec d) k) g
theorem o_dup (X : St K Z own b mx ret rm n0 k j T h) {x : Value} (d : Isn b pc (.dup) 1 pc') (hc : x.category = 1) (g : Go K n0 kc kj Q T pc' Ls (x :: x :: rest)) : Go K n0 kc kj Q T pc Ls (x :: rest) := by
  obtain ⟨d, rfl⟩ := d; exact o_go (fun t k => XS.dup X.here X.ex rfl (X.dec d) rfl hc k) g
theorem o_pop (X : St K Z own b mx ret rm n0 k j T h) {x : Value} (d : Isn b pc (.pop) 1 pc') (hc : x.category = 1) (g : Go K n0 kc kj Q T pc' Ls (rest)) : Go K n0 kc kj Q T pc Ls (x :: rest) := by
  obtain ⟨d, rfl⟩ := d; exact o_go (fun t k => XT.pop X.here X.ex rfl (X.dec d) rfl hc k) g
theorem o_dup2 (X : St K Z own b mx ret rm n0 k j T h) {x y : Value} (d : Isn b pc (.dup2) 1 pc') (hc : x.category = 1) (hc' : y.category = 1) (g : Go K n0 kc kj Q T pc' Ls (x :: y :: x :: y :: rest)) : Go K n0 kc kj Q T pc Ls (x :: y :: rest) := by
  obtain ⟨d, rfl⟩ := d; exact o_go (fun t k => XT.dup2 X.here X.ex rfl (X.dec d) rfl hc hc' k) g
theorem o_dup_x1 (X : St K Z own b mx ret rm n0 k j T h) {x y : Value} (d : Isn b pc (.dup_x1) 1 pc') (hc : x.category = 1) (hc' : y.category = 1) (g : Go K n0 kc kj Q T pc' Ls (x :: y :: x :: rest)) : Go K n0 kc kj Q T pc Ls (x :: y :: rest) := by
  obtain ⟨d, rfl⟩ := d; exact o_go (fun t k => XT.dupX1 X.here X.ex rfl (X.dec d) rfl hc hc' k) g
theorem o_dup2L (X : St K Z own b mx ret rm n0 k j T h) {x : Int64} (d : Isn b pc (.dup2) 1 pc') (g : Go K n0 kc kj Q T pc' Ls (.long x :: .long x :: rest)) : Go K n0 kc kj Q T pc Ls (.long x :: rest) := by
  obtain ⟨d, rfl⟩ := d; exact o_go (fun t k => XT.dup2L X.here X.ex rfl (X.dec d) rfl k) g
theorem o_goto (X : St K Z own b mx ret rm n0 k j T h) {o : Int} (d : Brn b pc (.goto o) o pc' tg) (g : Go K n0 kc kj Q T tg Ls (st)) : Go K n0 kc kj Q T pc Ls (st) := by
  obtain ⟨d, rfl, h1, h2⟩ := d; exact o_go (fun t k => XS.goto X.here X.ex rfl rfl (X.dec d) h1 h2 k) g
theorem o_icmp_eq_t (X : St K Z own b mx ret rm n0 k j T h) {x y : Int32} {o : Int} (d : Brn b pc (.if_icmp .eq o) o pc' tg) (q : x = y) (g : Go K n0 kc kj Q T tg Ls (rest)) : Go K n0 kc kj Q T pc Ls (.int y :: .int x :: rest) := by
  obtain ⟨d, rfl, h1, h2⟩ := d; exact o_go (fun t k => XS.icmpYes X.here X.ex rfl rfl (X.dec d) rfl (XT.ii_eq_t q) h1 h2 k) g
theorem o_icmp_eq_f (X : St K Z own b mx ret rm n0 k j T h) {x y : Int32} {o : Int} (d : Brn b pc (.if_icmp .eq o) o pc' tg) (q : ¬ x = y) (g : Go K n0 kc kj Q T pc' Ls (rest)) : Go K n0 kc kj Q T pc Ls (.int y :: .int x :: rest) := by
  obtain ⟨d, rfl, h1, h2⟩ := d; exact o_go (fun t k => XS.icmpNo X.here X.ex rfl (X.dec d) rfl (XT.ii_eq_f q) k) g
theorem o_icmp_eq (X : St K Z own b mx ret rm n0 k j T h) {x y : Int32} {o : Int} (d : Brn b pc (.if_icmp .eq o) o pc' tg) (gt : x = y → Go K n0 kc kj Q T tg Ls (rest)) (gf : ¬ x = y → Go K n0 kc kj Q T pc' Ls (rest)) : Go K n0 kc kj Q T pc Ls (.int y :: .int x :: rest) := by
  by_cases q : x = y
  · exact o_icmp_eq_t X d q (gt q)
  · exact o_icmp_eq_f X d q (gf q)
theorem o_if_eq_t (X : St K Z own b mx ret rm n0 k j T h) {x : Int32} {o : Int} (d : Brn b pc (.ifCond .eq o) o pc' tg) (q : x = 0) (g : Go K n0 kc kj Q T tg Ls (rest)) : Go K n0 kc kj Q T pc Ls (.int x :: rest) := by
  obtain ⟨d, rfl, h1, h2⟩ := d; exact o_go (fun t k => XS.ifYes X.here X.ex rfl rfl (X.dec d) rfl (XT.i0_eq_t q) h1 h2 k) g
theorem o_if_eq_f (X : St K Z own b mx ret rm n0 k j T h) {x : Int32} {o : Int} (d : Brn b pc (.ifCond .eq o) o pc' tg) (q : ¬ x = 0) (g : Go K n0 kc kj Q T pc' Ls (rest)) : Go K n0 kc kj Q T pc Ls (.int x :: rest) := by
  obtain ⟨d, rfl, h1, h2⟩ := d; exact o_go (fun t k => XS.ifNo X.here X.ex rfl (X.dec d) rfl (XT.i0_eq_f q) k) g
theorem o_if_eq (X : St K Z own b mx ret rm n0 k j T h) {x : Int32} {o : Int} (d : Brn b pc (.ifCond .eq o) o pc' tg) (gt : x = 0 → Go K n0 kc kj Q T tg Ls (rest)) (gf : ¬ x = 0 → Go K n0 kc kj Q T pc' Ls (rest)) : Go K n0 kc kj Q T pc Ls (.int x :: rest) := by
  by_cases q : x = 0
  · exact o_if_eq_t X d q (gt q)
  · exact o_if_eq_f X d q (gf q)
theorem o_lif_eq_t (X : St K Z own b mx ret rm n0 k j T h) {x y : Int64} {o : Int} (d : Brn b pc (.ifCond .eq o) o pc' tg) (q : x = y) (g : Go K n0 kc kj Q T tg Ls (rest)) : Go K n0 kc kj Q T pc Ls (.int (XT.cmpL x y) :: rest) := by
  obtain ⟨d, rfl, h1, h2⟩ := d; exact o_go (fun t k => XS.ifYes X.here X.ex rfl rfl (X.dec d) rfl (XT.ll_eq_t q) h1 h2 k) g
theorem o_lif_eq_f (X : St K Z own b mx ret rm n0 k j T h) {x y : Int64} {o : Int} (d : Brn b pc (.ifCond .eq o) o pc' tg) (q : ¬ x = y) (g : Go K n0 kc kj Q T pc' Ls (rest)) : Go K n0 kc kj Q T pc Ls (.int (XT.cmpL x y) :: rest) := by
  obtain ⟨d, rfl, h1, h2⟩ := d; exact o_go (fun t k => XS.ifNo X.here X.ex rfl (X.dec d) rfl (XT.ll_eq_f q) k) g
theorem o_lif_eq (X : St K Z own b mx ret rm n0 k j T h) {x y : Int64} {o : Int} (d : Brn b pc (.ifCond .eq o) o pc' tg) (gt : x = y → Go K n0 kc kj Q T tg Ls (rest)) (gf : ¬ x = y → Go K n0 kc kj Q T pc' Ls (rest)) : Go K n0 kc kj Q T pc Ls (.int (XT.cmpL x y) :: rest) := by
  by_cases q : x = y
  · exact o_lif_eq_t X d q (gt q)
  · exact o_lif_eq_f X d q (gf q)
theorem o_icmp_ne_t (X : St K Z own b mx ret rm n0 k j T h) {x y : Int32} {o : Int} (d : Brn b pc (.if_icmp .ne o) o pc' tg) (q : ¬ x = y) (g : Go K n0 kc kj Q T tg Ls (rest)) : Go K n0 kc kj Q T pc Ls (.int y :: .int x :: rest) := by
  obtain ⟨d, rfl, h1, h2⟩ := d; exact o_go (fun t k => XS.icmpYes X.here X.ex rfl rfl (X.dec d) rfl (XT.ii_ne_t q) h1 h2 k) g
theorem o_icmp_ne_f (X : St K Z own b mx ret rm n0 k j T h) {x y : Int32} {o : Int} (d : Brn b pc (.if_icmp .ne o) o pc' tg) (q : x = y) (g : Go K n0 kc kj Q T pc' Ls (rest)) : Go K n0 kc kj Q T pc Ls (.int y :: .int x :: rest) := by
  obtain ⟨d, rfl, h1, h2⟩ := d; exact o_go (fun t k => XS.icmpNo X.here X.ex rfl (X.dec d) rfl (XT.ii_ne_f q) k) g
theorem o_icmp_ne (X : St K Z own b mx ret rm n0 k j T h) {x y : Int32} {o : Int} (d : Brn b pc (.if_icmp .ne o) o pc' tg) (gt : ¬ x = y → Go K n0 kc kj Q T tg Ls (rest)) (gf : x = y → Go K n0 kc kj Q T pc' Ls (rest)) : Go K n0 kc kj Q T pc Ls (.int y :: .int x :: rest) := by
  by_cases q : x = y
  · exact o_icmp_ne_f X d q (gf q)
  · exact o_icmp_ne_t X d q (gt q)
theorem o_if_ne_t (X : St K Z own b mx ret rm n0 k j T h) {x : Int32} {o : Int} (d : Brn b pc (.ifCond .ne o) o pc' tg) (q : ¬ x = 0) (g : Go K n0 kc kj Q T tg Ls (rest)) : Go K n0 kc kj Q T pc Ls (.int x :: rest) := by
  obtain ⟨d, rfl, h1, h2⟩ := d; exact o_go (fun t k => XS.ifYes X.here X.ex rfl rfl (X.dec d) rfl (XT.i0_ne_t q) h1 h2 k) g
theorem o_if_ne_f (X : St K Z own b mx ret rm n0 k j T h) {x : Int32} {o : Int} (d : Brn b pc (.ifCond .ne o) o pc' tg) (q : x = 0) (g : Go K n0 kc kj Q T pc' Ls (rest)) : Go K n0 kc kj Q T pc Ls (.int x :: rest) := by
  obtain ⟨d, rfl, h1, h2⟩ := d; exact o_go (fun t k => XS.ifNo X.here X.ex rfl (X.dec d) rfl (XT.i0_ne_f q) k) g
theorem o_if_ne (X : St K Z own b mx ret rm n0 k j T h) {x : Int32} {o : Int} (d : Brn b pc (.ifCond .ne o) o pc' tg) (gt : ¬ x = 0 → Go K n0 kc kj Q T tg Ls (rest)) (gf : x = 0 → Go K n0 kc kj Q T pc' Ls (rest)) : Go K n0 kc kj Q T pc Ls (.int x :: rest) := by
  by_cases q : x = 0
  · exact o_if_ne_f X d q (gf q)
  · exact o_if_ne_t X d q (gt q)
theorem o_lif_ne_t (X : St K Z own b mx ret rm n0 k j T h) {x y : Int64} {o : Int} (d : Brn b pc (.ifCond .ne o) o pc' tg) (q : ¬ x = y) (g : Go K n0 kc kj Q T tg Ls (rest)) : Go K n0 kc kj Q T pc Ls (.int (XT.cmpL x y) :: rest) := by
  obtain ⟨d, rfl, h1, h2⟩ := d; exact o_go (fun t k => XS.ifYes X.here X.ex rfl rfl (X.dec d) rfl (XT.ll_ne_t q) h1 h2 k) g
theorem o_lif_ne_f (X : St K Z own b mx ret rm n0 k j T h) {x y : Int64} {o : Int} (d : Brn b pc (.ifCond .ne o) o pc' tg) (q : x = y) (g : Go K n0 kc kj Q T pc' Ls (rest)) : Go K n0 kc kj Q T pc Ls (.int (XT.cmpL x y) :: rest) := by
  obtain ⟨d, rfl, h1, h2⟩ := d; exact o_go (fun t k => XS.ifNo X.here X.ex rfl (X.dec d) rfl (XT.ll_ne_f q) k) g
theorem o_lif_ne (X : St K Z own b mx ret rm n0 k j T h) {x y : Int64} {o : Int} (d : Brn b pc (.ifCond .ne o) o pc' tg) (gt : ¬ x = y → Go K n0 kc kj Q T tg Ls (rest)) (gf : x = y → Go K n0 kc kj Q T pc' Ls (rest)) : Go K n0 kc kj Q T pc Ls (.int (XT.cmpL x y) :: rest) := by
  by_cases q : x = y
  · exact o_lif_ne_f X d q (gf q)
  · exact o_lif_ne_t X d q (gt q)
theorem o_icmp_lt_t (X : St K Z own b mx ret rm n0 k j T h) {x y : Int32} {o : Int} (d : Brn b pc (.if_icmp .lt o) o pc' tg) (q : x < y) (g : Go K n0 kc kj Q T tg Ls (rest)) : Go K n0 kc kj Q T pc Ls (.int y :: .int x :: rest) := by
  obtain ⟨d, rfl, h1, h2⟩ := d; exact o_go (fun t k => XS.icmpYes X.here X.ex rfl rfl (X.dec d) rfl (XT.ii_lt_t q) h1 h2 k) g
theorem o_icmp_lt_f (X : St K Z own b mx ret rm n0 k j T h) {x y : Int32} {o : Int} (d : Brn b pc (.if_icmp .lt o) o pc' tg) (q : ¬ x < y) (g : Go K n0 kc kj Q T pc' Ls (rest)) : Go K n0 kc kj Q T pc Ls (.int y :: .int x :: rest) := by
  obtain ⟨d, rfl, h1, h2⟩ := d; exact o_go (fun t k => XS.icmpNo X.here X.ex rfl (X.dec d) rfl (XT.ii_lt_f q) k) g
theorem o_icmp_lt (X : St K Z own b mx ret rm n0 k j T h) {x y : Int32} {o : Int} (d : Brn b pc (.if_icmp .lt o) o pc' tg) (gt : x < y → Go K n0 kc kj Q T tg Ls (rest)) (gf : ¬ x < y → Go K n0 kc kj Q T pc' Ls (rest)) : Go K n0 kc kj Q T pc Ls (.int y :: .int x :: rest) := by
  by_cases q : x < y
  · exact o_icmp_lt_t X d q (gt q)
  · exact o_icmp_lt_f X d q (gf q)
theorem o_if_lt_t (X : St K Z own b mx ret rm n0 k j T h) {x : Int32} {o : Int} (d : Brn b pc (.ifCond .lt o) o pc' tg) (q : x < 0) (g : Go K n0 kc kj Q T tg Ls (rest)) : Go K n0 kc kj Q T pc Ls (.int x :: rest) := by
  obtain ⟨d, rfl, h1, h2⟩ := d; exact o_go (fun t k => XS.ifYes X.here X.ex rfl rfl (X.dec d) rfl (XT.i0_lt_t q) h1 h2 k) g
theorem o_if_lt_f (X : St K Z own b mx ret rm n0 k j T h) {x : Int32} {o : Int} (d : Brn b pc (.ifCond .lt o) o pc' tg) (q : ¬ x < 0) (g : Go K n0 kc kj Q T pc' Ls (rest)) : Go K n0 kc kj Q T pc Ls (.int x :: rest) := by
  obtain ⟨d, rfl, h1, h2⟩ := d; exact o_go (fun t k => XS.ifNo X.here X.ex rfl (X.dec d) rfl (XT.i0_lt_f q) k) g
theorem o_if_lt (X : St K Z own b mx ret rm n0 k j T h) {x : Int32} {o : Int} (d : Brn b pc (.ifCond .lt o) o pc' tg) (gt : x < 0 → Go K n0 kc kj Q T tg Ls (rest)) (gf : ¬ x < 0 → Go K n0 kc kj Q T pc' Ls (rest)) : Go K n0 kc kj Q T pc Ls (.int x :: rest) := by
  by_cases q : x < 0
  · exact o_if_lt_t X d q (gt q)
  · exact o_if_lt_f X d q (gf q)
theorem o_lif_lt_t (X : St K Z own b mx ret rm n0 k j T h) {x y : Int64} {o : Int} (d : Brn b pc (.ifCond .lt o) o pc' tg) (q : x < y) (g : Go K n0 kc kj Q T tg Ls (rest)) : Go K n0 kc kj Q T pc Ls (.int (XT.cmpL x y) :: rest) := by
  obtain ⟨d, rfl, h1, h2⟩ := d; exact o_go (fun t k => XS.ifYes X.here X.ex rfl rfl (X.dec d) rfl (XT.ll_lt_t q) h1 h2 k) g
theorem o_lif_lt_f (X : St K Z own b mx ret rm n0 k j T h) {x y : Int64} {o : Int} (d : Brn b pc (.ifCond .lt o) o pc' tg) (q : ¬ x < y) (g : Go K n0 kc kj Q T pc' Ls (rest)) : Go K n0 kc kj Q T pc Ls (.int (XT.cmpL x y) :: rest) := by
  obtain ⟨d, rfl, h1, h2⟩ := d; exact o_go (fun t k => XS.ifNo X.here X.ex rfl (X.dec d) rfl (XT.ll_lt_f q) k) g
theorem o_lif_lt (X : St K Z own b mx ret rm n0 k j T h) {x y : Int64} {o : Int} (d : Brn b pc (.ifCond .lt o) o pc' tg) (gt : x < y → Go K n0 kc kj Q T tg Ls (rest)) (gf : ¬ x < y → Go K n0 kc kj Q T pc' Ls (rest)) : Go K n0 kc kj Q T pc Ls (.int (XT.cmpL x y) :: rest) := by
  by_cases q : x < y
  · exact o_lif_lt_t X d q (gt q)
  · exact o_lif_lt_f X d q (gf q)
theorem o_icmp_ge_t (X : St K Z own b mx ret rm n0 k j T h) {x y : Int32} {o : Int} (d : Brn b pc (.if_icmp .ge o) o pc' tg) (q : ¬ x < y) (g : Go K n0 kc kj Q T tg Ls (rest)) : Go K n0 kc kj Q T pc Ls (.int y :: .int x :: rest) := by
  obtain ⟨d, rfl, h1, h2⟩ := d; exact o_go (fun t k => XS.icmpYes X.here X.ex rfl rfl (X.dec d) rfl (XT.ii_ge_t q) h1 h2 k) g
theorem o_icmp_ge_f (X : St K Z own b mx ret rm n0 k j T h) {x y : Int32} {o : Int} (d : Brn b pc (.if_icmp .ge o) o pc' tg) (q : x < y) (g : Go K n0 kc kj Q T pc' Ls (rest)) : Go K n0 kc kj Q T pc Ls (.int y :: .int x :: rest) := by
  obtain ⟨d, rfl, h1, h2⟩ := d; exact o_go (fun t k => XS.icmpNo X.here X.ex rfl (X.dec d) rfl (XT.ii_ge_f q) k) g
theorem o_icmp_ge (X : St K Z own b mx ret rm n0 k j T h) {x y : Int32} {o : Int} (d : Brn b pc (.if_icmp .ge o) o pc' tg) (gt : ¬ x < y → Go K n0 kc kj Q T tg Ls (rest)) (gf : x < y → Go K n0 kc kj Q T pc' Ls (rest)) : Go K n0 kc kj Q T pc Ls (.int y :: .int x :: rest) := by
  by_cases q : x < y
  · exact o_icmp_ge_f X d q (gf q)
  · exact o_icmp_ge_t X d q (gt q)
theorem o_if_ge_t (X : St K Z own b mx ret rm n0 k j T h) {x : Int32} {o : Int} (d : Brn b pc (.ifCond .ge o) o pc' tg) (q : ¬ x < 0) (g : Go K n0 kc kj Q T tg Ls (rest)) : Go K n0 kc kj Q T pc Ls (.int x :: rest) := by
  obtain ⟨d, rfl, h1, h2⟩ := d; exact o_go (fun t k => XS.ifYes X.here X.ex rfl rfl (X.dec d) rfl (XT.i0_ge_t q) h1 h2 k) g
theorem o_if_ge_f (X : St K Z own b mx ret rm n0 k j T h) {x : Int32} {o : Int} (d : Brn b pc (.ifCond .ge o) o pc' tg) (q : x < 0) (g : Go K n0 kc kj Q T pc' Ls (rest)) : Go K n0 kc kj Q T pc Ls (.int x :: rest) := by
  obtain ⟨d, rfl, h1, h2⟩ := d; exact o_go (fun t k => XS.ifNo X.here X.ex rfl (X.dec d) rfl (XT.i0_ge_f q) k) g
theorem o_if_ge (X : St K Z own b mx ret rm n0 k j T h) {x : Int32} {o : Int} (d : Brn b pc (.ifCond .ge o) o pc' tg) (gt : ¬ x < 0 → Go K n0 kc kj Q T tg Ls (rest)) (gf : x < 0 → Go K n0 kc kj Q T pc' Ls (rest)) : Go K n0 kc kj Q T pc Ls (.int x :: rest) := by
  by_cases q : x < 0
  · exact o_if_ge_f X d q (gf q)
  · exact o_if_ge_t X d q (gt q)
theorem o_lif_ge_t (X : St K Z own b mx ret rm n0 k j T h) {x y : Int64} {o : Int} (d : Brn b pc (.ifCond .ge o) o pc' tg) (q : ¬ x < y) (g : Go K n0 kc kj Q T tg Ls (rest)) : Go K n0 kc kj Q T pc Ls (.int (XT.cmpL x y) :: rest) := by
  obtain ⟨d, rfl, h1, h2⟩ := d; exact o_go (fun t k => XS.ifYes X.here X.ex rfl rfl (X.dec d) rfl (XT.ll_ge_t q) h1 h2 k) g
theorem o_lif_ge_f (X : St K Z own b mx ret rm n0 k j T h) {x y : Int64} {o : Int} (d : Brn b pc (.ifCond .ge o) o pc' tg) (q : x < y) (g : Go K n0 kc kj Q T pc' Ls (rest)) : Go K n0 kc kj Q T pc Ls (.int (XT.cmpL x y) :: rest) := by
  obtain ⟨d, rfl, h1, h2⟩ := d; exact o_go (fun t k => XS.ifNo X.here X.ex rfl (X.dec d) rfl (XT.ll_ge_f q) k) g
theorem o_lif_ge (X : St K Z own b mx ret rm n0 k j T h) {x y : Int64} {o : Int} (d : Brn b pc (.ifCond .ge o) o pc' tg) (gt : ¬ x < y → Go K n0 kc kj Q T tg Ls (rest)) (gf : x < y → Go K n0 kc kj Q T pc' Ls (rest)) : Go K n0 kc kj Q T pc Ls (.int (XT.cmpL x y) :: rest) := by
  by_cases q : x < y
  · exact o_lif_ge_f X d q (gf q)
  · exact o_lif_ge_t X d q (gt q)
theorem o_icmp_gt_t (X : St K Z own b mx ret rm n0 k j T h) {x y : Int32} {o : Int} (d : Brn b pc (.if_icmp .gt o) o pc' tg) (q : y < x) (g : Go K n0 kc kj Q T tg Ls (rest)) : Go K n0 kc kj Q T pc Ls (.int y :: .int x :: rest) := by
  obtain ⟨d, rfl, h1, h2⟩ := d; exact o_go (fun t k => XS.icmpYes X.here X.ex rfl rfl (X.dec d) rfl (XT.ii_gt_t q) h1 h2 k) g
theorem o_icmp_gt_f (X : St K Z own b mx ret rm n0 k j T h) {x y : Int32} {o : Int} (d : Brn b pc (.if_icmp .gt o) o pc' tg) (q : ¬ y < x) (g : Go K n0 kc kj Q T pc' Ls (rest)) : Go K n0 kc kj Q T pc Ls (.int y :: .int x :: rest) := by
  obtain ⟨d, rfl, h1, h2⟩ := d; exact o_go (fun t k => XS.icmpNo X.here X.ex rfl (X.dec d) rfl (XT.ii_gt_f q) k) g
theorem o_icmp_gt (X : St K Z own b mx ret rm n0 k j T h) {x y : Int32} {o : Int} (d : Brn b pc (.if_icmp .gt o) o pc' tg) (gt : y < x → Go K n0 kc kj Q T tg Ls (rest)) (gf : ¬ y < x → Go K n0 kc kj Q T pc' Ls (rest)) : Go K n0 kc kj Q T pc Ls (.int y :: .int x :: rest) := by
  by_cases q : y < x
  · exact o_icmp_gt_t X d q (gt q)
  · exact o_icmp_gt_f X d q (gf q)
theorem o_if_gt_t (X : St K Z own b mx ret rm n0 k j T h) {x : Int32} {o : Int} (d : Brn b pc (.ifCond .gt o) o pc' tg) (q : 0 < x) (g : Go K n0 kc kj Q T tg Ls (rest)) : Go K n0 kc kj Q T pc Ls (.int x :: rest) := by
  obtain ⟨d, rfl, h1, h2⟩ := d; exact o_go (fun t k => XS.ifYes X.here X.ex rfl rfl (X.dec d) rfl (XT.i0_gt_t q) h1 h2 k) g
theorem o_if_gt_f (X : St K Z own b mx ret rm n0 k j T h) {x : Int32} {o : Int} (d : Brn b pc (.ifCond .gt o) o pc' tg) (q : ¬ 0 < x) (g : Go K n0 kc kj Q T pc' Ls (rest)) : Go K n0 kc kj Q T pc Ls (.int x :: rest) := by
  obtain ⟨d, rfl, h1, h2⟩ := d; exact o_go (fun t k => XS.ifNo X.here X.ex rfl (X.dec d) rfl (XT.i0_gt_f q) k) g
theorem o_if_gt (X : St K Z own b mx ret rm n0 k j T h) {x : Int32} {o : Int} (d : Brn b pc (.ifCond .gt o) o pc' tg) (gt : 0 < x → Go K n0 kc kj Q T tg Ls (rest)) (gf : ¬ 0 < x → Go K n0 kc kj Q T pc' Ls (rest)) : Go K n0 kc kj Q T pc Ls (.int x :: rest) := by
  by_cases q : 0 < x
  · exact o_if_gt_t X d q (gt q)
  · exact o_if_gt_f X d q (gf q)
theorem o_lif_gt_t (X : St K Z own b mx ret rm n0 k j T h) {x y : Int64} {o : Int} (d : Brn b pc (.ifCond .gt o) o pc' tg) (q : y < x) (g : Go K n0 kc kj Q T tg Ls (rest)) : Go K n0 kc kj Q T pc Ls (.int (XT.cmpL x y) :: rest) := by
  obtain ⟨d, rfl, h1, h2⟩ := d; exact o_go (fun t k => XS.ifYes X.here X.ex rfl rfl (X.dec d) rfl (XT.ll_gt_t q) h1 h2 k) g
theorem o_lif_gt_f (X : St K Z own b mx ret rm n0 k j T h) {x y : Int64} {o : Int} (d : Brn b pc (.ifCond .gt o) o pc' tg) (q : ¬ y < x) (g : Go K n0 kc kj Q T pc' Ls (rest)) : Go K n0 kc kj Q T pc Ls (.int (XT.cmpL x y) :: rest) := by
  obtain ⟨d, rfl, h1, h2⟩ := d; exact o_go (fun t k => XS.ifNo X.here X.ex rfl (X.dec d) rfl (XT.ll_gt_f q) k) g
theorem o_lif_gt (X : St K Z own b mx ret rm n0 k j T h) {x y : Int64} {o : Int} (d : Brn b pc (.ifCond .gt o) o pc' tg) (gt : y < x → Go K n0 kc kj Q T tg Ls (rest)) (gf : ¬ y < x → Go K n0 kc kj Q T pc' Ls (rest)) : Go K n0 kc kj Q T pc Ls (.int (XT.cmpL x y) :: rest) := by
  by_cases q : y < x
  · exact o_lif_gt_t X d q (gt q)
  · exact o_lif_gt_f X d q (gf q)
theorem o_icmp_le_t (X : St K Z own b mx ret rm n0 k j T h) {x y : Int32} {o : Int} (d : Brn b pc (.if_icmp .le o) o pc' tg) (q : ¬ y < x) (g : Go K n0 kc kj Q T tg Ls (rest)) : Go K n0 kc kj Q T pc Ls (.int y :: .int x :: rest) := by
  obtain ⟨d, rfl, h1, h2⟩ := d; exact o_go (fun t k => XS.icmpYes X.here X.ex rfl rfl (X.dec d) rfl (XT.ii_le_t q) h1 h2 k) g
theorem o_icmp_le_f (X : St K Z own b mx ret rm n0 k j T h) {x y : Int32} {o : Int} (d : Brn b pc (.if_icmp .le o) o pc' tg) (q : y < x) (g : Go K n0 kc kj Q T pc' Ls (rest)) : Go K n0 kc kj Q T pc Ls (.int y :: .int x :: rest) := by
  obtain ⟨d, rfl, h1, h2⟩ := d; exact o_go (fun t k => XS.icmpNo X.here X.ex rfl (X.dec d) rfl (XT.ii_le_f q) k) g
theorem o_icmp_le (X : St K Z own b mx ret rm n0 k j T h) {x y : Int32} {o : Int} (d : Brn b pc (.if_icmp .le o) o pc' tg) (gt : ¬ y < x → Go K n0 kc kj Q T tg Ls (rest)) (gf : y < x → Go K n0 kc kj Q T pc' Ls (rest)) : Go K n0 kc kj Q T pc Ls (.int y :: .int x :: rest) := by
  by_cases q : y < x
  · exact o_icmp_le_f X d q (gf q)
  · exact o_icmp_le_t X d q (gt q)
theorem o_if_le_t (X : St K Z own b mx ret rm n0 k j T h) {x : Int32} {o : Int} (d : Brn b pc (.ifCond .le o) o pc' tg) (q : ¬ 0 < x) (g : Go K n0 kc kj Q T tg Ls (rest)) : Go K n0 kc kj Q T pc Ls (.int x :: rest) := by
  obtain ⟨d, rfl, h1, h2⟩ := d; exact o_go (fun t k => XS.ifYes X.here X.ex rfl rfl (X.dec d) rfl (XT.i0_le_t q) h1 h2 k) g
theorem o_if_le_f (X : St K Z own b mx ret rm n0 k j T h) {x : Int32} {o : Int} (d : Brn b pc (.ifCond .le o) o pc' tg) (q : 0 < x) (g : Go K n0 kc kj Q T pc' Ls (rest)) : Go K n0 kc kj Q T pc Ls (.int x :: rest) := by
  obtain ⟨d, rfl, h1, h2⟩ := d; exact o_go (fun t k => XS.ifNo X.here X.ex rfl (X.dec d) rfl (XT.i0_le_f q) k) g
theorem o_if_le (X : St K Z own b mx ret rm n0 k j T h) {x : Int32} {o : Int} (d : Brn b pc (.ifCond .le o) o pc' tg) (gt : ¬ 0 < x → Go K n0 kc kj Q T tg Ls (rest)) (gf : 0 < x → Go K n0 kc kj Q T pc' Ls (rest)) : Go K n0 kc kj Q T pc Ls (.int x :: rest) := by
  by_cases q : 0 < x
  · exact o_if_le_f X d q (gf q)
  · exact o_if_le_t X d q (gt q)
theorem o_lif_le_t (X : St K Z own b mx ret rm n0 k j T h) {x y : Int64} {o : Int} (d : Brn b pc (.ifCond .le o) o pc' tg) (q : ¬ y < x) (g : Go K n0 kc kj Q T tg Ls (rest)) : Go K n0 kc kj Q T pc Ls (.int (XT.cmpL x y) :: rest) := by
  obtain ⟨d, rfl, h1, h2⟩ := d; exact o_go (fun t k => XS.ifYes X.here X.ex rfl rfl (X.dec d) rfl (XT.ll_le_t q) h1 h2 k) g
theorem o_lif_le_f (X : St K Z own b mx ret rm n0 k j T h) {x y : Int64} {o : Int} (d : Brn b pc (.ifCond .le o) o pc' tg) (q : y < x) (g : Go K n0 kc kj Q T pc' Ls (rest)) : Go K n0 kc kj Q T pc Ls (.int (XT.cmpL x y) :: rest) := by
  obtain ⟨d, rfl, h1, h2⟩ := d; exact o_go (fun t k => XS.ifNo X.here X.ex rfl (X.dec d) rfl (XT.ll_le_f q) k) g
theorem o_lif_le (X : St K Z own b mx ret rm n0 k j T h) {x y : Int64} {o : Int} (d : Brn b pc (.ifCond .le o) o pc' tg) (gt : ¬ y < x → Go K n0 kc kj Q T tg Ls (rest)) (gf : y < x → Go K n0 kc kj Q T pc' Ls (rest)) : Go K n0 kc kj Q T pc Ls (.int (XT.cmpL x y) :: rest) := by
  by_cases q : y < x
  · exact o_lif_le_f X d q (gf q)
  · exact o_lif_le_t X d q (gt q)
theorem o_bool_icmp_eq (X : St K Z own b mx ret rm n0 k j T h) {x y : Int32} {o o2 : Int} {pc2 pc3 pj : Nat} (d : Brn b pc (.if_icmp .eq o) o pc' tg) (d1 : Isn b pc' (.iconst 1) 1 pc2) (d2 : Brn b pc2 (.goto o2) o2 pc3 pj) (d3 : Isn b tg (.iconst 0) 1 pj) (g : Go K n0 kc kj Q T pj Ls (.int (if x = y then 0 else 1) :: rest)) : Go K n0 kc kj Q T pc Ls (.int y :: .int x :: rest) := by
  refine o_icmp_eq X d (fun q => o_iconst 0 X d3 rfl ?_) (fun q => o_iconst 1 X d1 rfl (o_goto X d2 ?_))
  · simpa only [q, if_true, if_false] using g
  · simpa only [q, if_true, if_false] using g
theorem o_bool_if_eq (X : St K Z own b mx ret rm n0 k j T h) {x : Int32} {o o2 : Int} {pc2 pc3 pj : Nat} (d : Brn b pc (.ifCond .eq o) o pc' tg) (d1 : Isn b pc' (.iconst 1) 1 pc2) (d2 : Brn b pc2 (.goto o2) o2 pc3 pj) (d3 : Isn b tg (.iconst 0) 1 pj) (g : Go K n0 kc kj Q T pj Ls (.int (if x = 0 then 0 else 1) :: rest)) : Go K n0 kc kj Q T pc Ls (.int x :: rest) := by
  refine o_if_eq X d (fun q => o_iconst 0 X d3 rfl ?_) (fun q => o_iconst 1 X d1 rfl (o_goto X d2 ?_))
  · simpa only [q, if_true, if_false] using g
  · simpa only [q, if_true, if_false] using g
theorem o_bool_lif_eq (X : St K Z own b mx ret rm n0 k j T h) {x y : Int64} {o o2 : Int} {pc2 pc3 pj : Nat} (d : Brn b pc (.ifCond .eq o) o pc' tg) (d1 : Isn b pc' (.iconst 1) 1 pc2) (d2 : Brn b pc2 (.goto o2) o2 pc3 pj) (d3 : Isn b tg (.iconst 0) 1 pj) (g : Go K n0 kc kj Q T pj Ls (.int (if x = y then 0 else 1) :: rest)) : Go K n0 kc kj Q T pc Ls (.int (XT.cmpL x y) :: rest) := by
  refine o_lif_eq X d (fun q => o_iconst 0 X d3 rfl ?_) (fun q => o_iconst 1 X d1 rfl (o_goto X d2 ?_))
  · simpa only [q, if_true, if_false] using g
  · simpa only [q, if_true, if_false] using g
theorem o_bool_icmp_ne (X : St K Z own b mx ret rm n0 k j T h) {x y : Int32} {o o2 : Int} {pc2 pc3 pj : Nat} (d : Brn b pc (.if_icmp .ne o) o pc' tg) (d1 : Isn b pc' (.iconst 1) 1 pc2) (d2 : Brn b pc2 (.goto o2) o2 pc3 pj) (d3 : Isn b tg (.iconst 0) 1 pj) (g : Go K n0 kc kj Q T pj Ls (.int (if x = y then 1 else 0) :: rest)) : Go K n0 kc kj Q T pc Ls (.int y :: .int x :: rest) := by
  refine o_icmp_ne X d (fun q => o_iconst 0 X d3 rfl ?_) (fun q => o_iconst 1 X d1 rfl (o_goto X d2 ?_))
  · simpa only [q, if_true, if_false] using g
  · simpa only [q, if_true, if_false] using g
theorem o_bool_if_ne (X : St K Z own b mx ret rm n0 k j T h) {x : Int32} {o o2 : Int} {pc2 pc3 pj : Nat} (d : Brn b pc (.ifCond .ne o) o pc' tg) (d1 : Isn b pc' (.iconst 1) 1 pc2) (d2 : Brn b pc2 (.goto o2) o2 pc3 pj) (d3 : Isn b tg (.iconst 0) 1 pj) (g : Go K n0 kc kj Q T pj Ls (.int (if x = 0 then 1 else 0) :: rest)) : Go K n0 kc kj Q T pc Ls (.int x :: rest) := by
  refine o_if_ne X d (fun q => o_iconst 0 X d3 rfl ?_) (fun q => o_iconst 1 X d1 rfl (o_goto X d2 ?_))
  · simpa only [q, if_true, if_false] using g
  · simpa only [q, if_true, if_false] using g
theorem o_bool_lif_ne (X : St K Z own b mx ret rm n0 k j T h) {x y : Int64} {o o2 : Int} {pc2 pc3 pj : Nat} (d : Brn b pc (.ifCond .ne o) o pc' tg) (d1 : Isn b pc' (.iconst 1) 1 pc2) (d2 : Brn b pc2 (.goto o2) o2 pc3 pj) (d3 : Isn b tg (.iconst 0) 1 pj) (g : Go K n0 kc kj Q T pj Ls (.int (if x = y then 1 else 0) :: rest)) : Go K n0 kc kj Q T pc Ls (.int (XT.cmpL x y) :: rest) := by
  refine o_lif_ne X d (fun q => o_iconst 0 X d3 rfl ?_) (fun q => o_iconst 1 X d1 rfl (o_goto X d2 ?_))
  · simpa only [q, if_true, if_false] using g
  · simpa only [q, if_true, if_false] using g
theorem o_bool_icmp_lt (X : St K Z own b mx ret rm n0 k j T h) {x y : Int32} {o o2 : Int} {pc2 pc3 pj : Nat} (d : Brn b pc (.if_icmp .lt o) o pc' tg) (d1 : Isn b pc' (.iconst 1) 1 pc2) (d2 : Brn b pc2 (.goto o2) o2 pc3 pj) (d3 : Isn b tg (.iconst 0) 1 pj) (g : Go K n0 kc kj Q T pj Ls (.int (if x < y then 0 else 1) :: rest)) : Go K n0 kc kj Q T pc Ls (.int y :: .int x :: rest) := by
  refine o_icmp_lt X d (fun q => o_iconst 0 X d3 rfl ?_) (fun q => o_iconst 1 X d1 rfl (o_goto X d2 ?_))
  · simpa only [q, if_true, if_false] using g
  · simpa only [q, if_true, if_false] using g
theorem o_bool_if_lt (X : St K Z own b mx ret rm n0 k j T h) {x : Int32} {o o2 : Int} {pc2 pc3 pj : Nat} (d : Brn b pc (.ifCond .lt o) o pc' tg) (d1 : Isn b pc' (.iconst 1) 1 pc2) (d2 : Brn b pc2 (.goto o2) o2 pc3 pj) (d3 : Isn b tg (.iconst 0) 1 pj) (g : Go K n0 kc kj Q T pj Ls (.int (if x < 0 then 0 else 1) :: rest)) : Go K n0 kc kj Q T pc Ls (.int x :: rest) := by
  refine o_if_lt X d (fun q => o_iconst 0 X d3 rfl ?_) (fun q => o_iconst 1 X d1 rfl (o_goto X d2 ?_))
  · simpa only [q, if_true, if_false] using g
  · simpa only [q, if_true, if_false] using g
theorem o_bool_lif_lt (X : St K Z own b mx ret rm n0 k j T h) {x y : Int64} {o o2 : Int} {pc2 pc3 pj : Nat} (d : Brn b pc (.ifCond .lt o) o pc' tg) (d1 : Isn b pc' (.iconst 1) 1 pc2) (d2 : Brn b pc2 (.goto o2) o2 pc3 pj) (d3 : Isn b tg (.iconst 0) 1 pj) (g : Go K n0 kc kj Q T pj Ls (.int (if x < y then 0 else 1) :: rest)) : Go K n0 kc kj Q T pc Ls (.int (XT.cmpL x y) :: rest) := by
  refine o_lif_lt X d (fun q => o_iconst 0 X d3 rfl ?_) (fun q => o_iconst 1 X d1 rfl (o_goto X d2 ?_))
  · simpa only [q, if_true, if_false] using g
  · simpa only [q, if_true, if_false] using g
theorem o_bool_icmp_ge (X : St K Z own b mx ret rm n0 k j T h) {x y : Int32} {o o2 : Int} {pc2 pc3 pj : Nat} (d : Brn b pc (.if_icmp .ge o) o pc' tg) (d1 : Isn b pc' (.iconst 1) 1 pc2) (d2 : Brn b pc2 (.goto o2) o2 pc3 pj) (d3 : Isn b tg (.iconst 0) 1 pj) (g : Go K n0 kc kj Q T pj Ls (.int (if x < y then 1 else 0) :: rest)) : Go K n0 kc kj Q T pc Ls (.int y :: .int x :: rest) := by
  refine o_icmp_ge X d (fun q => o_iconst 0 X d3 rfl ?_) (fun q => o_iconst 1 X d1 rfl (o_goto X d2 ?_))
  · simpa only [q, if_true, if_false] using g
  · simpa only [q, if_true, if_false] using g
theorem o_bool_if_ge (X : St K Z own b mx ret rm n0 k j T h) {x : Int32} {o o2 : Int} {pc2 pc3 pj : Nat} (d : Brn b pc (.ifCond .ge o) o pc' tg) (d1 : Isn b pc' (.iconst 1) 1 pc2) (d2 : Brn b pc2 (.goto o2) o2 pc3 pj) (d3 : Isn b tg (.iconst 0) 1 pj) (g : Go K n0 kc kj Q T pj Ls (.int (if x < 0 then 1 else 0) :: rest)) : Go K n0 kc kj Q T pc Ls (.int x :: rest) := by
  refine o_if_ge X d (fun q => o_iconst 0 X d3 rfl ?_) (fun q => o_iconst 1 X d1 rfl (o_goto X d2 ?_))
  · simpa only [q, if_true, if_false] using g
  · simpa only [q, if_true, if_false] using g
theorem o_bool_lif_ge (X : St K Z own b mx ret rm n0 k j T h) {x y : Int64} {o o2 : Int} {pc2 pc3 pj : Nat} (d : Brn b pc (.ifCond .ge o) o pc' tg) (d1 : Isn b pc' (.iconst 1) 1 pc2) (d2 : Brn b pc2 (.goto o2) o2 pc3 pj) (d3 : Isn b tg (.iconst 0) 1 pj) (g : Go K n0 kc kj Q T pj Ls (.int (if x < y then 1 else 0) :: rest)) : Go K n0 kc kj Q T pc Ls (.int (XT.cmpL x y) :: rest) := by
  refine o_lif_ge X d (fun q => o_iconst 0 X d3 rfl ?_) (fun q => o_iconst 1 X d1 rfl (o_goto X d2 ?_))
  · simpa only [q, if_true, if_false] using g
  · simpa only [q, if_true, if_false] using g
theorem o_bool_icmp_gt (X : St K Z own b mx ret rm n0 k j T h) {x y : Int32} {o o2 : Int} {pc2 pc3 pj : Nat} (d : Brn b pc (.if_icmp .gt o) o pc' tg) (d1 : Isn b pc' (.iconst 1) 1 pc2) (d2 : Brn b pc2 (.goto o2) o2 pc3 pj) (d3 : Isn b tg (.iconst 0) 1 pj) (g : Go K n0 kc kj Q T pj Ls (.int (if y < x then 0 else 1) :: rest)) : Go K n0 kc kj Q T pc Ls (.int y :: .int x :: rest) := by
  refine o_icmp_gt X d (fun q => o_iconst 0 X d3 rfl ?_) (fun q => o_iconst 1 X d1 rfl (o_goto X d2 ?_))
  · simpa only [q, if_true, if_false] using g
  · simpa only [q, if_true, if_false] using g
theorem o_bool_if_gt (X : St K Z own b mx ret rm n0 k j T h) {x : Int32} {o o2 : Int} {pc2 pc3 pj : Nat} (d : Brn b pc (.ifCond .gt o) o pc' tg) (d1 : Isn b pc' (.iconst 1) 1 pc2) (d2 : Brn b pc2 (.goto o2) o2 pc3 pj) (d3 : Isn b tg (.iconst 0) 1 pj) (g : Go K n0 kc kj Q T pj Ls (.int (if 0 < x then 0 else 1) :: rest)) : Go K n0 kc kj Q T pc Ls (.int x :: rest) := by
  refine o_if_gt X d (fun q => o_iconst 0 X d3 rfl ?_) (fun q => o_iconst 1 X d1 rfl (o_goto X d2 ?_))
  · simpa only [q, if_true, if_false] using g
  · simpa only [q, if_true, if_false] using g
theorem o_bool_lif_gt (X : St K Z own b mx ret rm n0 k j T h) {x y : Int64} {o o2 : Int} {pc2 pc3 pj : Nat} (d : Brn b pc (.ifCond .gt o) o pc' tg) (d1 : Isn b pc' (.iconst 1) 1 pc2) (d2 : Brn b pc2 (.goto o2) o2 pc3 pj) (d3 : Isn b tg (.iconst 0) 1 pj) (g : Go K n0 kc kj Q T pj Ls (.int (if y < x then 0 else 1) :: rest)) : Go K n0 kc kj Q T pc Ls (.int (XT.cmpL x y) :: rest) := by
  refine o_lif_gt X d (fun q => o_iconst 0 X d3 rfl ?_) (fun q => o_iconst 1 X d1 rfl (o_goto X d2 ?_))
  · simpa only [q, if_true, if_false] using g
  · simpa only [q, if_true, if_false] using g
theorem o_bool_icmp_le (X : St K Z own b mx ret rm n0 k j T h) {x y : Int32} {o o2 : Int} {pc2 pc3 pj : Nat} (d : Brn b pc (.if_icmp .le o) o pc' tg) (d1 : Isn b pc' (.iconst 1) 1 pc2) (d2 : Brn b pc2 (.goto o2) o2 pc3 pj) (d3 : Isn b tg (.iconst 0) 1 pj) (g : Go K n0 kc kj Q T pj Ls (.int (if y < x then 1 else 0) :: rest)) : Go K n0 kc kj Q T pc Ls (.int y :: .int x :: rest) := by
  refine o_icmp_le X d (fun q => o_iconst 0 X d3 rfl ?_) (fun q => o_iconst 1 X d1 rfl (o_goto X d2 ?_))
  · simpa only [q, if_true, if_false] using g
  · simpa only [q, if_true, if_false] using g
theorem o_bool_if_le (X : St K Z own b mx ret rm n0 k j T h) {x : Int32} {o o2 : Int} {pc2 pc3 pj : Nat} (d : Brn b pc (.ifCond .le o) o pc' tg) (d1 : Isn b pc' (.iconst 1) 1 pc2) (d2 : Brn b pc2 (.goto o2) o2 pc3 pj) (d3 : Isn b tg (.iconst 0) 1 pj) (g : Go K n0 kc kj Q T pj Ls (.int (if 0 < x then 1 else 0) :: rest)) : Go K n0 kc kj Q T pc Ls (.int x :: rest) := by
  refine o_if_le X d (fun q => o_iconst 0 X d3 rfl ?_) (fun q => o_iconst 1 X d1 rfl (o_goto X d2 ?_))
  · simpa only [q, if_true, if_false] using g
  · simpa only [q, if_true, if_false] using g
theorem o_bool_lif_le (X : St K Z own b mx ret rm n0 k j T h) {x y : Int64} {o o2 : Int} {pc2 pc3 pj : Nat} (d : Brn b pc (.ifCond .le o) o pc' tg) (d1 : Isn b pc' (.iconst 1) 1 pc2) (d2 : Brn b pc2 (.goto o2) o2 pc3 pj) (d3 : Isn b tg (.iconst 0) 1 pj) (g : Go K n0 kc kj Q T pj Ls (.int (if y < x then 1 else 0) :: rest)) : Go K n0 kc kj Q T pc Ls (.int (XT.cmpL x y) :: rest) := by
  refine o_lif_le X d (fun q => o_iconst 0 X d3 rfl ?_) (fun q => o_iconst 1 X d1 rfl (o_goto X d2 ?_))
  · simpa only [q, if_true, if_false] using g
  · simpa only [q, if_true, if_false] using g
theorem o_ifnonnull_r (X : St K Z own b mx ret rm n0 k j T h) {a : Addr} {o : Int} (d : Brn b pc (.ifnonnull o) o pc' tg) (g : Go K n0 kc kj Q T tg Ls (rest)) : Go K n0 kc kj Q T pc Ls (.ref a :: rest) := by
  obtain ⟨d, rfl, h1, h2⟩ := d; exact o_go (fun t k => XT.ifnonnullYes X.here X.ex rfl rfl (X.dec d) rfl h1 h2 k) g
theorem o_ifnonnull_0 (X : St K Z own b mx ret rm n0 k j T h) {o : Int} (d : Brn b pc (.ifnonnull o) o pc' tg) (g : Go K n0 kc kj Q T pc' Ls (rest)) : Go K n0 kc kj Q T pc Ls (.null :: rest) := by
  obtain ⟨d, rfl, h1, h2⟩ := d; exact o_go (fun t k => XT.ifnonnullNo X.here X.ex rfl (X.dec d) rfl k) g
theorem o_ifnull_r (X : St K Z own b mx ret rm n0 k j T h) {a : Addr} {o : Int} (d : Brn b pc (.ifnull o) o pc' tg) (g : Go K n0 kc kj Q T pc' Ls (rest)) : Go K n0 kc kj Q T pc Ls (.ref a :: rest) := by
  obtain ⟨d, rfl, h1, h2⟩ := d; exact o_go (fun t k => XS.ifnullNo X.here X.ex rfl (X.dec d) rfl k) g
theorem o_ifnull_0 (X : St K Z own b mx ret rm n0 k j T h) {o : Int} (d : Brn b pc (.ifnull o) o pc' tg) (g : Go K n0 kc kj Q T tg Ls (rest)) : Go K n0 kc kj Q T pc Ls (.null :: rest) := by
  obtain ⟨d, rfl, h1, h2⟩ := d; exact o_go (fun t k => XS.ifnullYes X.here X.ex rfl rfl (X.dec d) rfl h1 h2 k) g
theorem o_leave (X : St K Z own b mx ret rm n0 k j T h) {v : Option Value} (hv : ret = none → v = none) (hk : k ≤ kc) (hj : j ≤ kj) (q : Q v h)
    (f : ∀ fs, (∀ (f : JFrame) (acts : List Action), f.method = K.m → f.locked = none → f.entered = [] → (doReturn K.e (T.setTop f) acts v).1 = T.setFrames fs) → Steps K.p.tables K.e K.below (T.setTop (mkF K.m pc Ls st)) (T.setFrames fs)) : Go K n0 kc kj Q T pc Ls (st) := by
  obtain ⟨locs, S, N⟩ := X.sd
  obtain ⟨fs, hr, hrun, hended, hW, hsame⟩ := S.leave (v := v) (fun q => hv (X.rt.symm.trans q)) X.nl
  have e : (T.setFrames fs).heap = h := X.hp
  exact ⟨_, _, f fs hr, hrun, hended, v, locs, rfl, ⟨e ▸ q, N⟩, ⟨v, rfl⟩, hW, hsame.mono hk hj⟩
theorem o_retI (X : St K Z own b mx (some .int) rm n0 k j T h) {z : Int32} (d : Isn b pc .ireturn 1 pc') (hk : k ≤ kc) (hj : j ≤ kj) (q : Q (some (.int z)) h) : Go K n0 kc kj Q T pc Ls (.int z :: rest) := by
  obtain ⟨_, S, _⟩ := X.sd
  exact o_leave X (fun q => nomatch q) hk hj q fun fs hr => retOut S X.ex X.rt rfl (Or.inl ⟨rfl, Or.inl rfl, z, rfl⟩) (X.dec d.1) hr
theorem o_retL (X : St K Z own b mx (some .long) rm n0 k j T h) {z : Int64} (d : Isn b pc .lreturn 1 pc') (hk : k ≤ kc) (hj : j ≤ kj) (q : Q (some (.long z)) h) : Go K n0 kc kj Q T pc Ls (.long z :: rest) := by
  obtain ⟨_, S, _⟩ := X.sd
  exact o_leave X (fun q => nomatch q) hk hj q fun fs hr => retOut S X.ex X.rt rfl (Or.inr (Or.inl ⟨rfl, rfl, z, rfl⟩)) (X.dec d.1) hr
theorem o_retA {t : FieldType} (X : St K Z own b mx (some t) rm n0 k j T h) {z : Value} (ht : t.isReference = true) (hn : narrow t z = z) (hz : z.isRef = true) (d : Isn b pc .areturn 1 pc') (hk : k ≤ kc) (hj : j ≤ kj) (q : Q (some z) h) : Go K n0 kc kj Q T pc Ls (z :: rest) := by
  obtain ⟨_, S, _⟩ := X.sd
  exact o_leave X (fun q => nomatch q) hk hj q fun fs hr => retOut S X.ex X.rt hn (Or.inr (Or.inr (Or.inr (Or.inr ⟨rfl, ht, hz⟩)))) (X.dec d.1) hr
theorem o_retN {t : FieldType} (X : St K Z own b mx (some t) rm n0 k j T h) {z : Int32} (ht : t = .boolean ∨ t = .byte ∨ t = .char ∨ t = .short) (d : Isn b pc .ireturn 1 pc') (hk : k ≤ kc) (hj : j ≤ kj) (q : Q (some (.int (nar t z))) h) : Go K n0 kc kj Q T pc Ls (.int z :: rest) := by
  obtain ⟨_, S, _⟩ := X.sd
  exact o_leave X (fun q => nomatch q) hk hj q fun fs hr => retN S X.ex X.rt ht (X.dec d.1) hr
theorem o_retZ (X : St K Z own b mx (some .boolean) rm n0 k j T h) {z : Int32} (d : Isn b pc .ireturn 1 pc') (hk : k ≤ kc) (hj : j ≤ kj) (q : Q (some (.int (z &&& 1))) h) : Go K n0 kc kj Q T pc Ls (.int z :: rest) := o_retN X (Or.inl rfl) d hk hj q
theorem o_ret0 (X : St K Z own b mx none rm n0 k j T h) (d : Isn b pc .return_ 1 pc') (hk : k ≤ kc) (hj : j ≤ kj) (q : Q none h) : Go K n0 kc kj Q T pc Ls ([]) := by
  obtain ⟨_, S, _⟩ := X.sd
  exact o_leave X (fun _ => rfl) hk hj q fun fs hr => S.returnOut X.ex X.rt (X.dec d.1) hr
theorem CtrW.intro {l : Launch} {y : MethodName} {ws : List Jvm.Cond} {as' : List Value} (pn : plainFor y = true) (ho : y.cls = own) (Ls : Array Slot) (hE : Jvm.Sym.laidSlots as' ++ List.replicate (mx - (Jvm.Sym.laidSlots as').length) .unset = Ls.toList)
    (body : ∀ (K : Cx) (T : State), K.meth.name = y.name → K.l = l → St K Z own b mx ret rm n0 0 0 T h → Go K n0 kc kj Q T 0 Ls []) : CtrW l Z y b mx ret ws rm kc kj as' h n0 Q := by
  refine MetFree.of_bodySF pn hisR ?_
  intro p e s m args below meth c s₁ Bd hml0 hP hK
  obtain ⟨rfl, hZ, hh⟩ := hP
  subst ho
  have X0 : Stand p l e rm s m as'.toArray below meth c s₁ [] 0 0 := Stand.of_body Bd
  have e0 : s₁.heap = h := by rw [← hh, Bd.state]; rfl
  obtain ⟨t, o, h1, h2, h3, h4⟩ := body (p, l, e, rm, s, m, as'.toArray, below, meth, c) s₁ (name_of_methodNamed Bd.named Bd.method).1 rfl ⟨Bd.exec, hZ, findClass_of_methodNamed Bd.named, Bd.bytes, hml0, Bd.returns, Bd.notSynchronized, rfl, e0, [], X0, Fr.nil n0⟩
  exact ⟨t, o, (XT.entry hE).trans h1, h2, h3, h4⟩
theorem o_callS (X : St K Z own b mx ret rm n0 k j T h) (W : Nat) {i : Nat} {y : MethodName} {by' : ByteArray} {my : Nat} {ry : Option FieldType} {rmy : Room} {as' : List Value} {Qy : Option Value → Heap → Prop} (d : Isn b pc (.invokestatic i) 3 pc')
    (w1 : (Jvm.Cond.methodLink own i y).before a0 Z = true) (w2 : (Jvm.Cond.static y).before a0 Z = true) (w3 : (Jvm.Cond.initialized y.cls).before a0 Z = true) (w4 : (Jvm.Cond.code y by' my ry).before a0 Z = true)
    (hy : y.cls ≠ "java/lang/invoke/MethodHandle" ∧ y.cls ≠ "java/lang/invoke/VarHandle") (C : Ctr K.l Z y by' my ry rmy as' h n0 Qy) (hn : ∀ sig, parseMethodDescriptor y.desc = some sig → as'.length = sig.parameters.length)
    (hs : st = as'.reverse ++ rest) (hsz : Ls.size = mx) (hW : (rest.map fun v => v.category).sum ≤ W) (hr : rmy.frames + 1 ≤ rm.frames ∧ W + (my + 11) + rmy.locals ≤ rm.locals ∧ k + rmy.cells ≤ rm.cells ∧ j + rmy.slots ≤ rm.slots)
    (g : ∀ T' h' v, Qy v h' → St K Z own b mx ret rm n0 (k + rmy.cells) (j + rmy.slots) T' h' → Go K n0 kc kj Q T' pc' Ls (v.toList ++ rest)) : Go K n0 kc kj Q T pc Ls (st) := by
  obtain ⟨d, rfl⟩ := d; obtain ⟨locs, S, N⟩ := X.sd; have hR := X.rmE
  obtain ⟨v, _, ⟨T', L', k', j'⟩, -, S', ⟨Lc, ⟨hQ, NL⟩, l1, l2, l3⟩, st'⟩ := Jvm.LawKit.callS S X.ex (y := y) X.ow (mvT X.wZ w1) (mvT X.wZ w2) (mvT X.wZ w3) (mvT X.wZ w4) hy (backOf (W := W) (Q := fun v h L => Qy v h ∧ Fr n0 L) C X.wZ w4 w3 (by rw [hR]; exact hr.1) (by rw [hR]; exact hr.2.1)) (g := mkF K.m pc Ls st) rfl (hsz.trans X.ml.symm) (argsL := as') (rest := rest) hn hs (by show 2 * 0 + _ ≤ _; omega) (X.dec d) (fun _ _ => ⟨rfl, X.hp, by rw [hR]; exact hr.2.2.1, by rw [hR]; exact hr.2.2.2⟩)
  dsimp only [Pt.U, Pt.locs, Pt.cells, Pt.slots] at S' l1 l2 l3 st' hQ
  subst l1 l2 l3
  exact o_go (fun t k => st' t k) (g T' T'.heap v hQ (X.mk' S' (Fr.app N NL) rfl))
theorem o_callV (X : St K Z own b mx ret rm n0 k j T h) (W : Nat) {i : Nat} {y z : MethodName} {C' : String} {by' : ByteArray} {my : Nat} {ry : Option FieldType} {rmy : Room} {a : Addr} {as' : List Value} {Qy : Option Value → Heap → Prop} (d : Isn b pc (.invokevirtual i) 3 pc')
    (w1 : (Jvm.Cond.methodLink own i y).before a0 Z = true) (w2 : (Jvm.Cond.declares y).before a0 Z = true) (w3 : (Jvm.Cond.selects y.cls y y).before a0 Z = true) (w5 : (Jvm.Cond.selects C' y z).before a0 Z = true) (w6 : (Jvm.Cond.instanceMethod z).before a0 Z = true)
    (hy : y.cls ≠ "java/lang/invoke/MethodHandle" ∧ y.cls ≠ "java/lang/invoke/VarHandle") (w4 : (Jvm.Cond.code z by' my ry).before a0 Z = true) (w7 : (Jvm.Cond.initialized z.cls).before a0 Z = true) (C : Ctr K.l Z z by' my ry rmy (.ref a :: as') h n0 Qy) (E : Exa Z h a C') (hn : ∀ sig, parseMethodDescriptor y.desc = some sig → as'.length = sig.parameters.length)
    (hs : st = as'.reverse ++ .ref a :: rest) (hsz : Ls.size = mx) (hW : (rest.map fun v => v.category).sum ≤ W) (hr : rmy.frames + 1 ≤ rm.frames ∧ W + (my + 11) + rmy.locals ≤ rm.locals ∧ k + rmy.cells ≤ rm.cells ∧ j + rmy.slots ≤ rm.slots)
    (g : ∀ T' h' v, Qy v h' → St K Z own b mx ret rm n0 (k + rmy.cells) (j + rmy.slots) T' h' → Go K n0 kc kj Q T' pc' Ls (v.toList ++ rest)) : Go K n0 kc kj Q T pc Ls (st) := by
  obtain ⟨d, rfl⟩ := d; obtain ⟨locs, S, N⟩ := X.sd; have hR := X.rmE
  obtain ⟨cq, kq, q1, q2, q3⟩ := isOf (s := K.s) X.wZ X.hp E
  obtain ⟨v, _, ⟨T', L', k', j'⟩, -, S', ⟨Lc, ⟨hQ, NL⟩, l1, l2, l3⟩, st'⟩ := S.virtualBack X.ex (y := y) (z := z) X.ow (mvT X.wZ w1) (mvT X.wZ w2) (notFace_of_selects (args := #[]) (mvT X.wZ w3)) (mvT X.wZ w5) (mvT X.wZ w6) hy (backOf (W := W) (Q := fun v h L => Qy v h ∧ Fr n0 L) C X.wZ w4 w7 (by rw [hR]; exact hr.1) (by rw [hR]; exact hr.2.1)) q1 q3 (g := mkF K.m pc Ls st) rfl (hsz.trans X.ml.symm) (Steps.refl _) (argsL := as') (rest := rest) hn hs (by show 2 * 0 + _ ≤ _; omega) (X.dec d) (fun _ _ => ⟨rfl, X.hp, by rw [hR]; exact hr.2.2.1, by rw [hR]; exact hr.2.2.2⟩)
  dsimp only [Pt.U, Pt.locs, Pt.cells, Pt.slots] at S' l1 l2 l3 st' hQ
  subst l1 l2 l3
  exact o_go (fun t k => st'.trans k) (g T' T'.heap v hQ (X.mk' S' (Fr.app N NL) rfl))
theorem o_callN (X : St K Z own b mx ret rm n0 k j T h) (W : Nat) {i : Nat} {y : MethodName} {by' : ByteArray} {my : Nat} {rmy : Room} {a : Addr} {as' : List Value} {Qy : Option Value → Heap → Prop} (d : Isn b pc (.invokespecial i) 3 pc') (hy1 : y.name = "<init>")
    (w1 : (Jvm.Cond.methodLink own i y).before a0 Z = true) (w2 : (Jvm.Cond.instanceMethod y).before a0 Z = true) (w4 : (Jvm.Cond.code y by' my none).before a0 Z = true) (w3 : (Jvm.Cond.initialized y.cls).before a0 Z = true)
    (hy : y.cls ≠ "java/lang/invoke/MethodHandle" ∧ y.cls ≠ "java/lang/invoke/VarHandle") (C : Ctr K.l Z y by' my none rmy (.ref a :: as') h n0 Qy) (hn : ∀ sig, parseMethodDescriptor y.desc = some sig → as'.length = sig.parameters.length)
    (hs : st = as'.reverse ++ .ref a :: rest) (hsz : Ls.size = mx) (hW : (rest.map fun v => v.category).sum ≤ W) (hr : rmy.frames + 1 ≤ rm.frames ∧ W + (my + 11) + rmy.locals ≤ rm.locals ∧ k + rmy.cells ≤ rm.cells ∧ j + rmy.slots ≤ rm.slots)
    (g : ∀ T' h' v, Qy v h' → St K Z own b mx ret rm n0 (k + rmy.cells) (j + rmy.slots) T' h' → Go K n0 kc kj Q T' pc' Ls (v.toList ++ rest)) : Go K n0 kc kj Q T pc Ls (st) := by
  obtain ⟨d, rfl⟩ := d; obtain ⟨locs, S, N⟩ := X.sd; have hR := X.rmE
  obtain ⟨v, _, ⟨T', L', k', j'⟩, -, S', ⟨Lc, ⟨hQ, NL⟩, l1, l2, l3⟩, st'⟩ := S.specialBack X.ex (y := y) hy1 X.ow (mvT X.wZ w1) (mvT X.wZ w2) (mvT X.wZ w4) hy (backOf (W := W) (Q := fun v h L => Qy v h ∧ Fr n0 L) C X.wZ w4 w3 (by rw [hR]; exact hr.1) (by rw [hR]; exact hr.2.1)) (g := mkF K.m pc Ls st) rfl (hsz.trans X.ml.symm) (Steps.refl _) (a := a) (argsL := as') (rest := rest) hn hs (by show 2 * 0 + _ ≤ _; omega) (X.dec d) (fun _ _ => ⟨rfl, X.hp, by rw [hR]; exact hr.2.2.1, by rw [hR]; exact hr.2.2.2⟩)
  dsimp only [Pt.U, Pt.locs, Pt.cells, Pt.slots] at S' l1 l2 l3 st' hQ
  subst l1 l2 l3
  exact o_go (fun t k => st'.trans k) (g T' T'.heap v hQ (X.mk' S' (Fr.app N NL) rfl))
theorem o_initO (X : St K Z own b mx ret rm n0 k j T h) (W : Nat) {i : Nat} {a : Addr} (d : Isn b pc (.invokespecial i) 3 pc') (w1 : (Jvm.Cond.methodLink own i Lib.objectInit).before a0 Z = true) (w2 : (Jvm.Cond.instanceMethod Lib.objectInit).before a0 Z = true) (w3 : (Jvm.Cond.code Lib.objectInit ⟨#[0xb1]⟩ 1 none).before a0 Z = true)
    (hsz : Ls.size = mx) (hW : (rest.map fun v => v.category).sum ≤ W) (hr : 1 ≤ rm.frames ∧ W + 12 ≤ rm.locals) (g : ∀ T', St K Z own b mx ret rm n0 k j T' h → Go K n0 kc kj Q T' pc' Ls (rest)) : Go K n0 kc kj Q T pc Ls (.ref a :: rest) := by
  obtain ⟨d, rfl⟩ := d; obtain ⟨locs, S, N⟩ := X.sd; have hR := X.rmE
  obtain ⟨T', S', e', st'⟩ := initO S X.ex X.wZ X.ow w1 w2 w3 X.hp (g := mkF K.m pc Ls (.ref a :: rest)) rfl (hsz.trans X.ml.symm) rfl (X.dec d) (by rw [hR]; exact hr.1) (W := W) (by show 2 * 0 + _ ≤ _; omega) (by rw [hR]; exact hr.2)
  exact o_go (fun t k => st' t k) (g T' (X.mk' S' N e'))
theorem o_getF (X : St K Z own b mx ret rm n0 k j T h) {i : Nat} {O n dd : String} {a : Addr} {v : Value} (d : Isn b pc (.getfield i) 3 pc') (wd : (Jvm.Cond.fieldLink own i O n dd).before a0 Z = true) (F : Fld Z h a O n dd v)
    (g : ∀ T', St K Z own b mx ret rm n0 k j T' h → Go K n0 kc kj Q T' pc' Ls (v :: rest)) : Go K n0 kc kj Q T pc Ls (.ref a :: rest) := by
  obtain ⟨d, rfl⟩ := d; obtain ⟨locs, S, N⟩ := X.sd
  obtain ⟨T', S', e', st'⟩ := getF S X.ex X.wZ X.ow (host := "") (Or.inl wd) Via.refl X.hp F (g := mkF K.m pc Ls (.ref a :: rest)) rfl rfl (X.dec d)
  exact o_go (fun t k => st' t k) (g T' (X.mk' S' N e'))
theorem o_putF (X : St K Z own b mx ret rm n0 k j T h) {i kk : Nat} {O n dd C' : String} {ty : FieldType} {a : Addr} {v ov : Value} (d : Isn b pc (.putfield i) 3 pc') (wd : (Jvm.Cond.fieldLink own i O n dd).before a0 Z = true) (F : Fld Z h a O n dd ov) (E : Exa Z h a C')
    (Lf : (Jvm.Cond.lays C' O n dd).before a0 Z = true ∨ ((Jvm.Cond.laysFinal C' O n dd).before a0 Z = true ∧ own = O ∧ K.meth.name = "<init>")) (wi : (Jvm.Cond.instantiable C' kk).before a0 Z = true) (hty : parseFieldDescriptor dd = some ty) (hn : narrow ty v = v) (hf : fits ty v = true) (ha : n0 ≤ a)
    (g : ∀ T' h', St K Z own b mx ret rm n0 k j T' h' → Wr h h' a (Jvm.RoadKit.slotOf Z O n dd) v → Go K n0 kc kj Q T' pc' Ls (rest)) : Go K n0 kc kj Q T pc Ls (v :: .ref a :: rest) := by
  obtain ⟨d, rfl⟩ := d; obtain ⟨locs, S, N⟩ := X.sd
  obtain ⟨T', h', S', e', W', st'⟩ := putF S X.ex X.wZ X.ow (host := "") (Or.inl wd) Via.refl X.hp F E Lf wi hty hn hf (g := mkF K.m pc Ls (v :: .ref a :: rest)) rfl rfl (X.dec d)
  exact o_go (fun t k => st' t k) (g T' h' (X.mk' S' (Fr.snoc S' N ha) e') W')
theorem o_new (X : St K Z own b mx ret rm n0 k j T h) {i nn : Nat} {C' : String} (d : Isn b pc (.new i) 3 pc') (w1 : (Jvm.Cond.classLink own i C').before a0 Z = true) (w2 : (Jvm.Cond.instantiable C' nn).before a0 Z = true) (w3 : (Jvm.Cond.initialized C').before a0 Z = true) (hr : k + 1 ≤ rm.cells ∧ j + nn ≤ rm.slots)
    (g : ∀ T' h' a, a = h.size → St K Z own b mx ret rm n0 (k + 1) (j + nn) T' h' → Ext h h' → Exa Z h' a C' → (∀ {O nm dd : String} {ty : FieldType}, Laid Z a0 C' O nm dd → parseFieldDescriptor dd = some ty → Fld Z h' a O nm dd (defaultValue ty)) → Go K n0 kc kj Q T' pc' Ls (.ref a :: st)) : Go K n0 kc kj Q T pc Ls (st) := by
  obtain ⟨d, rfl⟩ := d; obtain ⟨locs, S, N⟩ := X.sd; have hR := X.rmE
  obtain ⟨T', h', S', e', E', A', D', -, st'⟩ := newO S X.ex X.wZ X.ow w1 w2 w3 X.hp (g := mkF K.m pc Ls st) rfl (X.dec d) (by rw [hR]; exact hr.1) (by rw [hR]; exact hr.2)
  exact o_go (fun t k => st' t k) (g T' h' h.size rfl (X.mk' S' N e') E' A' D')
/-- an array, by all its values -/
def AL (Z : State) (h : Heap) (a : Addr) (ty : FieldType) (vs : List Value) : Prop := ∃ c : Cell, Arr Z h a c ty ∧ c.slots = vs.toArray ∧ vs.length < 2 ^ 31
theorem AL.lt {a : Addr} {ty : FieldType} {vs : List Value} (A : AL Z h a ty vs) : a < h.size := by obtain ⟨c, q, -⟩ := A; exact q.lt
theorem AL.ext {h' : Heap} {a : Addr} {ty : FieldType} {vs : List Value} (A : AL Z h a ty vs) (E : Ext h h') : AL Z h' a ty vs := by obtain ⟨c, q, r⟩ := A; exact ⟨c, q.ext E, r⟩
theorem AL.other {h' : Heap} {a a' : Addr} {sl : Nat} {v : Value} {ty : FieldType} {vs : List Value} (A : AL Z h a ty vs) (W : Wr h h' a' sl v) (ne : a ≠ a') : AL Z h' a ty vs := by obtain ⟨c, q, r⟩ := A; exact ⟨c, q.other W ne, r⟩
theorem AL.keep {h' : Heap} {a : Addr} {ws : List Addr} {ty : FieldType} {vs : List Value} (A : AL Z h a ty vs) (Kp : Keep h h' ws) (q : a ∉ ws) : AL Z h' a ty vs := by obtain ⟨c, A1, r⟩ := A; exact ⟨c, ⟨Kp.2.1 a c A1.1 q, A1.2⟩, r⟩
theorem AL.set {h' : Heap} {a : Addr} {sl : Nat} {v : Value} {ty : FieldType} {vs : List Value} (A : AL Z h a ty vs) (W : Wr h h' a sl v) : AL Z h' a ty (vs.set sl v) := by
  obtain ⟨c, q, r, s⟩ := A
  exact ⟨_, q.same W, by simp [Cell.setSlot, r], by simpa using s⟩
theorem AL.inb {a : Addr} {ty : FieldType} {vs : List Value} {i : Int32} {c : Cell} (r : c.slots = vs.toArray) (hi : ¬ i < 0) (hl : i.toNatClampNeg < vs.length) : ¬ (i < 0 ∨ c.slots.size ≤ i.toNatClampNeg) := by
  rw [r]; rintro (q | q)
  · exact hi q
  · simp at q; omega
theorem o_arraylength (X : St K Z own b mx ret rm n0 k j T h) {a : Addr} {ty : FieldType} {vs : List Value} (n : Int32) (d : Isn b pc .arraylength 1 pc') (A : AL Z h a ty vs) (hn : vs.length.toInt32 = n) (g : Go K n0 kc kj Q T pc' Ls (.int n :: rest)) : Go K n0 kc kj Q T pc Ls (.ref a :: rest) := by
  obtain ⟨d, rfl⟩ := d; obtain ⟨locs, S, N⟩ := X.sd; obtain ⟨c, q, r, s⟩ := A
  have e : c.slots.size.toInt32 = n := by rw [r, ← hn]; simp
  exact o_go (fun t k => S.arraylength X.ex (cell := c) (by rw [X.hp]; exact q.1) (State.isArrayOf_alike X.wZ.alike q.2.1) (g := mkF K.m pc Ls (.ref a :: rest)) rfl (rest := rest) rfl (X.dec d) t (by rw [e]; exact k)) g
theorem o_iaload (X : St K Z own b mx ret rm n0 k j T h) {a : Addr} {vs : List Value} {i : Int32} {v : Int32} (d : Isn b pc .iaload 1 pc') (A : AL Z h a .int vs) (hi : ¬ i < 0) (hv : vs[i.toNatClampNeg]? = some (.int v)) (g : Go K n0 kc kj Q T pc' Ls (.int v :: rest)) : Go K n0 kc kj Q T pc Ls (.int i :: .ref a :: rest) := by
  obtain ⟨d, rfl⟩ := d; obtain ⟨locs, S, N⟩ := X.sd; obtain ⟨c, q, r, s⟩ := A
  have hl : i.toNatClampNeg < vs.length := (List.getElem?_eq_some_iff.mp hv).1
  exact o_go (fun t k => S.iaload X.ex (j := i) (v := .int v) (by rw [X.hp]; exact q.1) (State.isArrayOf_alike X.wZ.alike q.2.1) q.2.2 (AL.inb (a := a) (ty := .int) r hi hl) (by rw [r]; simpa using hv) (g := mkF K.m pc Ls (.int i :: .ref a :: rest)) rfl rfl (X.dec d) t k) g
theorem o_laload (X : St K Z own b mx ret rm n0 k j T h) {a : Addr} {vs : List Value} {i : Int32} {v : Int64} (d : Isn b pc .laload 1 pc') (A : AL Z h a .long vs) (hi : ¬ i < 0) (hv : vs[i.toNatClampNeg]? = some (.long v)) (g : Go K n0 kc kj Q T pc' Ls (.long v :: rest)) : Go K n0 kc kj Q T pc Ls (.int i :: .ref a :: rest) := by
  obtain ⟨d, rfl⟩ := d; obtain ⟨locs, S, N⟩ := X.sd; obtain ⟨c, q, r, s⟩ := A
  have hl : i.toNatClampNeg < vs.length := (List.getElem?_eq_some_iff.mp hv).1
  exact o_go (fun t k => S.laload X.ex (j := i) (v := .long v) (by rw [X.hp]; exact q.1) (State.isArrayOf_alike X.wZ.alike q.2.1) q.2.2 (AL.inb (a := a) (ty := .long) r hi hl) (by rw [r]; simpa using hv) (g := mkF K.m pc Ls (.int i :: .ref a :: rest)) rfl rfl (X.dec d) t k) g
theorem o_caload (X : St K Z own b mx ret rm n0 k j T h) {a : Addr} {vs : List Value} {i : Int32} {v : Int32} (d : Isn b pc .caload 1 pc') (A : AL Z h a .char vs) (hi : ¬ i < 0) (hv : vs[i.toNatClampNeg]? = some (.int v)) (g : Go K n0 kc kj Q T pc' Ls (.int v :: rest)) : Go K n0 kc kj Q T pc Ls (.int i :: .ref a :: rest) := by
  obtain ⟨d, rfl⟩ := d; obtain ⟨locs, S, N⟩ := X.sd; obtain ⟨c, q, r, s⟩ := A
  have hl : i.toNatClampNeg < vs.length := (List.getElem?_eq_some_iff.mp hv).1
  exact o_go (fun t k => S.caload X.ex (j := i) (v := .int v) (by rw [X.hp]; exact q.1) (State.isArrayOf_alike X.wZ.alike q.2.1) q.2.2 (AL.inb (a := a) (ty := .char) r hi hl) (by rw [r]; simpa using hv) (g := mkF K.m pc Ls (.int i :: .ref a :: rest)) rfl rfl (X.dec d) t k) g
theorem o_baload (X : St K Z own b mx ret rm n0 k j T h) {a : Addr} {vs : List Value} {i : Int32} {v : Int32} (d : Isn b pc .baload 1 pc') (A : AL Z h a .byte vs) (hi : ¬ i < 0) (hv : vs[i.toNatClampNeg]? = some (.int v)) (g : Go K n0 kc kj Q T pc' Ls (.int v :: rest)) : Go K n0 kc kj Q T pc Ls (.int i :: .ref a :: rest) := by
  obtain ⟨d, rfl⟩ := d; obtain ⟨locs, S, N⟩ := X.sd; obtain ⟨c, q, r, s⟩ := A
  have hl : i.toNatClampNeg < vs.length := (List.getElem?_eq_some_iff.mp hv).1
  exact o_go (fun t k => S.baloadBytes X.ex (j := i) (v := .int v) (by rw [X.hp]; exact q.1) (State.isArrayOf_alike X.wZ.alike q.2.1) q.2.2 (AL.inb (a := a) (ty := .byte) r hi hl) (by rw [r]; simpa using hv) (g := mkF K.m pc Ls (.int i :: .ref a :: rest)) rfl rfl (X.dec d) t k) g
theorem o_iastore (X : St K Z own b mx ret rm n0 k j T h) {a : Addr} {vs vs' : List Value} {i : Int32} {v : Int32} (d : Isn b pc .iastore 1 pc') (A : AL Z h a .int vs) (hi : ¬ i < 0) (hl : i.toNatClampNeg < vs.length) (ha : n0 ≤ a) (hv : vs.set i.toNatClampNeg (.int v) = vs')
    (g : ∀ T' h', St K Z own b mx ret rm n0 k j T' h' → Wr h h' a i.toNatClampNeg (.int v) → AL Z h' a .int vs' → Go K n0 kc kj Q T' pc' Ls (rest)) : Go K n0 kc kj Q T pc Ls (.int v :: .int i :: .ref a :: rest) := by
  obtain ⟨d, rfl⟩ := d; obtain ⟨locs, S, N⟩ := X.sd; obtain ⟨c, q, r, s⟩ := A
  obtain ⟨T', h', S', e', W', st'⟩ := stI S X.ex X.wZ X.hp q (j := i) (x := v) (AL.inb (a := a) (ty := .int) r hi hl) (g := mkF K.m pc Ls (.int v :: .int i :: .ref a :: rest)) rfl rfl (X.dec d)
  exact o_go (fun t k => st' t k) (g T' h' (X.mk' S' (Fr.snoc S' N ha) e') W' (hv ▸ AL.set ⟨c, q, r, s⟩ W'))
theorem o_lastore (X : St K Z own b mx ret rm n0 k j T h) {a : Addr} {vs vs' : List Value} {i : Int32} {v : Int64} (d : Isn b pc .lastore 1 pc') (A : AL Z h a .long vs) (hi : ¬ i < 0) (hl : i.toNatClampNeg < vs.length) (ha : n0 ≤ a) (hv : vs.set i.toNatClampNeg (.long v) = vs')
    (g : ∀ T' h', St K Z own b mx ret rm n0 k j T' h' → Wr h h' a i.toNatClampNeg (.long v) → AL Z h' a .long vs' → Go K n0 kc kj Q T' pc' Ls (rest)) : Go K n0 kc kj Q T pc Ls (.long v :: .int i :: .ref a :: rest) := by
  obtain ⟨d, rfl⟩ := d; obtain ⟨locs, S, N⟩ := X.sd; obtain ⟨c, q, r, s⟩ := A
  obtain ⟨T', h', S', e', W', st'⟩ := stJ S X.ex X.wZ X.hp q (j := i) (x := v) (AL.inb (a := a) (ty := .long) r hi hl) (g := mkF K.m pc Ls (.long v :: .int i :: .ref a :: rest)) rfl rfl (X.dec d)
  exact o_go (fun t k => st' t k) (g T' h' (X.mk' S' (Fr.snoc S' N ha) e') W' (hv ▸ AL.set ⟨c, q, r, s⟩ W'))
theorem o_castore (X : St K Z own b mx ret rm n0 k j T h) {a : Addr} {vs vs' : List Value} {i : Int32} {v : Int32} (d : Isn b pc .castore 1 pc') (A : AL Z h a .char vs) (hi : ¬ i < 0) (hl : i.toNatClampNeg < vs.length) (ha : n0 ≤ a) (hv : vs.set i.toNatClampNeg (.int (nar .char v)) = vs')
    (g : ∀ T' h', St K Z own b mx ret rm n0 k j T' h' → Wr h h' a i.toNatClampNeg (.int (nar .char v)) → AL Z h' a .char vs' → Go K n0 kc kj Q T' pc' Ls (rest)) : Go K n0 kc kj Q T pc Ls (.int v :: .int i :: .ref a :: rest) := by
  obtain ⟨d, rfl⟩ := d; obtain ⟨locs, S, N⟩ := X.sd; obtain ⟨c, q, r, s⟩ := A
  obtain ⟨T', h', S', e', W', st'⟩ := stC S X.ex X.wZ X.hp q (j := i) (x := v) (AL.inb (a := a) (ty := .char) r hi hl) (g := mkF K.m pc Ls (.int v :: .int i :: .ref a :: rest)) rfl rfl (X.dec d)
  exact o_go (fun t k => st' t k) (g T' h' (X.mk' S' (Fr.snoc S' N ha) e') W' (hv ▸ AL.set ⟨c, q, r, s⟩ W'))
theorem o_bastore (X : St K Z own b mx ret rm n0 k j T h) {a : Addr} {vs vs' : List Value} {i : Int32} {v : Int32} (d : Isn b pc .bastore 1 pc') (A : AL Z h a .byte vs) (hi : ¬ i < 0) (hl : i.toNatClampNeg < vs.length) (ha : n0 ≤ a) (hv : vs.set i.toNatClampNeg (.int (nar .byte v)) = vs')
    (g : ∀ T' h', St K Z own b mx ret rm n0 k j T' h' → Wr h h' a i.toNatClampNeg (.int (nar .byte v)) → AL Z h' a .byte vs' → Go K n0 kc kj Q T' pc' Ls (rest)) : Go K n0 kc kj Q T pc Ls (.int v :: .int i :: .ref a :: rest) := by
  obtain ⟨d, rfl⟩ := d; obtain ⟨locs, S, N⟩ := X.sd; obtain ⟨c, q, r, s⟩ := A
  obtain ⟨T', h', S', e', W', st'⟩ := stB S X.ex X.wZ X.hp q (j := i) (x := v) (AL.inb (a := a) (ty := .byte) r hi hl) (g := mkF K.m pc Ls (.int v :: .int i :: .ref a :: rest)) rfl rfl (X.dec d)
  exact o_go (fun t k => st' t k) (g T' h' (X.mk' S' (Fr.snoc S' N ha) e') W' (hv ▸ AL.set ⟨c, q, r, s⟩ W'))
theorem o_newarray (X : St K Z own b mx ret rm n0 k j T h) (cap : Nat) {aty : ArrayType} {n : Int32} {vs : List Value} (d : Isn b pc (.newarray aty) 2 pc') (wd : (Jvm.Cond.arrayClass (newarray.typeOf aty)).before a0 Z = true) (hn : ¬ n < 0) (hcap : n.toNatClampNeg ≤ cap) (hvs : List.replicate n.toNatClampNeg (defaultValue (newarray.typeOf aty)) = vs) (hr : cap * 8 ≤ 536870912 ∧ k + 1 ≤ rm.cells ∧ j + cap ≤ rm.slots)
    (g : ∀ T' h' a, a = h.size → St K Z own b mx ret rm n0 (k + 1) (j + cap) T' h' → Ext h h' → AL Z h' a (newarray.typeOf aty) vs → Go K n0 kc kj Q T' pc' Ls (.ref a :: rest)) : Go K n0 kc kj Q T pc Ls (.int n :: rest) := by
  obtain ⟨d, rfl⟩ := d; obtain ⟨locs, S, N⟩ := X.sd; have hR := X.rmE
  obtain ⟨T', h', cA, S', e', E', A', st'⟩ := newP S X.ex X.wZ wd X.hp (g := mkF K.m pc Ls (.int n :: rest)) rfl (X.dec d) rfl hn hcap hr.1 (by rw [hR]; exact hr.2.1) (by rw [hR]; exact hr.2.2)
  refine o_go (fun t k => st' t k) (g T' h' h.size rfl (X.mk' S' N e') E' ⟨_, A', ?_, ?_⟩)
  · rw [← hvs]; simp [newA]
  · rw [← hvs]; simp; have := (back32 hn).2; omega
/-- the array at a takes objects of class C -/
def AO (Z : State) (h : Heap) (a : Addr) (C : String) : Prop := ∃ c : Cell, h[a]? = some c ∧ Ovr Z c.cls C
theorem AO.ext {h' : Heap} {a : Addr} {C : String} (A : AO Z h a C) (E : Ext h h') : AO Z h' a C := by obtain ⟨c, q, r⟩ := A; exact ⟨c, E.2 _ _ q, r⟩
theorem AO.wr {h' : Heap} {a a' : Addr} {C : String} {sl : Nat} {v : Value} (A : AO Z h a C) (W : Wr h h' a' sl v) : AO Z h' a C := by
  obtain ⟨c, q, r⟩ := A; obtain ⟨c', q1, q2, -⟩ := wr_at W q; exact ⟨c', q1, by rw [q2]; exact r⟩
theorem o_anewarray (X : St K Z own b mx ret rm n0 k j T h) (cap : Nat) {i : Nat} {C' : String} {n : Int32} {vs : List Value} (d : Isn b pc (.anewarray i) 3 pc') (w1 : (Jvm.Cond.classLink own i C').before a0 Z = true) (w2 : (Jvm.Cond.arrayOver (.object C')).before a0 Z = true) (hn : ¬ n < 0) (hcap : n.toNatClampNeg ≤ cap) (hvs : List.replicate n.toNatClampNeg Value.null = vs) (hr : cap * 8 ≤ 536870912 ∧ k + 1 ≤ rm.cells ∧ j + cap ≤ rm.slots)
    (g : ∀ T' h' a, a = h.size → St K Z own b mx ret rm n0 (k + 1) (j + cap) T' h' → Ext h h' → AL Z h' a (.object C') vs → AO Z h' a C' → Go K n0 kc kj Q T' pc' Ls (.ref a :: rest)) : Go K n0 kc kj Q T pc Ls (.int n :: rest) := by
  obtain ⟨d, rfl⟩ := d; obtain ⟨locs, S, N⟩ := X.sd; have hR := X.rmE
  obtain ⟨T', h', cA, S', e', E', A', O', st'⟩ := newR S X.ex X.wZ X.ow w1 w2 X.hp (g := mkF K.m pc Ls (.int n :: rest)) rfl (X.dec d) rfl hn hcap hr.1 (by rw [hR]; exact hr.2.1) (by rw [hR]; exact hr.2.2)
  refine o_go (fun t k => st' t k) (g T' h' h.size rfl (X.mk' S' N e') E' ⟨_, A', ?_, ?_⟩ ⟨_, A'.1, O'⟩)
  · rw [← hvs]; simp [newA, defaultValue]
  · rw [← hvs]; simp; have := (back32 hn).2; omega
theorem o_aaload (X : St K Z own b mx ret rm n0 k j T h) {a : Addr} {ty : FieldType} {vs : List Value} {i : Int32} {v : Value} (hty : ty.isReference = true) (d : Isn b pc .aaload 1 pc') (A : AL Z h a ty vs) (hi : ¬ i < 0) (hv : vs[i.toNatClampNeg]? = some v) (g : Go K n0 kc kj Q T pc' Ls (v :: rest)) : Go K n0 kc kj Q T pc Ls (.int i :: .ref a :: rest) := by
  obtain ⟨d, rfl⟩ := d; obtain ⟨locs, S, N⟩ := X.sd; obtain ⟨c, q, r, s⟩ := A
  have hl : i.toNatClampNeg < vs.length := (List.getElem?_eq_some_iff.mp hv).1
  exact o_go (fun t k => S.aaload X.ex (j := i) (v := v) (by rw [X.hp]; exact q.1) (State.isArrayOf_alike X.wZ.alike q.2.1) hty q.2.2 (AL.inb (a := a) (ty := ty) r hi hl) (by rw [r]; simpa using hv) (g := mkF K.m pc Ls (.int i :: .ref a :: rest)) rfl rfl (X.dec d) t k) g
theorem o_aastore (X : St K Z own b mx ret rm n0 k j T h) {a y : Addr} {C' : String} {vs vs' : List Value} {i : Int32} (d : Isn b pc .aastore 1 pc') (A : AL Z h a (.object C') vs) (O : AO Z h a C') (I : Jvm.RoadKit.Ins Z h y C' true) (hi : ¬ i < 0) (hl : i.toNatClampNeg < vs.length) (ha : n0 ≤ a) (hv : vs.set i.toNatClampNeg (.ref y) = vs')
    (g : ∀ T' h', St K Z own b mx ret rm n0 k j T' h' → Wr h h' a i.toNatClampNeg (.ref y) → AL Z h' a (.object C') vs' → Go K n0 kc kj Q T' pc' Ls (rest)) : Go K n0 kc kj Q T pc Ls (.ref y :: .int i :: .ref a :: rest) := by
  obtain ⟨d, rfl⟩ := d; obtain ⟨locs, S, N⟩ := X.sd; obtain ⟨c, q, r, s⟩ := A
  obtain ⟨c2, q2, r2⟩ := O
  have hO : Ovr Z c.cls C' := by cases q.1.symm.trans q2; exact r2
  obtain ⟨T', h', S', e', W', st'⟩ := stR S X.ex X.wZ X.hp q (j := i) (v := .ref y) (AL.inb (a := a) (ty := .object C') r hi hl) rfl (Sto.of q hO I) (g := mkF K.m pc Ls (.ref y :: .int i :: .ref a :: rest)) rfl rfl (X.dec d)
  exact o_go (fun t k => st' t k) (g T' h' (X.mk' S' (Fr.snoc S' N ha) e') W' (hv ▸ AL.set ⟨c, q, r, s⟩ W'))
/-- an array of ints, booleans, bytes or chars, by a function of the place -/
def AN (Z : State) (h : Heap) (a : Addr) (ty : FieldType) (n : Nat) (f : Nat → Int32) : Prop := ∃ c : Cell, Arr Z h a c ty ∧ c.slots.size = n ∧ n < 2 ^ 31 ∧ ∀ i, i < n → c.slots[i]? = some (.int (f i))
theorem AN.lt {a : Addr} {ty : FieldType} {n : Nat} {f : Nat → Int32} (A : AN Z h a ty n f) : a < h.size := by obtain ⟨c, q, -⟩ := A; exact q.lt
theorem AN.ext {h' : Heap} {a : Addr} {ty : FieldType} {n : Nat} {f : Nat → Int32} (A : AN Z h a ty n f) (E : Ext h h') : AN Z h' a ty n f := by obtain ⟨c, q, r⟩ := A; exact ⟨c, q.ext E, r⟩
theorem AN.other {h' : Heap} {a a' : Addr} {sl : Nat} {v : Value} {ty : FieldType} {n : Nat} {f : Nat → Int32} (A : AN Z h a ty n f) (W : Wr h h' a' sl v) (ne : a ≠ a') : AN Z h' a ty n f := by obtain ⟨c, q, r⟩ := A; exact ⟨c, q.other W ne, r⟩
theorem AN.keep {h' : Heap} {a : Addr} {ws : List Addr} {ty : FieldType} {n : Nat} {f : Nat → Int32} (A : AN Z h a ty n f) (Kp : Keep h h' ws) (q : a ∉ ws) : AN Z h' a ty n f := by obtain ⟨c, A1, r⟩ := A; exact ⟨c, ⟨Kp.2.1 a c A1.1 q, A1.2⟩, r⟩
theorem AN.set {h' : Heap} {a : Addr} {sl : Nat} {v : Int32} {ty : FieldType} {n : Nat} {f : Nat → Int32} (A : AN Z h a ty n f) (W : Wr h h' a sl (.int v)) : AN Z h' a ty n (fun i => if i = sl then v else f i) := by
  obtain ⟨c, q, r, s, t⟩ := A
  refine ⟨_, q.same W, by simpa [Cell.setSlot] using r, s, fun i hi => ?_⟩
  have e := t i hi
  by_cases p : i = sl
  · subst p; have : i < c.slots.size := r ▸ hi
    simp [Cell.setSlot, this]
  · have p' : ¬ sl = i := fun q => p q.symm
    simp [Cell.setSlot, Array.getElem?_setIfInBounds, p, p', e]
theorem AN.inb {n : Nat} {i : Int32} {c : Cell} (r : c.slots.size = n) (hi : ¬ i < 0) (hl : i.toNatClampNeg < n) : ¬ (i < 0 ∨ c.slots.size ≤ i.toNatClampNeg) := by
  rw [r]; rintro (q | q)
  · exact hi q
  · omega
theorem o_alenN (X : St K Z own b mx ret rm n0 k j T h) {a : Addr} {ty : FieldType} {n : Nat} {f : Nat → Int32} (z : Int32) (d : Isn b pc .arraylength 1 pc') (A : AN Z h a ty n f) (hn : n.toInt32 = z) (g : Go K n0 kc kj Q T pc' Ls (.int z :: rest)) : Go K n0 kc kj Q T pc Ls (.ref a :: rest) := by
  obtain ⟨d, rfl⟩ := d; obtain ⟨locs, S, N⟩ := X.sd; obtain ⟨c, q, r, s⟩ := A
  have e : c.slots.size.toInt32 = z := by rw [r, ← hn]
  exact o_go (fun t k => S.arraylength X.ex (cell := c) (by rw [X.hp]; exact q.1) (State.isArrayOf_alike X.wZ.alike q.2.1) (g := mkF K.m pc Ls (.ref a :: rest)) rfl (rest := rest) rfl (X.dec d) t (by rw [e]; exact k)) g

theorem o_ialoadN (X : St K Z own b mx ret rm n0 k j T h) {a : Addr} {n : Nat} {f : Nat → Int32} {i : Int32} (d : Isn b pc .iaload 1 pc') (A : AN Z h a .int n f) (hi : ¬ i < 0) (hl : i.toNatClampNeg < n) (g : Go K n0 kc kj Q T pc' Ls (.int (f i.toNatClampNeg) :: rest)) : Go K n0 kc kj Q T pc Ls (.int i :: .ref a :: rest) := by
  obtain ⟨d, rfl⟩ := d; obtain ⟨locs, S, N⟩ := X.sd; obtain ⟨c, q, r, s, t⟩ := A
  exact o_go (fun t' k => S.iaload X.ex (j := i) (v := .int (f i.toNatClampNeg)) (by rw [X.hp]; exact q.1) (State.isArrayOf_alike X.wZ.alike q.2.1) q.2.2 (AN.inb r hi hl) (t _ hl) (g := mkF K.m pc Ls (.int i :: .ref a :: rest)) rfl rfl (X.dec d) t' k) g
theorem o_caloadN (X : St K Z own b mx ret rm n0 k j T h) {a : Addr} {n : Nat} {f : Nat → Int32} {i : Int32} (d : Isn b pc .caload 1 pc') (A : AN Z h a .char n f) (hi : ¬ i < 0) (hl : i.toNatClampNeg < n) (g : Go K n0 kc kj Q T pc' Ls (.int (f i.toNatClampNeg) :: rest)) : Go K n0 kc kj Q T pc Ls (.int i :: .ref a :: rest) := by
  obtain ⟨d, rfl⟩ := d; obtain ⟨locs, S, N⟩ := X.sd; obtain ⟨c, q, r, s, t⟩ := A
  exact o_go (fun t' k => S.caload X.ex (j := i) (v := .int (f i.toNatClampNeg)) (by rw [X.hp]; exact q.1) (State.isArrayOf_alike X.wZ.alike q.2.1) q.2.2 (AN.inb r hi hl) (t _ hl) (g := mkF K.m pc Ls (.int i :: .ref a :: rest)) rfl rfl (X.dec d) t' k) g
theorem o_baloadN (X : St K Z own b mx ret rm n0 k j T h) {a : Addr} {n : Nat} {f : Nat → Int32} {i : Int32} (d : Isn b pc .baload 1 pc') (A : AN Z h a .byte n f) (hi : ¬ i < 0) (hl : i.toNatClampNeg < n) (g : Go K n0 kc kj Q T pc' Ls (.int (f i.toNatClampNeg) :: rest)) : Go K n0 kc kj Q T pc Ls (.int i :: .ref a :: rest) := by
  obtain ⟨d, rfl⟩ := d; obtain ⟨locs, S, N⟩ := X.sd; obtain ⟨c, q, r, s, t⟩ := A
  exact o_go (fun t' k => S.baloadBytes X.ex (j := i) (v := .int (f i.toNatClampNeg)) (by rw [X.hp]; exact q.1) (State.isArrayOf_alike X.wZ.alike q.2.1) q.2.2 (AN.inb r hi hl) (t _ hl) (g := mkF K.m pc Ls (.int i :: .ref a :: rest)) rfl rfl (X.dec d) t' k) g
theorem o_zaloadN (X : St K Z own b mx ret rm n0 k j T h) {a : Addr} {n : Nat} {f : Nat → Int32} {i : Int32} (d : Isn b pc .baload 1 pc') (A : AN Z h a .boolean n f) (hi : ¬ i < 0) (hl : i.toNatClampNeg < n) (g : Go K n0 kc kj Q T pc' Ls (.int (f i.toNatClampNeg) :: rest)) : Go K n0 kc kj Q T pc Ls (.int i :: .ref a :: rest) := by
  obtain ⟨d, rfl⟩ := d; obtain ⟨locs, S, N⟩ := X.sd; obtain ⟨c, q, r, s, t⟩ := A
  exact o_go (fun t' k => S.baloadBooleans X.ex (j := i) (v := .int (f i.toNatClampNeg)) (by rw [X.hp]; exact q.1) (State.isArrayOf_alike X.wZ.alike q.2.1) q.2.2 (AN.inb r hi hl) (t _ hl) (g := mkF K.m pc Ls (.int i :: .ref a :: rest)) rfl rfl (X.dec d) t' k) g
theorem o_iastoreN (X : St K Z own b mx ret rm n0 k j T h) {a : Addr} {n : Nat} {f : Nat → Int32} {i v : Int32} (d : Isn b pc .iastore 1 pc') (A : AN Z h a .int n f) (hi : ¬ i < 0) (hl : i.toNatClampNeg < n) (ha : n0 ≤ a)
    (g : ∀ T' h', St K Z own b mx ret rm n0 k j T' h' → Wr h h' a i.toNatClampNeg (.int (v)) → AN Z h' a .int n (fun q => if q = i.toNatClampNeg then v else f q) → Go K n0 kc kj Q T' pc' Ls (rest)) : Go K n0 kc kj Q T pc Ls (.int v :: .int i :: .ref a :: rest) := by
  obtain ⟨d, rfl⟩ := d; obtain ⟨locs, S, N⟩ := X.sd; have A0 := A; obtain ⟨c, q, r, s⟩ := A
  obtain ⟨T', h', S', e', W', st'⟩ := stI S X.ex X.wZ X.hp q (j := i) (x := v) (AN.inb r hi hl) (g := mkF K.m pc Ls (.int v :: .int i :: .ref a :: rest)) rfl rfl (X.dec d)
  exact o_go (fun t k => st' t k) (g T' h' (X.mk' S' (Fr.snoc S' N ha) e') W' (A0.set W'))
theorem o_castoreN (X : St K Z own b mx ret rm n0 k j T h) {a : Addr} {n : Nat} {f : Nat → Int32} {i v : Int32} (d : Isn b pc .castore 1 pc') (A : AN Z h a .char n f) (hi : ¬ i < 0) (hl : i.toNatClampNeg < n) (ha : n0 ≤ a)
    (g : ∀ T' h', St K Z own b mx ret rm n0 k j T' h' → Wr h h' a i.toNatClampNeg (.int (nar .char v)) → AN Z h' a .char n (fun q => if q = i.toNatClampNeg then nar .char v else f q) → Go K n0 kc kj Q T' pc' Ls (rest)) : Go K n0 kc kj Q T pc Ls (.int v :: .int i :: .ref a :: rest) := by
  obtain ⟨d, rfl⟩ := d; obtain ⟨locs, S, N⟩ := X.sd; have A0 := A; obtain ⟨c, q, r, s⟩ := A
  obtain ⟨T', h', S', e', W', st'⟩ := stC S X.ex X.wZ X.hp q (j := i) (x := v) (AN.inb r hi hl) (g := mkF K.m pc Ls (.int v :: .int i :: .ref a :: rest)) rfl rfl (X.dec d)
  exact o_go (fun t k => st' t k) (g T' h' (X.mk' S' (Fr.snoc S' N ha) e') W' (A0.set W'))
theorem o_bastoreN (X : St K Z own b mx ret rm n0 k j T h) {a : Addr} {n : Nat} {f : Nat → Int32} {i v : Int32} (d : Isn b pc .bastore 1 pc') (A : AN Z h a .byte n f) (hi : ¬ i < 0) (hl : i.toNatClampNeg < n) (ha : n0 ≤ a)
    (g : ∀ T' h', St K Z own b mx ret rm n0 k j T' h' → Wr h h' a i.toNatClampNeg (.int (nar .byte v)) → AN Z h' a .byte n (fun q => if q = i.toNatClampNeg then nar .byte v else f q) → Go K n0 kc kj Q T' pc' Ls (rest)) : Go K n0 kc kj Q T pc Ls (.int v :: .int i :: .ref a :: rest) := by
  obtain ⟨d, rfl⟩ := d; obtain ⟨locs, S, N⟩ := X.sd; have A0 := A; obtain ⟨c, q, r, s⟩ := A
  obtain ⟨T', h', S', e', W', st'⟩ := stB S X.ex X.wZ X.hp q (j := i) (x := v) (AN.inb r hi hl) (g := mkF K.m pc Ls (.int v :: .int i :: .ref a :: rest)) rfl rfl (X.dec d)
  exact o_go (fun t k => st' t k) (g T' h' (X.mk' S' (Fr.snoc S' N ha) e') W' (A0.set W'))
theorem o_zastoreN (X : St K Z own b mx ret rm n0 k j T h) {a : Addr} {n : Nat} {f : Nat → Int32} {i v : Int32} (d : Isn b pc .bastore 1 pc') (A : AN Z h a .boolean n f) (hi : ¬ i < 0) (hl : i.toNatClampNeg < n) (ha : n0 ≤ a)
    (g : ∀ T' h', St K Z own b mx ret rm n0 k j T' h' → Wr h h' a i.toNatClampNeg (.int (nar .boolean v)) → AN Z h' a .boolean n (fun q => if q = i.toNatClampNeg then nar .boolean v else f q) → Go K n0 kc kj Q T' pc' Ls (rest)) : Go K n0 kc kj Q T pc Ls (.int v :: .int i :: .ref a :: rest) := by
  obtain ⟨d, rfl⟩ := d; obtain ⟨locs, S, N⟩ := X.sd; have A0 := A; obtain ⟨c, q, r, s⟩ := A
  obtain ⟨T', h', S', e', W', st'⟩ := stZ S X.ex X.wZ X.hp q (j := i) (x := v) (AN.inb r hi hl) (g := mkF K.m pc Ls (.int v :: .int i :: .ref a :: rest)) rfl rfl (X.dec d)
  exact o_go (fun t k => st' t k) (g T' h' (X.mk' S' (Fr.snoc S' N ha) e') W' (A0.set W'))
theorem o_newarrayN (X : St K Z own b mx ret rm n0 k j T h) (cap : Nat) {aty : ArrayType} {n : Int32} (m : Nat) (d : Isn b pc (.newarray aty) 2 pc') (wd : (Jvm.Cond.arrayClass (newarray.typeOf aty)).before a0 Z = true) (hn : ¬ n < 0) (hm : n.toNatClampNeg = m) (hcap : m ≤ cap) (hdv : defaultValue (newarray.typeOf aty) = .int 0) (hr : cap * 8 ≤ 536870912 ∧ k + 1 ≤ rm.cells ∧ j + cap ≤ rm.slots)
    (g : ∀ T' h' a, a = h.size → St K Z own b mx ret rm n0 (k + 1) (j + cap) T' h' → Ext h h' → AN Z h' a (newarray.typeOf aty) m (fun _ => 0) → Go K n0 kc kj Q T' pc' Ls (.ref a :: rest)) : Go K n0 kc kj Q T pc Ls (.int n :: rest) := by
  obtain ⟨d, rfl⟩ := d; obtain ⟨locs, S, N⟩ := X.sd; have hR := X.rmE
  obtain ⟨T', h', cA, S', e', E', A', st'⟩ := newP S X.ex X.wZ wd X.hp (g := mkF K.m pc Ls (.int n :: rest)) rfl (X.dec d) rfl hn (hm ▸ hcap) hr.1 (by rw [hR]; exact hr.2.1) (by rw [hR]; exact hr.2.2)
  refine o_go (fun t k => st' t k) (g T' h' h.size rfl (X.mk' S' N e') E' ⟨_, A', ?_, ?_, fun i hi => ?_⟩)
  · simpa [newA] using hm
  · have := (back32 hn).2; omega
  · simp [newA, hm, hi, hdv]
/-- a long array, by a function of the place -/
def LN (Z : State) (h : Heap) (a : Addr) (n : Nat) (f : Nat → Int64) : Prop := ∃ c : Cell, Arr Z h a c .long ∧ c.slots.size = n ∧ n < 2 ^ 31 ∧ ∀ i, i < n → c.slots[i]? = some (.long (f i))
theorem LN.lt {a : Addr} {n : Nat} {f : Nat → Int64} (A : LN Z h a n f) : a < h.size := by obtain ⟨c, q, -⟩ := A; exact q.lt
theorem LN.ext {h' : Heap} {a : Addr} {n : Nat} {f : Nat → Int64} (A : LN Z h a n f) (E : Ext h h') : LN Z h' a n f := by obtain ⟨c, q, r⟩ := A; exact ⟨c, q.ext E, r⟩
theorem LN.other {h' : Heap} {a a' : Addr} {sl : Nat} {v : Value} {n : Nat} {f : Nat → Int64} (A : LN Z h a n f) (W : Wr h h' a' sl v) (ne : a ≠ a') : LN Z h' a n f := by obtain ⟨c, q, r⟩ := A; exact ⟨c, q.other W ne, r⟩
theorem LN.set {h' : Heap} {a : Addr} {sl : Nat} {v : Int64} {n : Nat} {f : Nat → Int64} (A : LN Z h a n f) (W : Wr h h' a sl (.long v)) : LN Z h' a n (fun i => if i = sl then v else f i) := by
  obtain ⟨c, q, r, s, t⟩ := A
  refine ⟨_, q.same W, by simpa [Cell.setSlot] using r, s, fun i hi => ?_⟩
  have e := t i hi
  by_cases p : i = sl
  · subst p; have : i < c.slots.size := r ▸ hi
    simp [Cell.setSlot, this]
  · have p' : ¬ sl = i := fun q => p q.symm
    simp [Cell.setSlot, Array.getElem?_setIfInBounds, p, p', e]
theorem o_alenL (X : St K Z own b mx ret rm n0 k j T h) {a : Addr} {n : Nat} {f : Nat → Int64} (z : Int32) (d : Isn b pc .arraylength 1 pc') (A : LN Z h a n f) (hn : n.toInt32 = z) (g : Go K n0 kc kj Q T pc' Ls (.int z :: rest)) : Go K n0 kc kj Q T pc Ls (.ref a :: rest) := by
  obtain ⟨d, rfl⟩ := d; obtain ⟨locs, S, N⟩ := X.sd; obtain ⟨c, q, r, s⟩ := A
  have e : c.slots.size.toInt32 = z := by rw [r, ← hn]
  exact o_go (fun t k => S.arraylength X.ex (cell := c) (by rw [X.hp]; exact q.1) (State.isArrayOf_alike X.wZ.alike q.2.1) (g := mkF K.m pc Ls (.ref a :: rest)) rfl (rest := rest) rfl (X.dec d) t (by rw [e]; exact k)) g
theorem o_laloadN (X : St K Z own b mx ret rm n0 k j T h) {a : Addr} {n : Nat} {f : Nat → Int64} {i : Int32} (d : Isn b pc .laload 1 pc') (A : LN Z h a n f) (hi : ¬ i < 0) (hl : i.toNatClampNeg < n) (g : Go K n0 kc kj Q T pc' Ls (.long (f i.toNatClampNeg) :: rest)) : Go K n0 kc kj Q T pc Ls (.int i :: .ref a :: rest) := by
  obtain ⟨d, rfl⟩ := d; obtain ⟨locs, S, N⟩ := X.sd; obtain ⟨c, q, r, s, t⟩ := A
  exact o_go (fun t' k => S.laload X.ex (j := i) (v := .long (f i.toNatClampNeg)) (by rw [X.hp]; exact q.1) (State.isArrayOf_alike X.wZ.alike q.2.1) q.2.2 (AN.inb r hi hl) (t _ hl) (g := mkF K.m pc Ls (.int i :: .ref a :: rest)) rfl rfl (X.dec d) t' k) g
theorem o_lastoreN (X : St K Z own b mx ret rm n0 k j T h) {a : Addr} {n : Nat} {f : Nat → Int64} {i : Int32} {v : Int64} (d : Isn b pc .lastore 1 pc') (A : LN Z h a n f) (hi : ¬ i < 0) (hl : i.toNatClampNeg < n) (ha : n0 ≤ a)
    (g : ∀ T' h', St K Z own b mx ret rm n0 k j T' h' → Wr h h' a i.toNatClampNeg (.long v) → LN Z h' a n (fun q => if q = i.toNatClampNeg then v else f q) → Go K n0 kc kj Q T' pc' Ls (rest)) : Go K n0 kc kj Q T pc Ls (.long v :: .int i :: .ref a :: rest) := by
  obtain ⟨d, rfl⟩ := d; obtain ⟨locs, S, N⟩ := X.sd; have A0 := A; obtain ⟨c, q, r, s⟩ := A
  obtain ⟨T', h', S', e', W', st'⟩ := stJ S X.ex X.wZ X.hp q (j := i) (x := v) (AN.inb r hi hl) (g := mkF K.m pc Ls (.long v :: .int i :: .ref a :: rest)) rfl rfl (X.dec d)
  exact o_go (fun t k => st' t k) (g T' h' (X.mk' S' (Fr.snoc S' N ha) e') W' (A0.set W'))
theorem o_newarrayL (X : St K Z own b mx ret rm n0 k j T h) (cap : Nat) {n : Int32} (m : Nat) (d : Isn b pc (.newarray .long) 2 pc') (wd : (Jvm.Cond.arrayClass .long).before a0 Z = true) (hn : ¬ n < 0) (hm : n.toNatClampNeg = m) (hcap : m ≤ cap) (hr : cap * 8 ≤ 536870912 ∧ k + 1 ≤ rm.cells ∧ j + cap ≤ rm.slots)
    (g : ∀ T' h' a, a = h.size → St K Z own b mx ret rm n0 (k + 1) (j + cap) T' h' → Ext h h' → LN Z h' a m (fun _ => 0) → Go K n0 kc kj Q T' pc' Ls (.ref a :: rest)) : Go K n0 kc kj Q T pc Ls (.int n :: rest) := by
  obtain ⟨d, rfl⟩ := d; obtain ⟨locs, S, N⟩ := X.sd; have hR := X.rmE
  obtain ⟨T', h', cA, S', e', E', A', st'⟩ := newP S X.ex X.wZ (aty := .long) wd X.hp (g := mkF K.m pc Ls (.int n :: rest)) rfl (X.dec d) rfl hn (hm ▸ hcap) hr.1 (by rw [hR]; exact hr.2.1) (by rw [hR]; exact hr.2.2)
  refine o_go (fun t k => st' t k) (g T' h' h.size rfl (X.mk' S' N e') E' ⟨_, A', ?_, ?_, fun i hi => ?_⟩)
  · simpa [newA] using hm
  · have := (back32 hn).2; omega
  · have e : defaultValue (newarray.typeOf .long) = .long 0 := rfl
    simp [newA, hm, hi, e]
/-- an object, by all the values of these fields of its class -/
def Obj (Z : State) (h : Heap) (a : Addr) (C : String) (ns : List (String × String)) (vs : List Value) : Prop := Exa Z h a C ∧ ns.length = vs.length ∧ ∀ (i : Nat) (n d : String) (v : Value), ns[i]? = some (n, d) → vs[i]? = some v → Fld Z h a C n d v
def LdAll (Z : State) (a0 : Array Value) (C : String) (ns : List (String × String)) : Prop := (ns.map Prod.fst).Nodup ∧ ∀ q ∈ ns, Laid Z a0 C C q.1 q.2 ∧ ∃ t, parseFieldDescriptor q.2 = some t
variable {h' : Heap} {a a' : Addr} {C : String} {ns : List (String × String)} {vs : List Value} {sl : Nat} {v : Value}
theorem Obj.lt (O : Obj Z h a C ns vs) : a < h.size := O.1.lt
theorem Obj.exa (O : Obj Z h a C ns vs) : Exa Z h a C := O.1
theorem Obj.ext (O : Obj Z h a C ns vs) (E : Ext h h') : Obj Z h' a C ns vs := ⟨O.1.ext E, O.2.1, fun i n d v q r => (O.2.2 i n d v q r).ext E⟩
theorem Obj.other (O : Obj Z h a C ns vs) (W : Wr h h' a' sl v) (ne : a ≠ a') : Obj Z h' a C ns vs := ⟨O.1.wr W, O.2.1, fun i n d v q r => (O.2.2 i n d v q r).other W (Or.inl ne)⟩
theorem Obj.keep {ws : List Addr} (O : Obj Z h a C ns vs) (Kp : Keep h h' ws) (ne : a ∉ ws) : Obj Z h' a C ns vs := ⟨O.1.keep Kp, O.2.1, fun i n d v q r => (O.2.2 i n d v q r).keep Kp ne⟩
theorem Obj.new (E : Exa Z h a C) (D : ∀ {O nm dd : String} {ty : FieldType}, Laid Z a0 C O nm dd → parseFieldDescriptor dd = some ty → Fld Z h a O nm dd (defaultValue ty)) (LA : LdAll Z a0 C ns) (ts : List FieldType) (ht : ns.map (fun q => parseFieldDescriptor q.2) = ts.map some) (hv : ts.map defaultValue = vs) : Obj Z h a C ns vs := by
  refine ⟨E, by rw [← hv]; simpa using congrArg List.length ht, fun i n d v q r => ?_⟩
  subst hv
  obtain ⟨t, ht1, rfl⟩ : ∃ t, ts[i]? = some t ∧ defaultValue t = v := by simpa using r
  have q2 := congrArg (fun L => L[i]?) ht
  simp [q, ht1] at q2
  exact D (LA.2 (n, d) (List.mem_of_getElem? q)).1 q2
theorem Obj.set (O : Obj Z h a C ns vs) (LA : LdAll Z a0 C ns) {n d : String} (W : Wr h h' a (Jvm.RoadKit.slotOf Z C n d) v) (i : Nat) (hi : ns[i]? = some (n, d)) : Obj Z h' a C ns (vs.set i v) := by
  refine ⟨O.1.wr W, by simpa using O.2.1, fun j n' d' v' q r => ?_⟩
  have hil : i < ns.length := (List.getElem?_eq_some_iff.mp hi).1
  by_cases e : i = j
  · subst e
    cases hi.symm.trans q
    have hiv : i < vs.length := O.2.1 ▸ hil
    obtain ⟨w, hw⟩ : ∃ w, vs[i]? = some w := ⟨_, List.getElem?_eq_getElem hiv⟩
    have : v = v' := by simpa [List.getElem?_set, hiv] using r
    subst this
    exact (O.2.2 i n d w hi hw).same W
  · have r' : vs[j]? = some v' := by rw [List.getElem?_set_ne e] at r; exact r
    refine (O.2.2 j n' d' v' q r').other W (Or.inr ?_)
    obtain ⟨l1, t1, p1⟩ := LA.2 _ (List.mem_of_getElem? q)
    obtain ⟨l2, t2, p2⟩ := LA.2 _ (List.mem_of_getElem? hi)
    refine slot_ne l1 l2 (fun eq => e ?_) p1 p2
    have hjl : j < ns.length := (List.getElem?_eq_some_iff.mp q).1
    have e1 : (ns.map Prod.fst)[i]? = some n := by simp [hi]
    have e2 : (ns.map Prod.fst)[j]? = some n' := by simp [q]
    have eq' : n' = n := eq
    subst eq'
    obtain ⟨x1, y1⟩ := List.getElem?_eq_some_iff.mp e1
    obtain ⟨x2, y2⟩ := List.getElem?_eq_some_iff.mp e2
    have P := List.pairwise_iff_getElem.mp LA.1
    rcases Nat.lt_trichotomy i j with z | z | z
    · exact absurd (y1.trans y2.symm) (P i j x1 x2 z)
    · exact z
    · exact absurd (y2.trans y1.symm) (P j i x2 x1 z)
theorem o_getO (X : St K Z own b mx ret rm n0 k j T h) {q : Nat} {n dd : String} (i : Nat) (d : Isn b pc (.getfield q) 3 pc') (wd : (Jvm.Cond.fieldLink own q C n dd).before a0 Z = true) (O : Obj Z h a C ns vs) (hi : ns[i]? = some (n, dd)) (hv : vs[i]? = some v)
    (g : ∀ T', St K Z own b mx ret rm n0 k j T' h → Go K n0 kc kj Q T' pc' Ls (v :: rest)) : Go K n0 kc kj Q T pc Ls (.ref a :: rest) := o_getF X d wd (O.2.2 i n dd v hi hv) g
theorem o_putO (X : St K Z own b mx ret rm n0 k j T h) {q kk : Nat} {n dd : String} {ty : FieldType} {vs' : List Value} (i : Nat) (d : Isn b pc (.putfield q) 3 pc') (wd : (Jvm.Cond.fieldLink own q C n dd).before a0 Z = true) (O : Obj Z h a C ns vs) (LA : LdAll Z a0 C ns) (hi : ns[i]? = some (n, dd))
    (Lf : (Jvm.Cond.lays C C n dd).before a0 Z = true ∨ ((Jvm.Cond.laysFinal C C n dd).before a0 Z = true ∧ own = C ∧ K.meth.name = "<init>")) (wi : (Jvm.Cond.instantiable C kk).before a0 Z = true) (hty : parseFieldDescriptor dd = some ty) (hn : narrow ty v = v) (hf : fits ty v = true) (ha : n0 ≤ a) (hv : vs.set i v = vs')
    (g : ∀ T' h', St K Z own b mx ret rm n0 k j T' h' → Wr h h' a (Jvm.RoadKit.slotOf Z C n dd) v → Obj Z h' a C ns vs' → Go K n0 kc kj Q T' pc' Ls (rest)) : Go K n0 kc kj Q T pc Ls (v :: .ref a :: rest) := by
  have hil : i < vs.length := O.2.1 ▸ (List.getElem?_eq_some_iff.mp hi).1
  exact o_putF X d wd (O.2.2 i n dd _ hi (List.getElem?_eq_getElem hil)) O.1 Lf wi hty hn hf ha fun T' h' X' W => g T' h' X' W (hv ▸ O.set LA W i hi)
end OwnKit
theorem pd0 : parseMethodDescriptor "([I)Z" = some ⟨[(.array .int)], some .boolean⟩ := by decide +kernel
theorem pd1 : parseMethodDescriptor "()[I" = some ⟨[], some (.array .int)⟩ := by decide +kernel
theorem pn0 : plainName "com/example/nodewell/nodewell/cache/BitStatisticsHash" = true := by first | (simp [plainName, overriddenIn]; done) | decide +kernel
theorem pn1 : plainName "com/example/nodewell/nodewell/cache/BitStatisticsHashIsOrderPinLaw" = true := by first | (simp [plainName, overriddenIn]; done) | decide +kernel
/-- an int array of n places, the first k of which hold their own place -/
def own_Fil (Z : State) (h : Heap) (a : Addr) (n k : Nat) : Prop := ∃ f, AN Z h a .int n f ∧ ∀ i, i < k → (f i).toInt = i
theorem own_fill {K : Cx} {Z : State} {own : String} {b : ByteArray} {mx : Nat} {ret : Option FieldType} {rm : Room} {n0 k j kc kj : Nat} {T : State} {h : Heap} {Q : Option Value → Heap → Prop} {pc pc' : Nat} {Ls : Array Slot} {rest : List Value} {a : Addr} {n m m' : Nat} {v : Int32}
    (X : St K Z own b mx ret rm n0 k j T h) (d : Isn b pc .iastore 1 pc') (A : own_Fil Z h a n m) (hv : v.toInt = m) (hm : m + 1 = m') (hn : m < n) (ha : n0 ≤ a) (g : ∀ T' h', St K Z own b mx ret rm n0 k j T' h' → own_Fil Z h' a n m' → Go K n0 kc kj Q T' pc' Ls rest) : Go K n0 kc kj Q T pc Ls (.int v :: .int v :: .ref a :: rest) := by
  obtain ⟨f, A, F⟩ := A
  have e : v.toNatClampNeg = m := by show v.toInt.toNat = m; omega
  refine o_iastoreN X d A (by rw [Int32.lt_iff_toInt_lt]; show ¬ v.toInt < 0; omega) (by omega) ha fun T' h' X' W A' => g T' h' X' ⟨_, A', fun i hi => ?_⟩
  show (if i = v.toNatClampNeg then v else f i).toInt = i
  split
  · omega
  · exact F i (by omega)
theorem own_fill0 {K : Cx} {Z : State} {own : String} {b : ByteArray} {mx : Nat} {ret : Option FieldType} {rm : Room} {n0 k j kc kj : Nat} {T : State} {h : Heap} {Q : Option Value → Heap → Prop} {pc pc' : Nat} {Ls : Array Slot} {rest : List Value} {a : Addr} {n : Nat} {i v : Int32}
    (X : St K Z own b mx ret rm n0 k j T h) (d : Isn b pc .iastore 1 pc') (A : own_Fil Z h a n 0) (hi : ¬ i < 0) (hl : i.toNatClampNeg < n) (ha : n0 ≤ a) (g : ∀ T' h', St K Z own b mx ret rm n0 k j T' h' → own_Fil Z h' a n 0 → Go K n0 kc kj Q T' pc' Ls rest) : Go K n0 kc kj Q T pc Ls (.int v :: .int i :: .ref a :: rest) := by
  obtain ⟨f, A, F⟩ := A
  exact o_iastoreN X d A hi hl ha fun T' h' X' W A' => g T' h' X' ⟨_, A', fun i hi => absurd hi (Nat.not_lt_zero _)⟩

theorem own_zero : (0 : Int32).toInt = 0 := by decide
theorem own_one : (1 : Int32).toInt = 1 := by decide
theorem own_63 : (63 : Int32).toInt = 63 := by decide
theorem own_nat (i : Int32) : i.toNatClampNeg = i.toInt.toNat := rfl
theorem own_nn {i : Int32} (h : 0 ≤ i.toInt) : ¬ i < 0 := by rw [Int32.lt_iff_toInt_lt, own_zero]; omega
theorem own_rem (x y : Int32) (hy : 0 < y.toInt) : 0 ≤ ((x &&& 2147483647) % y).toInt ∧ ((x &&& 2147483647) % y).toInt < y.toInt := by
  have e : (x &&& 2147483647).toInt = x.toInt % (2 ^ 31 : Nat) := c_mask x 2147483647 31 (by decide) (by decide)
  have r := (c_iremV (x &&& 2147483647) y).1 (by omega) hy
  exact ⟨r.1, r.2.1⟩
theorem own_rem2 (x y : Int32) (hx : 0 ≤ x.toInt) (hy : 0 < y.toInt) : 0 ≤ (x % y).toInt ∧ (x % y).toInt < y.toInt := by
  have r := (c_iremV x y).1 hx hy
  exact ⟨r.1, r.2.1⟩
def own_good (f : Nat → Int32) : Prop := (∀ i, i < 63 → 0 ≤ (f i).toInt ∧ (f i).toInt < 63) ∧ ∀ i j, i < j → j < 63 → f i ≠ f j
def own_res (r : Int32) (f : Nat → Int32) : Prop := (r = 1 ∧ own_good f) ∨ (r = 0 ∧ ¬ own_good f)
theorem own_g2 (f : Nat → Int32) (F : ∀ i, i < 63 → (f i).toInt = i) (a b : Int32) (a0 : 0 ≤ a.toInt) (a1 : a.toInt < 63) (b0 : 0 ≤ b.toInt) (b1 : b.toInt < 63) :
    ∀ i, i < 63 → ((if i = b.toNatClampNeg then f a.toNatClampNeg else if i = a.toNatClampNeg then f b.toNatClampNeg else f i) : Int32).toInt = if i = b.toInt.toNat then a.toInt else if i = a.toInt.toNat then b.toInt else i := by
  intro i hi
  rw [own_nat, own_nat]
  split
  · rw [F _ (by omega)]; omega
  · split
    · rw [F _ (by omega)]; omega
    · exact F i hi
theorem own_goodOf (g : Nat → Int32) (a b : Int) (a0 : 0 ≤ a) (a1 : a < 63) (b0 : 0 ≤ b) (b1 : b < 63) (G : ∀ i, i < 63 → (g i).toInt = if i = b.toNat then a else if i = a.toNat then b else i) : own_good g := by
  refine ⟨fun i hi => ?_, fun i j hij hj e => ?_⟩
  · rw [G i hi]; split
    · omega
    · split <;> omega
  · have e' := congrArg Int32.toInt e
    rw [G i (by omega), G j hj] at e'
    split at e' <;> split at e' <;> (try split at e') <;> (try split at e') <;> omega
theorem own_r1 (r : Int32) (g : Nat → Int32) (H : own_res r g) (G : own_good g) : r = 1 := by
  rcases H with ⟨h, _⟩ | ⟨_, h⟩
  · exact h
  · exact absurd G h
theorem own_r2 (r w c : Int32) (g : Nat → Int32) (a b : Int) (a0 : 0 ≤ a) (a1 : a < 63) (b0 : 0 ≤ b) (b1 : b < 63) (c0 : 0 ≤ c.toInt) (c1 : c.toInt < 63) (G : ∀ i, i < 63 → (g i).toInt = if i = b.toNat then a else if i = a.toNat then b else i)
    (H : own_res r (fun i => if i = c.toNatClampNeg then w else g i)) : r = if g c.toNatClampNeg = w then 1 else 0 := by
  have hG := own_goodOf g a b a0 a1 b0 b1 G
  have ec := own_nat c
  by_cases q : g c.toNatClampNeg = w
  · rw [if_pos q]
    have : (fun i => if i = c.toNatClampNeg then w else g i) = g := by
      funext i; show (if i = c.toNatClampNeg then w else g i) = g i
      split
      · rename_i e; rw [e, q]
      · rfl
    rw [this] at H
    exact own_r1 r g H hG
  · rw [if_neg q]
    rcases H with ⟨h, hg⟩ | ⟨h, _⟩
    · exfalso
      have hw : 0 ≤ w.toInt ∧ w.toInt < 63 := by
        have := hg.1 c.toNatClampNeg (by omega)
        dsimp only at this; rw [if_pos rfl] at this; exact this
      -- the place at which w stood
      have key : ∀ j : Nat, j < 63 → (g j).toInt = w.toInt → False := fun j hj e => by
        have ej : g j = w := Int32.toInt_inj.mp e
        have ne : j ≠ c.toNatClampNeg := fun z => q (z ▸ ej)
        rcases Nat.lt_or_gt_of_ne ne with z | z
        · have := hg.2 j c.toNatClampNeg z (by omega)
          dsimp only at this; rw [if_neg ne, if_pos rfl] at this; exact this ej
        · have := hg.2 c.toNatClampNeg j z hj
          dsimp only at this; rw [if_neg ne, if_pos rfl] at this; exact this ej.symm
      by_cases wb : w.toInt = b
      · refine key a.toNat (by omega) ?_
        rw [G _ (by omega)]; split
        · omega
        · rw [if_pos rfl]; omega
      · by_cases wa : w.toInt = a
        · refine key b.toNat (by omega) ?_
          rw [G _ (by omega), if_pos rfl]; omega
        · refine key w.toInt.toNat (by omega) ?_
          rw [G _ (by omega), if_neg (by omega), if_neg (by omega)]; omega
    · exact h

theorem f1_0 : Isn method_2_code 0 (.bipush 63) 2 2 := ⟨by decide +kernel, rfl⟩
theorem f1_2 : Isn method_2_code 2 (.newarray .int) 2 4 := ⟨by decide +kernel, rfl⟩
theorem f1_4 : Isn method_2_code 4 (.dup) 1 5 := ⟨by decide +kernel, rfl⟩
theorem f1_5 : Isn method_2_code 5 (.iconst 0) 1 6 := ⟨by decide +kernel, rfl⟩
theorem f1_6 : Isn method_2_code 6 (.iconst 0) 1 7 := ⟨by decide +kernel, rfl⟩
theorem f1_7 : Isn method_2_code 7 (.iastore) 1 8 := ⟨by decide +kernel, rfl⟩
theorem f1_8 : Isn method_2_code 8 (.dup) 1 9 := ⟨by decide +kernel, rfl⟩
theorem f1_9 : Isn method_2_code 9 (.iconst 1) 1 10 := ⟨by decide +kernel, rfl⟩
theorem f1_10 : Isn method_2_code 10 (.iconst 1) 1 11 := ⟨by decide +kernel, rfl⟩
theorem f1_11 : Isn method_2_code 11 (.iastore) 1 12 := ⟨by decide +kernel, rfl⟩
theorem f1_12 : Isn method_2_code 12 (.dup) 1 13 := ⟨by decide +kernel, rfl⟩
theorem f1_13 : Isn method_2_code 13 (.iconst 2) 1 14 := ⟨by decide +kernel, rfl⟩
theorem f1_14 : Isn method_2_code 14 (.iconst 2) 1 15 := ⟨by decide +kernel, rfl⟩
theorem f1_15 : Isn method_2_code 15 (.iastore) 1 16 := ⟨by decide +kernel, rfl⟩
theorem f1_16 : Isn method_2_code 16 (.dup) 1 17 := ⟨by decide +kernel, rfl⟩
theorem f1_17 : Isn method_2_code 17 (.iconst 3) 1 18 := ⟨by decide +kernel, rfl⟩
theorem f1_18 : Isn method_2_code 18 (.iconst 3) 1 19 := ⟨by decide +kernel, rfl⟩
theorem f1_19 : Isn method_2_code 19 (.iastore) 1 20 := ⟨by decide +kernel, rfl⟩
theorem f1_20 : Isn method_2_code 20 (.dup) 1 21 := ⟨by decide +kernel, rfl⟩
theorem f1_21 : Isn method_2_code 21 (.iconst 4) 1 22 := ⟨by decide +kernel, rfl⟩
theorem f1_22 : Isn method_2_code 22 (.iconst 4) 1 23 := ⟨by decide +kernel, rfl⟩
theorem f1_23 : Isn method_2_code 23 (.iastore) 1 24 := ⟨by decide +kernel, rfl⟩
theorem f1_24 : Isn method_2_code 24 (.dup) 1 25 := ⟨by decide +kernel, rfl⟩
theorem f1_25 : Isn method_2_code 25 (.iconst 5) 1 26 := ⟨by decide +kernel, rfl⟩
theorem f1_26 : Isn method_2_code 26 (.iconst 5) 1 27 := ⟨by decide +kernel, rfl⟩
theorem f1_27 : Isn method_2_code 27 (.iastore) 1 28 := ⟨by decide +kernel, rfl⟩
theorem f1_28 : Isn method_2_code 28 (.dup) 1 29 := ⟨by decide +kernel, rfl⟩
theorem f1_29 : Isn method_2_code 29 (.bipush 6) 2 31 := ⟨by decide +kernel, rfl⟩
theorem f1_31 : Isn method_2_code 31 (.bipush 6) 2 33 := ⟨by decide +kernel, rfl⟩
theorem f1_33 : Isn method_2_code 33 (.iastore) 1 34 := ⟨by decide +kernel, rfl⟩
theorem f1_34 : Isn method_2_code 34 (.dup) 1 35 := ⟨by decide +kernel, rfl⟩
theorem f1_35 : Isn method_2_code 35 (.bipush 7) 2 37 := ⟨by decide +kernel, rfl⟩
theorem f1_37 : Isn method_2_code 37 (.bipush 7) 2 39 := ⟨by decide +kernel, rfl⟩
theorem f1_39 : Isn method_2_code 39 (.iastore) 1 40 := ⟨by decide +kernel, rfl⟩
theorem f1_40 : Isn method_2_code 40 (.dup) 1 41 := ⟨by decide +kernel, rfl⟩
theorem f1_41 : Isn method_2_code 41 (.bipush 8) 2 43 := ⟨by decide +kernel, rfl⟩
theorem f1_43 : Isn method_2_code 43 (.bipush 8) 2 45 := ⟨by decide +kernel, rfl⟩
theorem f1_45 : Isn method_2_code 45 (.iastore) 1 46 := ⟨by decide +kernel, rfl⟩
theorem f1_46 : Isn method_2_code 46 (.dup) 1 47 := ⟨by decide +kernel, rfl⟩
theorem f1_47 : Isn method_2_code 47 (.bipush 9) 2 49 := ⟨by decide +kernel, rfl⟩
theorem f1_49 : Isn method_2_code 49 (.bipush 9) 2 51 := ⟨by decide +kernel, rfl⟩
theorem f1_51 : Isn method_2_code 51 (.iastore) 1 52 := ⟨by decide +kernel, rfl⟩
theorem f1_52 : Isn method_2_code 52 (.dup) 1 53 := ⟨by decide +kernel, rfl⟩
theorem f1_53 : Isn method_2_code 53 (.bipush 10) 2 55 := ⟨by decide +kernel, rfl⟩
theorem f1_55 : Isn method_2_code 55 (.bipush 10) 2 57 := ⟨by decide +kernel, rfl⟩
theorem f1_57 : Isn method_2_code 57 (.iastore) 1 58 := ⟨by decide +kernel, rfl⟩
theorem f1_58 : Isn method_2_code 58 (.dup) 1 59 := ⟨by decide +kernel, rfl⟩
theorem f1_59 : Isn method_2_code 59 (.bipush 11) 2 61 := ⟨by decide +kernel, rfl⟩
theorem f1_61 : Isn method_2_code 61 (.bipush 11) 2 63 := ⟨by decide +kernel, rfl⟩
theorem f1_63 : Isn method_2_code 63 (.iastore) 1 64 := ⟨by decide +kernel, rfl⟩
theorem f1_64 : Isn method_2_code 64 (.dup) 1 65 := ⟨by decide +kernel, rfl⟩
theorem f1_65 : Isn method_2_code 65 (.bipush 12) 2 67 := ⟨by decide +kernel, rfl⟩
theorem f1_67 : Isn method_2_code 67 (.bipush 12) 2 69 := ⟨by decide +kernel, rfl⟩
theorem f1_69 : Isn method_2_code 69 (.iastore) 1 70 := ⟨by decide +kernel, rfl⟩
theorem f1_70 : Isn method_2_code 70 (.dup) 1 71 := ⟨by decide +kernel, rfl⟩
theorem f1_71 : Isn method_2_code 71 (.bipush 13) 2 73 := ⟨by decide +kernel, rfl⟩
theorem f1_73 : Isn method_2_code 73 (.bipush 13) 2 75 := ⟨by decide +kernel, rfl⟩
theorem f1_75 : Isn method_2_code 75 (.iastore) 1 76 := ⟨by decide +kernel, rfl⟩
theorem f1_76 : Isn method_2_code 76 (.dup) 1 77 := ⟨by decide +kernel, rfl⟩
theorem f1_77 : Isn method_2_code 77 (.bipush 14) 2 79 := ⟨by decide +kernel, rfl⟩
theorem f1_79 : Isn method_2_code 79 (.bipush 14) 2 81 := ⟨by decide +kernel, rfl⟩
theorem f1_81 : Isn method_2_code 81 (.iastore) 1 82 := ⟨by decide +kernel, rfl⟩
theorem f1_82 : Isn method_2_code 82 (.dup) 1 83 := ⟨by decide +kernel, rfl⟩
theorem f1_83 : Isn method_2_code 83 (.bipush 15) 2 85 := ⟨by decide +kernel, rfl⟩
theorem f1_85 : Isn method_2_code 85 (.bipush 15) 2 87 := ⟨by decide +kernel, rfl⟩
theorem f1_87 : Isn method_2_code 87 (.iastore) 1 88 := ⟨by decide +kernel, rfl⟩
theorem f1_88 : Isn method_2_code 88 (.dup) 1 89 := ⟨by decide +kernel, rfl⟩
theorem f1_89 : Isn method_2_code 89 (.bipush 16) 2 91 := ⟨by decide +kernel, rfl⟩
theorem f1_91 : Isn method_2_code 91 (.bipush 16) 2 93 := ⟨by decide +kernel, rfl⟩
theorem f1_93 : Isn method_2_code 93 (.iastore) 1 94 := ⟨by decide +kernel, rfl⟩
theorem f1_94 : Isn method_2_code 94 (.dup) 1 95 := ⟨by decide +kernel, rfl⟩
theorem f1_95 : Isn method_2_code 95 (.bipush 17) 2 97 := ⟨by decide +kernel, rfl⟩
theorem f1_97 : Isn method_2_code 97 (.bipush 17) 2 99 := ⟨by decide +kernel, rfl⟩
theorem f1_99 : Isn method_2_code 99 (.iastore) 1 100 := ⟨by decide +kernel, rfl⟩
theorem f1_100 : Isn method_2_code 100 (.dup) 1 101 := ⟨by decide +kernel, rfl⟩
theorem f1_101 : Isn method_2_code 101 (.bipush 18) 2 103 := ⟨by decide +kernel, rfl⟩
theorem f1_103 : Isn method_2_code 103 (.bipush 18) 2 105 := ⟨by decide +kernel, rfl⟩
theorem f1_105 : Isn method_2_code 105 (.iastore) 1 106 := ⟨by decide +kernel, rfl⟩
theorem f1_106 : Isn method_2_code 106 (.dup) 1 107 := ⟨by decide +kernel, rfl⟩
theorem f1_107 : Isn method_2_code 107 (.bipush 19) 2 109 := ⟨by decide +kernel, rfl⟩
theorem f1_109 : Isn method_2_code 109 (.bipush 19) 2 111 := ⟨by decide +kernel, rfl⟩
theorem f1_111 : Isn method_2_code 111 (.iastore) 1 112 := ⟨by decide +kernel, rfl⟩
theorem f1_112 : Isn method_2_code 112 (.dup) 1 113 := ⟨by decide +kernel, rfl⟩
theorem f1_113 : Isn method_2_code 113 (.bipush 20) 2 115 := ⟨by decide +kernel, rfl⟩
theorem f1_115 : Isn method_2_code 115 (.bipush 20) 2 117 := ⟨by decide +kernel, rfl⟩
theorem f1_117 : Isn method_2_code 117 (.iastore) 1 118 := ⟨by decide +kernel, rfl⟩
theorem f1_118 : Isn method_2_code 118 (.dup) 1 119 := ⟨by decide +kernel, rfl⟩
theorem f1_119 : Isn method_2_code 119 (.bipush 21) 2 121 := ⟨by decide +kernel, rfl⟩
theorem f1_121 : Isn method_2_code 121 (.bipush 21) 2 123 := ⟨by decide +kernel, rfl⟩
theorem f1_123 : Isn method_2_code 123 (.iastore) 1 124 := ⟨by decide +kernel, rfl⟩
theorem f1_124 : Isn method_2_code 124 (.dup) 1 125 := ⟨by decide +kernel, rfl⟩
theorem f1_125 : Isn method_2_code 125 (.bipush 22) 2 127 := ⟨by decide +kernel, rfl⟩
theorem f1_127 : Isn method_2_code 127 (.bipush 22) 2 129 := ⟨by decide +kernel, rfl⟩
theorem f1_129 : Isn method_2_code 129 (.iastore) 1 130 := ⟨by decide +kernel, rfl⟩
theorem f1_130 : Isn method_2_code 130 (.dup) 1 131 := ⟨by decide +kernel, rfl⟩
theorem f1_131 : Isn method_2_code 131 (.bipush 23) 2 133 := ⟨by decide +kernel, rfl⟩
theorem f1_133 : Isn method_2_code 133 (.bipush 23) 2 135 := ⟨by decide +kernel, rfl⟩
theorem f1_135 : Isn method_2_code 135 (.iastore) 1 136 := ⟨by decide +kernel, rfl⟩
theorem f1_136 : Isn method_2_code 136 (.dup) 1 137 := ⟨by decide +kernel, rfl⟩
theorem f1_137 : Isn method_2_code 137 (.bipush 24) 2 139 := ⟨by decide +kernel, rfl⟩
theorem f1_139 : Isn method_2_code 139 (.bipush 24) 2 141 := ⟨by decide +kernel, rfl⟩
theorem f1_141 : Isn method_2_code 141 (.iastore) 1 142 := ⟨by decide +kernel, rfl⟩
theorem f1_142 : Isn method_2_code 142 (.dup) 1 143 := ⟨by decide +kernel, rfl⟩
theorem f1_143 : Isn method_2_code 143 (.bipush 25) 2 145 := ⟨by decide +kernel, rfl⟩
theorem f1_145 : Isn method_2_code 145 (.bipush 25) 2 147 := ⟨by decide +kernel, rfl⟩
theorem f1_147 : Isn method_2_code 147 (.iastore) 1 148 := ⟨by decide +kernel, rfl⟩
theorem f1_148 : Isn method_2_code 148 (.dup) 1 149 := ⟨by decide +kernel, rfl⟩
theorem f1_149 : Isn method_2_code 149 (.bipush 26) 2 151 := ⟨by decide +kernel, rfl⟩
theorem f1_151 : Isn method_2_code 151 (.bipush 26) 2 153 := ⟨by decide +kernel, rfl⟩
theorem f1_153 : Isn method_2_code 153 (.iastore) 1 154 := ⟨by decide +kernel, rfl⟩
theorem f1_154 : Isn method_2_code 154 (.dup) 1 155 := ⟨by decide +kernel, rfl⟩
theorem f1_155 : Isn method_2_code 155 (.bipush 27) 2 157 := ⟨by decide +kernel, rfl⟩
theorem f1_157 : Isn method_2_code 157 (.bipush 27) 2 159 := ⟨by decide +kernel, rfl⟩
theorem f1_159 : Isn method_2_code 159 (.iastore) 1 160 := ⟨by decide +kernel, rfl⟩
theorem f1_160 : Isn method_2_code 160 (.dup) 1 161 := ⟨by decide +kernel, rfl⟩
theorem f1_161 : Isn method_2_code 161 (.bipush 28) 2 163 := ⟨by decide +kernel, rfl⟩
theorem f1_163 : Isn method_2_code 163 (.bipush 28) 2 165 := ⟨by decide +kernel, rfl⟩
theorem f1_165 : Isn method_2_code 165 (.iastore) 1 166 := ⟨by decide +kernel, rfl⟩
theorem f1_166 : Isn method_2_code 166 (.dup) 1 167 := ⟨by decide +kernel, rfl⟩
theorem f1_167 : Isn method_2_code 167 (.bipush 29) 2 169 := ⟨by decide +kernel, rfl⟩
theorem f1_169 : Isn method_2_code 169 (.bipush 29) 2 171 := ⟨by decide +kernel, rfl⟩
theorem f1_171 : Isn method_2_code 171 (.iastore) 1 172 := ⟨by decide +kernel, rfl⟩
theorem f1_172 : Isn method_2_code 172 (.dup) 1 173 := ⟨by decide +kernel, rfl⟩
theorem f1_173 : Isn method_2_code 173 (.bipush 30) 2 175 := ⟨by decide +kernel, rfl⟩
theorem f1_175 : Isn method_2_code 175 (.bipush 30) 2 177 := ⟨by decide +kernel, rfl⟩
theorem f1_177 : Isn method_2_code 177 (.iastore) 1 178 := ⟨by decide +kernel, rfl⟩
theorem f1_178 : Isn method_2_code 178 (.dup) 1 179 := ⟨by decide +kernel, rfl⟩
theorem f1_179 : Isn method_2_code 179 (.bipush 31) 2 181 := ⟨by decide +kernel, rfl⟩
theorem f1_181 : Isn method_2_code 181 (.bipush 31) 2 183 := ⟨by decide +kernel, rfl⟩
theorem f1_183 : Isn method_2_code 183 (.iastore) 1 184 := ⟨by decide +kernel, rfl⟩
theorem f1_184 : Isn method_2_code 184 (.dup) 1 185 := ⟨by decide +kernel, rfl⟩
theorem f1_185 : Isn method_2_code 185 (.bipush 32) 2 187 := ⟨by decide +kernel, rfl⟩
theorem f1_187 : Isn method_2_code 187 (.bipush 32) 2 189 := ⟨by decide +kernel, rfl⟩
theorem f1_189 : Isn method_2_code 189 (.iastore) 1 190 := ⟨by decide +kernel, rfl⟩
theorem f1_190 : Isn method_2_code 190 (.dup) 1 191 := ⟨by decide +kernel, rfl⟩
theorem f1_191 : Isn method_2_code 191 (.bipush 33) 2 193 := ⟨by decide +kernel, rfl⟩
theorem f1_193 : Isn method_2_code 193 (.bipush 33) 2 195 := ⟨by decide +kernel, rfl⟩
theorem f1_195 : Isn method_2_code 195 (.iastore) 1 196 := ⟨by decide +kernel, rfl⟩
theorem f1_196 : Isn method_2_code 196 (.dup) 1 197 := ⟨by decide +kernel, rfl⟩
theorem f1_197 : Isn method_2_code 197 (.bipush 34) 2 199 := ⟨by decide +kernel, rfl⟩
theorem f1_199 : Isn method_2_code 199 (.bipush 34) 2 201 := ⟨by decide +kernel, rfl⟩
theorem f1_201 : Isn method_2_code 201 (.iastore) 1 202 := ⟨by decide +kernel, rfl⟩
theorem f1_202 : Isn method_2_code 202 (.dup) 1 203 := ⟨by decide +kernel, rfl⟩
theorem f1_203 : Isn method_2_code 203 (.bipush 35) 2 205 := ⟨by decide +kernel, rfl⟩
theorem f1_205 : Isn method_2_code 205 (.bipush 35) 2 207 := ⟨by decide +kernel, rfl⟩
theorem f1_207 : Isn method_2_code 207 (.iastore) 1 208 := ⟨by decide +kernel, rfl⟩
theorem f1_208 : Isn method_2_code 208 (.dup) 1 209 := ⟨by decide +kernel, rfl⟩
theorem f1_209 : Isn method_2_code 209 (.bipush 36) 2 211 := ⟨by decide +kernel, rfl⟩
theorem f1_211 : Isn method_2_code 211 (.bipush 36) 2 213 := ⟨by decide +kernel, rfl⟩
theorem f1_213 : Isn method_2_code 213 (.iastore) 1 214 := ⟨by decide +kernel, rfl⟩
theorem f1_214 : Isn method_2_code 214 (.dup) 1 215 := ⟨by decide +kernel, rfl⟩
theorem f1_215 : Isn method_2_code 215 (.bipush 37) 2 217 := ⟨by decide +kernel, rfl⟩
theorem f1_217 : Isn method_2_code 217 (.bipush 37) 2 219 := ⟨by decide +kernel, rfl⟩
theorem f1_219 : Isn method_2_code 219 (.iastore) 1 220 := ⟨by decide +kernel, rfl⟩
theorem f1_220 : Isn method_2_code 220 (.dup) 1 221 := ⟨by decide +kernel, rfl⟩
theorem f1_221 : Isn method_2_code 221 (.bipush 38) 2 223 := ⟨by decide +kernel, rfl⟩
theorem f1_223 : Isn method_2_code 223 (.bipush 38) 2 225 := ⟨by decide +kernel, rfl⟩
theorem f1_225 : Isn method_2_code 225 (.iastore) 1 226 := ⟨by decide +kernel, rfl⟩
theorem f1_226 : Isn method_2_code 226 (.dup) 1 227 := ⟨by decide +kernel, rfl⟩
theorem f1_227 : Isn method_2_code 227 (.bipush 39) 2 229 := ⟨by decide +kernel, rfl⟩
theorem f1_229 : Isn method_2_code 229 (.bipush 39) 2 231 := ⟨by decide +kernel, rfl⟩
theorem f1_231 : Isn method_2_code 231 (.iastore) 1 232 := ⟨by decide +kernel, rfl⟩
theorem f1_232 : Isn method_2_code 232 (.dup) 1 233 := ⟨by decide +kernel, rfl⟩
theorem f1_233 : Isn method_2_code 233 (.bipush 40) 2 235 := ⟨by decide +kernel, rfl⟩
theorem f1_235 : Isn method_2_code 235 (.bipush 40) 2 237 := ⟨by decide +kernel, rfl⟩
theorem f1_237 : Isn method_2_code 237 (.iastore) 1 238 := ⟨by decide +kernel, rfl⟩
theorem f1_238 : Isn method_2_code 238 (.dup) 1 239 := ⟨by decide +kernel, rfl⟩
theorem f1_239 : Isn method_2_code 239 (.bipush 41) 2 241 := ⟨by decide +kernel, rfl⟩
theorem f1_241 : Isn method_2_code 241 (.bipush 41) 2 243 := ⟨by decide +kernel, rfl⟩
theorem f1_243 : Isn method_2_code 243 (.iastore) 1 244 := ⟨by decide +kernel, rfl⟩
theorem f1_244 : Isn method_2_code 244 (.dup) 1 245 := ⟨by decide +kernel, rfl⟩
theorem f1_245 : Isn method_2_code 245 (.bipush 42) 2 247 := ⟨by decide +kernel, rfl⟩
theorem f1_247 : Isn method_2_code 247 (.bipush 42) 2 249 := ⟨by decide +kernel, rfl⟩
theorem f1_249 : Isn method_2_code 249 (.iastore) 1 250 := ⟨by decide +kernel, rfl⟩
theorem f1_250 : Isn method_2_code 250 (.dup) 1 251 := ⟨by decide +kernel, rfl⟩
theorem f1_251 : Isn method_2_code 251 (.bipush 43) 2 253 := ⟨by decide +kernel, rfl⟩
theorem f1_253 : Isn method_2_code 253 (.bipush 43) 2 255 := ⟨by decide +kernel, rfl⟩
theorem f1_255 : Isn method_2_code 255 (.iastore) 1 256 := ⟨by decide +kernel, rfl⟩
theorem f1_256 : Isn method_2_code 256 (.dup) 1 257 := ⟨by decide +kernel, rfl⟩
theorem f1_257 : Isn method_2_code 257 (.bipush 44) 2 259 := ⟨by decide +kernel, rfl⟩
theorem f1_259 : Isn method_2_code 259 (.bipush 44) 2 261 := ⟨by decide +kernel, rfl⟩
theorem f1_261 : Isn method_2_code 261 (.iastore) 1 262 := ⟨by decide +kernel, rfl⟩
theorem f1_262 : Isn method_2_code 262 (.dup) 1 263 := ⟨by decide +kernel, rfl⟩
theorem f1_263 : Isn method_2_code 263 (.bipush 45) 2 265 := ⟨by decide +kernel, rfl⟩
theorem f1_265 : Isn method_2_code 265 (.bipush 45) 2 267 := ⟨by decide +kernel, rfl⟩
theorem f1_267 : Isn method_2_code 267 (.iastore) 1 268 := ⟨by decide +kernel, rfl⟩
theorem f1_268 : Isn method_2_code 268 (.dup) 1 269 := ⟨by decide +kernel, rfl⟩
theorem f1_269 : Isn method_2_code 269 (.bipush 46) 2 271 := ⟨by decide +kernel, rfl⟩
theorem f1_271 : Isn method_2_code 271 (.bipush 46) 2 273 := ⟨by decide +kernel, rfl⟩
theorem f1_273 : Isn method_2_code 273 (.iastore) 1 274 := ⟨by decide +kernel, rfl⟩
theorem f1_274 : Isn method_2_code 274 (.dup) 1 275 := ⟨by decide +kernel, rfl⟩
theorem f1_275 : Isn method_2_code 275 (.bipush 47) 2 277 := ⟨by decide +kernel, rfl⟩
theorem f1_277 : Isn method_2_code 277 (.bipush 47) 2 279 := ⟨by decide +kernel, rfl⟩
theorem f1_279 : Isn method_2_code 279 (.iastore) 1 280 := ⟨by decide +kernel, rfl⟩
theorem f1_280 : Isn method_2_code 280 (.dup) 1 281 := ⟨by decide +kernel, rfl⟩
theorem f1_281 : Isn method_2_code 281 (.bipush 48) 2 283 := ⟨by decide +kernel, rfl⟩
theorem f1_283 : Isn method_2_code 283 (.bipush 48) 2 285 := ⟨by decide +kernel, rfl⟩
theorem f1_285 : Isn method_2_code 285 (.iastore) 1 286 := ⟨by decide +kernel, rfl⟩
theorem f1_286 : Isn method_2_code 286 (.dup) 1 287 := ⟨by decide +kernel, rfl⟩
theorem f1_287 : Isn method_2_code 287 (.bipush 49) 2 289 := ⟨by decide +kernel, rfl⟩
theorem f1_289 : Isn method_2_code 289 (.bipush 49) 2 291 := ⟨by decide +kernel, rfl⟩
theorem f1_291 : Isn method_2_code 291 (.iastore) 1 292 := ⟨by decide +kernel, rfl⟩
theorem f1_292 : Isn method_2_code 292 (.dup) 1 293 := ⟨by decide +kernel, rfl⟩
theorem f1_293 : Isn method_2_code 293 (.bipush 50) 2 295 := ⟨by decide +kernel, rfl⟩
theorem f1_295 : Isn method_2_code 295 (.bipush 50) 2 297 := ⟨by decide +kernel, rfl⟩
theorem f1_297 : Isn method_2_code 297 (.iastore) 1 298 := ⟨by decide +kernel, rfl⟩
theorem f1_298 : Isn method_2_code 298 (.dup) 1 299 := ⟨by decide +kernel, rfl⟩
theorem f1_299 : Isn method_2_code 299 (.bipush 51) 2 301 := ⟨by decide +kernel, rfl⟩
theorem f1_301 : Isn method_2_code 301 (.bipush 51) 2 303 := ⟨by decide +kernel, rfl⟩
theorem f1_303 : Isn method_2_code 303 (.iastore) 1 304 := ⟨by decide +kernel, rfl⟩
theorem f1_304 : Isn method_2_code 304 (.dup) 1 305 := ⟨by decide +kernel, rfl⟩
theorem f1_305 : Isn method_2_code 305 (.bipush 52) 2 307 := ⟨by decide +kernel, rfl⟩
theorem f1_307 : Isn method_2_code 307 (.bipush 52) 2 309 := ⟨by decide +kernel, rfl⟩
theorem f1_309 : Isn method_2_code 309 (.iastore) 1 310 := ⟨by decide +kernel, rfl⟩
theorem f1_310 : Isn method_2_code 310 (.dup) 1 311 := ⟨by decide +kernel, rfl⟩
theorem f1_311 : Isn method_2_code 311 (.bipush 53) 2 313 := ⟨by decide +kernel, rfl⟩
theorem f1_313 : Isn method_2_code 313 (.bipush 53) 2 315 := ⟨by decide +kernel, rfl⟩
theorem f1_315 : Isn method_2_code 315 (.iastore) 1 316 := ⟨by decide +kernel, rfl⟩
theorem f1_316 : Isn method_2_code 316 (.dup) 1 317 := ⟨by decide +kernel, rfl⟩
theorem f1_317 : Isn method_2_code 317 (.bipush 54) 2 319 := ⟨by decide +kernel, rfl⟩
theorem f1_319 : Isn method_2_code 319 (.bipush 54) 2 321 := ⟨by decide +kernel, rfl⟩
theorem f1_321 : Isn method_2_code 321 (.iastore) 1 322 := ⟨by decide +kernel, rfl⟩
theorem f1_322 : Isn method_2_code 322 (.dup) 1 323 := ⟨by decide +kernel, rfl⟩
theorem f1_323 : Isn method_2_code 323 (.bipush 55) 2 325 := ⟨by decide +kernel, rfl⟩
theorem f1_325 : Isn method_2_code 325 (.bipush 55) 2 327 := ⟨by decide +kernel, rfl⟩
theorem f1_327 : Isn method_2_code 327 (.iastore) 1 328 := ⟨by decide +kernel, rfl⟩
theorem f1_328 : Isn method_2_code 328 (.dup) 1 329 := ⟨by decide +kernel, rfl⟩
theorem f1_329 : Isn method_2_code 329 (.bipush 56) 2 331 := ⟨by decide +kernel, rfl⟩
theorem f1_331 : Isn method_2_code 331 (.bipush 56) 2 333 := ⟨by decide +kernel, rfl⟩
theorem f1_333 : Isn method_2_code 333 (.iastore) 1 334 := ⟨by decide +kernel, rfl⟩
theorem f1_334 : Isn method_2_code 334 (.dup) 1 335 := ⟨by decide +kernel, rfl⟩
theorem f1_335 : Isn method_2_code 335 (.bipush 57) 2 337 := ⟨by decide +kernel, rfl⟩
theorem f1_337 : Isn method_2_code 337 (.bipush 57) 2 339 := ⟨by decide +kernel, rfl⟩
theorem f1_339 : Isn method_2_code 339 (.iastore) 1 340 := ⟨by decide +kernel, rfl⟩
theorem f1_340 : Isn method_2_code 340 (.dup) 1 341 := ⟨by decide +kernel, rfl⟩
theorem f1_341 : Isn method_2_code 341 (.bipush 58) 2 343 := ⟨by decide +kernel, rfl⟩
theorem f1_343 : Isn method_2_code 343 (.bipush 58) 2 345 := ⟨by decide +kernel, rfl⟩
theorem f1_345 : Isn method_2_code 345 (.iastore) 1 346 := ⟨by decide +kernel, rfl⟩
theorem f1_346 : Isn method_2_code 346 (.dup) 1 347 := ⟨by decide +kernel, rfl⟩
theorem f1_347 : Isn method_2_code 347 (.bipush 59) 2 349 := ⟨by decide +kernel, rfl⟩
theorem f1_349 : Isn method_2_code 349 (.bipush 59) 2 351 := ⟨by decide +kernel, rfl⟩
theorem f1_351 : Isn method_2_code 351 (.iastore) 1 352 := ⟨by decide +kernel, rfl⟩
theorem f1_352 : Isn method_2_code 352 (.dup) 1 353 := ⟨by decide +kernel, rfl⟩
theorem f1_353 : Isn method_2_code 353 (.bipush 60) 2 355 := ⟨by decide +kernel, rfl⟩
theorem f1_355 : Isn method_2_code 355 (.bipush 60) 2 357 := ⟨by decide +kernel, rfl⟩
theorem f1_357 : Isn method_2_code 357 (.iastore) 1 358 := ⟨by decide +kernel, rfl⟩
theorem f1_358 : Isn method_2_code 358 (.dup) 1 359 := ⟨by decide +kernel, rfl⟩
theorem f1_359 : Isn method_2_code 359 (.bipush 61) 2 361 := ⟨by decide +kernel, rfl⟩
theorem f1_361 : Isn method_2_code 361 (.bipush 61) 2 363 := ⟨by decide +kernel, rfl⟩
theorem f1_363 : Isn method_2_code 363 (.iastore) 1 364 := ⟨by decide +kernel, rfl⟩
theorem f1_364 : Isn method_2_code 364 (.dup) 1 365 := ⟨by decide +kernel, rfl⟩
theorem f1_365 : Isn method_2_code 365 (.bipush 62) 2 367 := ⟨by decide +kernel, rfl⟩
theorem f1_367 : Isn method_2_code 367 (.bipush 62) 2 369 := ⟨by decide +kernel, rfl⟩
theorem f1_369 : Isn method_2_code 369 (.iastore) 1 370 := ⟨by decide +kernel, rfl⟩
theorem f1_370 : Isn method_2_code 370 (.areturn) 1 371 := ⟨by decide +kernel, rfl⟩
theorem f3_0 : Isn method_3_code 0 (.bipush 62) 2 2 := ⟨by decide +kernel, rfl⟩
theorem f3_2 : Isn method_3_code 2 (.newarray .int) 2 4 := ⟨by decide +kernel, rfl⟩
theorem f3_4 : Isn method_3_code 4 (.dup) 1 5 := ⟨by decide +kernel, rfl⟩
theorem f3_5 : Isn method_3_code 5 (.iconst 0) 1 6 := ⟨by decide +kernel, rfl⟩
theorem f3_6 : Isn method_3_code 6 (.iconst 0) 1 7 := ⟨by decide +kernel, rfl⟩
theorem f3_7 : Isn method_3_code 7 (.iastore) 1 8 := ⟨by decide +kernel, rfl⟩
theorem f3_8 : Isn method_3_code 8 (.dup) 1 9 := ⟨by decide +kernel, rfl⟩
theorem f3_9 : Isn method_3_code 9 (.iconst 1) 1 10 := ⟨by decide +kernel, rfl⟩
theorem f3_10 : Isn method_3_code 10 (.iconst 1) 1 11 := ⟨by decide +kernel, rfl⟩
theorem f3_11 : Isn method_3_code 11 (.iastore) 1 12 := ⟨by decide +kernel, rfl⟩
theorem f3_12 : Isn method_3_code 12 (.dup) 1 13 := ⟨by decide +kernel, rfl⟩
theorem f3_13 : Isn method_3_code 13 (.iconst 2) 1 14 := ⟨by decide +kernel, rfl⟩
theorem f3_14 : Isn method_3_code 14 (.iconst 2) 1 15 := ⟨by decide +kernel, rfl⟩
theorem f3_15 : Isn method_3_code 15 (.iastore) 1 16 := ⟨by decide +kernel, rfl⟩
theorem f3_16 : Isn method_3_code 16 (.dup) 1 17 := ⟨by decide +kernel, rfl⟩
theorem f3_17 : Isn method_3_code 17 (.iconst 3) 1 18 := ⟨by decide +kernel, rfl⟩
theorem f3_18 : Isn method_3_code 18 (.iconst 3) 1 19 := ⟨by decide +kernel, rfl⟩
theorem f3_19 : Isn method_3_code 19 (.iastore) 1 20 := ⟨by decide +kernel, rfl⟩
theorem f3_20 : Isn method_3_code 20 (.dup) 1 21 := ⟨by decide +kernel, rfl⟩
theorem f3_21 : Isn method_3_code 21 (.iconst 4) 1 22 := ⟨by decide +kernel, rfl⟩
theorem f3_22 : Isn method_3_code 22 (.iconst 4) 1 23 := ⟨by decide +kernel, rfl⟩
theorem f3_23 : Isn method_3_code 23 (.iastore) 1 24 := ⟨by decide +kernel, rfl⟩
theorem f3_24 : Isn method_3_code 24 (.dup) 1 25 := ⟨by decide +kernel, rfl⟩
theorem f3_25 : Isn method_3_code 25 (.iconst 5) 1 26 := ⟨by decide +kernel, rfl⟩
theorem f3_26 : Isn method_3_code 26 (.iconst 5) 1 27 := ⟨by decide +kernel, rfl⟩
theorem f3_27 : Isn method_3_code 27 (.iastore) 1 28 := ⟨by decide +kernel, rfl⟩
theorem f3_28 : Isn method_3_code 28 (.dup) 1 29 := ⟨by decide +kernel, rfl⟩
theorem f3_29 : Isn method_3_code 29 (.bipush 6) 2 31 := ⟨by decide +kernel, rfl⟩
theorem f3_31 : Isn method_3_code 31 (.bipush 6) 2 33 := ⟨by decide +kernel, rfl⟩
theorem f3_33 : Isn method_3_code 33 (.iastore) 1 34 := ⟨by decide +kernel, rfl⟩
theorem f3_34 : Isn method_3_code 34 (.dup) 1 35 := ⟨by decide +kernel, rfl⟩
theorem f3_35 : Isn method_3_code 35 (.bipush 7) 2 37 := ⟨by decide +kernel, rfl⟩
theorem f3_37 : Isn method_3_code 37 (.bipush 7) 2 39 := ⟨by decide +kernel, rfl⟩
theorem f3_39 : Isn method_3_code 39 (.iastore) 1 40 := ⟨by decide +kernel, rfl⟩
theorem f3_40 : Isn method_3_code 40 (.dup) 1 41 := ⟨by decide +kernel, rfl⟩
theorem f3_41 : Isn method_3_code 41 (.bipush 8) 2 43 := ⟨by decide +kernel, rfl⟩
theorem f3_43 : Isn method_3_code 43 (.bipush 8) 2 45 := ⟨by decide +kernel, rfl⟩
theorem f3_45 : Isn method_3_code 45 (.iastore) 1 46 := ⟨by decide +kernel, rfl⟩
theorem f3_46 : Isn method_3_code 46 (.dup) 1 47 := ⟨by decide +kernel, rfl⟩
theorem f3_47 : Isn method_3_code 47 (.bipush 9) 2 49 := ⟨by decide +kernel, rfl⟩
theorem f3_49 : Isn method_3_code 49 (.bipush 9) 2 51 := ⟨by decide +kernel, rfl⟩
theorem f3_51 : Isn method_3_code 51 (.iastore) 1 52 := ⟨by decide +kernel, rfl⟩
theorem f3_52 : Isn method_3_code 52 (.dup) 1 53 := ⟨by decide +kernel, rfl⟩
theorem f3_53 : Isn method_3_code 53 (.bipush 10) 2 55 := ⟨by decide +kernel, rfl⟩
theorem f3_55 : Isn method_3_code 55 (.bipush 10) 2 57 := ⟨by decide +kernel, rfl⟩
theorem f3_57 : Isn method_3_code 57 (.iastore) 1 58 := ⟨by decide +kernel, rfl⟩
theorem f3_58 : Isn method_3_code 58 (.dup) 1 59 := ⟨by decide +kernel, rfl⟩
theorem f3_59 : Isn method_3_code 59 (.bipush 11) 2 61 := ⟨by decide +kernel, rfl⟩
theorem f3_61 : Isn method_3_code 61 (.bipush 11) 2 63 := ⟨by decide +kernel, rfl⟩
theorem f3_63 : Isn method_3_code 63 (.iastore) 1 64 := ⟨by decide +kernel, rfl⟩
theorem f3_64 : Isn method_3_code 64 (.dup) 1 65 := ⟨by decide +kernel, rfl⟩
theorem f3_65 : Isn method_3_code 65 (.bipush 12) 2 67 := ⟨by decide +kernel, rfl⟩
theorem f3_67 : Isn method_3_code 67 (.bipush 12) 2 69 := ⟨by decide +kernel, rfl⟩
theorem f3_69 : Isn method_3_code 69 (.iastore) 1 70 := ⟨by decide +kernel, rfl⟩
theorem f3_70 : Isn method_3_code 70 (.dup) 1 71 := ⟨by decide +kernel, rfl⟩
theorem f3_71 : Isn method_3_code 71 (.bipush 13) 2 73 := ⟨by decide +kernel, rfl⟩
theorem f3_73 : Isn method_3_code 73 (.bipush 13) 2 75 := ⟨by decide +kernel, rfl⟩
theorem f3_75 : Isn method_3_code 75 (.iastore) 1 76 := ⟨by decide +kernel, rfl⟩
theorem f3_76 : Isn method_3_code 76 (.dup) 1 77 := ⟨by decide +kernel, rfl⟩
theorem f3_77 : Isn method_3_code 77 (.bipush 14) 2 79 := ⟨by decide +kernel, rfl⟩
theorem f3_79 : Isn method_3_code 79 (.bipush 14) 2 81 := ⟨by decide +kernel, rfl⟩
theorem f3_81 : Isn method_3_code 81 (.iastore) 1 82 := ⟨by decide +kernel, rfl⟩
theorem f3_82 : Isn method_3_code 82 (.dup) 1 83 := ⟨by decide +kernel, rfl⟩
theorem f3_83 : Isn method_3_code 83 (.bipush 15) 2 85 := ⟨by decide +kernel, rfl⟩
theorem f3_85 : Isn method_3_code 85 (.bipush 15) 2 87 := ⟨by decide +kernel, rfl⟩
theorem f3_87 : Isn method_3_code 87 (.iastore) 1 88 := ⟨by decide +kernel, rfl⟩
theorem f3_88 : Isn method_3_code 88 (.dup) 1 89 := ⟨by decide +kernel, rfl⟩
theorem f3_89 : Isn method_3_code 89 (.bipush 16) 2 91 := ⟨by decide +kernel, rfl⟩
theorem f3_91 : Isn method_3_code 91 (.bipush 16) 2 93 := ⟨by decide +kernel, rfl⟩
theorem f3_93 : Isn method_3_code 93 (.iastore) 1 94 := ⟨by decide +kernel, rfl⟩
theorem f3_94 : Isn method_3_code 94 (.dup) 1 95 := ⟨by decide +kernel, rfl⟩
theorem f3_95 : Isn method_3_code 95 (.bipush 17) 2 97 := ⟨by decide +kernel, rfl⟩
theorem f3_97 : Isn method_3_code 97 (.bipush 17) 2 99 := ⟨by decide +kernel, rfl⟩
theorem f3_99 : Isn method_3_code 99 (.iastore) 1 100 := ⟨by decide +kernel, rfl⟩
theorem f3_100 : Isn method_3_code 100 (.dup) 1 101 := ⟨by decide +kernel, rfl⟩
theorem f3_101 : Isn method_3_code 101 (.bipush 18) 2 103 := ⟨by decide +kernel, rfl⟩
theorem f3_103 : Isn method_3_code 103 (.bipush 18) 2 105 := ⟨by decide +kernel, rfl⟩
theorem f3_105 : Isn method_3_code 105 (.iastore) 1 106 := ⟨by decide +kernel, rfl⟩
theorem f3_106 : Isn method_3_code 106 (.dup) 1 107 := ⟨by decide +kernel, rfl⟩
theorem f3_107 : Isn method_3_code 107 (.bipush 19) 2 109 := ⟨by decide +kernel, rfl⟩
theorem f3_109 : Isn method_3_code 109 (.bipush 19) 2 111 := ⟨by decide +kernel, rfl⟩
theorem f3_111 : Isn method_3_code 111 (.iastore) 1 112 := ⟨by decide +kernel, rfl⟩
theorem f3_112 : Isn method_3_code 112 (.dup) 1 113 := ⟨by decide +kernel, rfl⟩
theorem f3_113 : Isn method_3_code 113 (.bipush 20) 2 115 := ⟨by decide +kernel, rfl⟩
theorem f3_115 : Isn method_3_code 115 (.bipush 20) 2 117 := ⟨by decide +kernel, rfl⟩
theorem f3_117 : Isn method_3_code 117 (.iastore) 1 118 := ⟨by decide +kernel, rfl⟩
theorem f3_118 : Isn method_3_code 118 (.dup) 1 119 := ⟨by decide +kernel, rfl⟩
theorem f3_119 : Isn method_3_code 119 (.bipush 21) 2 121 := ⟨by decide +kernel, rfl⟩
theorem f3_121 : Isn method_3_code 121 (.bipush 21) 2 123 := ⟨by decide +kernel, rfl⟩
theorem f3_123 : Isn method_3_code 123 (.iastore) 1 124 := ⟨by decide +kernel, rfl⟩
theorem f3_124 : Isn method_3_code 124 (.dup) 1 125 := ⟨by decide +kernel, rfl⟩
theorem f3_125 : Isn method_3_code 125 (.bipush 22) 2 127 := ⟨by decide +kernel, rfl⟩
theorem f3_127 : Isn method_3_code 127 (.bipush 22) 2 129 := ⟨by decide +kernel, rfl⟩
theorem f3_129 : Isn method_3_code 129 (.iastore) 1 130 := ⟨by decide +kernel, rfl⟩
theorem f3_130 : Isn method_3_code 130 (.dup) 1 131 := ⟨by decide +kernel, rfl⟩
theorem f3_131 : Isn method_3_code 131 (.bipush 23) 2 133 := ⟨by decide +kernel, rfl⟩
theorem f3_133 : Isn method_3_code 133 (.bipush 23) 2 135 := ⟨by decide +kernel, rfl⟩
theorem f3_135 : Isn method_3_code 135 (.iastore) 1 136 := ⟨by decide +kernel, rfl⟩
theorem f3_136 : Isn method_3_code 136 (.dup) 1 137 := ⟨by decide +kernel, rfl⟩
theorem f3_137 : Isn method_3_code 137 (.bipush 24) 2 139 := ⟨by decide +kernel, rfl⟩
theorem f3_139 : Isn method_3_code 139 (.bipush 24) 2 141 := ⟨by decide +kernel, rfl⟩
theorem f3_141 : Isn method_3_code 141 (.iastore) 1 142 := ⟨by decide +kernel, rfl⟩
theorem f3_142 : Isn method_3_code 142 (.dup) 1 143 := ⟨by decide +kernel, rfl⟩
theorem f3_143 : Isn method_3_code 143 (.bipush 25) 2 145 := ⟨by decide +kernel, rfl⟩
theorem f3_145 : Isn method_3_code 145 (.bipush 25) 2 147 := ⟨by decide +kernel, rfl⟩
theorem f3_147 : Isn method_3_code 147 (.iastore) 1 148 := ⟨by decide +kernel, rfl⟩
theorem f3_148 : Isn method_3_code 148 (.dup) 1 149 := ⟨by decide +kernel, rfl⟩
theorem f3_149 : Isn method_3_code 149 (.bipush 26) 2 151 := ⟨by decide +kernel, rfl⟩
theorem f3_151 : Isn method_3_code 151 (.bipush 26) 2 153 := ⟨by decide +kernel, rfl⟩
theorem f3_153 : Isn method_3_code 153 (.iastore) 1 154 := ⟨by decide +kernel, rfl⟩
theorem f3_154 : Isn method_3_code 154 (.dup) 1 155 := ⟨by decide +kernel, rfl⟩
theorem f3_155 : Isn method_3_code 155 (.bipush 27) 2 157 := ⟨by decide +kernel, rfl⟩
theorem f3_157 : Isn method_3_code 157 (.bipush 27) 2 159 := ⟨by decide +kernel, rfl⟩
theorem f3_159 : Isn method_3_code 159 (.iastore) 1 160 := ⟨by decide +kernel, rfl⟩
theorem f3_160 : Isn method_3_code 160 (.dup) 1 161 := ⟨by decide +kernel, rfl⟩
theorem f3_161 : Isn method_3_code 161 (.bipush 28) 2 163 := ⟨by decide +kernel, rfl⟩
theorem f3_163 : Isn method_3_code 163 (.bipush 28) 2 165 := ⟨by decide +kernel, rfl⟩
theorem f3_165 : Isn method_3_code 165 (.iastore) 1 166 := ⟨by decide +kernel, rfl⟩
theorem f3_166 : Isn method_3_code 166 (.dup) 1 167 := ⟨by decide +kernel, rfl⟩
theorem f3_167 : Isn method_3_code 167 (.bipush 29) 2 169 := ⟨by decide +kernel, rfl⟩
theorem f3_169 : Isn method_3_code 169 (.bipush 29) 2 171 := ⟨by decide +kernel, rfl⟩
theorem f3_171 : Isn method_3_code 171 (.iastore) 1 172 := ⟨by decide +kernel, rfl⟩
theorem f3_172 : Isn method_3_code 172 (.dup) 1 173 := ⟨by decide +kernel, rfl⟩
theorem f3_173 : Isn method_3_code 173 (.bipush 30) 2 175 := ⟨by decide +kernel, rfl⟩
theorem f3_175 : Isn method_3_code 175 (.bipush 30) 2 177 := ⟨by decide +kernel, rfl⟩
theorem f3_177 : Isn method_3_code 177 (.iastore) 1 178 := ⟨by decide +kernel, rfl⟩
theorem f3_178 : Isn method_3_code 178 (.dup) 1 179 := ⟨by decide +kernel, rfl⟩
theorem f3_179 : Isn method_3_code 179 (.bipush 31) 2 181 := ⟨by decide +kernel, rfl⟩
theorem f3_181 : Isn method_3_code 181 (.bipush 31) 2 183 := ⟨by decide +kernel, rfl⟩
theorem f3_183 : Isn method_3_code 183 (.iastore) 1 184 := ⟨by decide +kernel, rfl⟩
theorem f3_184 : Isn method_3_code 184 (.dup) 1 185 := ⟨by decide +kernel, rfl⟩
theorem f3_185 : Isn method_3_code 185 (.bipush 32) 2 187 := ⟨by decide +kernel, rfl⟩
theorem f3_187 : Isn method_3_code 187 (.bipush 32) 2 189 := ⟨by decide +kernel, rfl⟩
theorem f3_189 : Isn method_3_code 189 (.iastore) 1 190 := ⟨by decide +kernel, rfl⟩
theorem f3_190 : Isn method_3_code 190 (.dup) 1 191 := ⟨by decide +kernel, rfl⟩
theorem f3_191 : Isn method_3_code 191 (.bipush 33) 2 193 := ⟨by decide +kernel, rfl⟩
theorem f3_193 : Isn method_3_code 193 (.bipush 33) 2 195 := ⟨by decide +kernel, rfl⟩
theorem f3_195 : Isn method_3_code 195 (.iastore) 1 196 := ⟨by decide +kernel, rfl⟩
theorem f3_196 : Isn method_3_code 196 (.dup) 1 197 := ⟨by decide +kernel, rfl⟩
theorem f3_197 : Isn method_3_code 197 (.bipush 34) 2 199 := ⟨by decide +kernel, rfl⟩
theorem f3_199 : Isn method_3_code 199 (.bipush 34) 2 201 := ⟨by decide +kernel, rfl⟩
theorem f3_201 : Isn method_3_code 201 (.iastore) 1 202 := ⟨by decide +kernel, rfl⟩
theorem f3_202 : Isn method_3_code 202 (.dup) 1 203 := ⟨by decide +kernel, rfl⟩
theorem f3_203 : Isn method_3_code 203 (.bipush 35) 2 205 := ⟨by decide +kernel, rfl⟩
theorem f3_205 : Isn method_3_code 205 (.bipush 35) 2 207 := ⟨by decide +kernel, rfl⟩
theorem f3_207 : Isn method_3_code 207 (.iastore) 1 208 := ⟨by decide +kernel, rfl⟩
theorem f3_208 : Isn method_3_code 208 (.dup) 1 209 := ⟨by decide +kernel, rfl⟩
theorem f3_209 : Isn method_3_code 209 (.bipush 36) 2 211 := ⟨by decide +kernel, rfl⟩
theorem f3_211 : Isn method_3_code 211 (.bipush 36) 2 213 := ⟨by decide +kernel, rfl⟩
theorem f3_213 : Isn method_3_code 213 (.iastore) 1 214 := ⟨by decide +kernel, rfl⟩
theorem f3_214 : Isn method_3_code 214 (.dup) 1 215 := ⟨by decide +kernel, rfl⟩
theorem f3_215 : Isn method_3_code 215 (.bipush 37) 2 217 := ⟨by decide +kernel, rfl⟩
theorem f3_217 : Isn method_3_code 217 (.bipush 37) 2 219 := ⟨by decide +kernel, rfl⟩
theorem f3_219 : Isn method_3_code 219 (.iastore) 1 220 := ⟨by decide +kernel, rfl⟩
theorem f3_220 : Isn method_3_code 220 (.dup) 1 221 := ⟨by decide +kernel, rfl⟩
theorem f3_221 : Isn method_3_code 221 (.bipush 38) 2 223 := ⟨by decide +kernel, rfl⟩
theorem f3_223 : Isn method_3_code 223 (.bipush 38) 2 225 := ⟨by decide +kernel, rfl⟩
theorem f3_225 : Isn method_3_code 225 (.iastore) 1 226 := ⟨by decide +kernel, rfl⟩
theorem f3_226 : Isn method_3_code 226 (.dup) 1 227 := ⟨by decide +kernel, rfl⟩
theorem f3_227 : Isn method_3_code 227 (.bipush 39) 2 229 := ⟨by decide +kernel, rfl⟩
theorem f3_229 : Isn method_3_code 229 (.bipush 39) 2 231 := ⟨by decide +kernel, rfl⟩
theorem f3_231 : Isn method_3_code 231 (.iastore) 1 232 := ⟨by decide +kernel, rfl⟩
theorem f3_232 : Isn method_3_code 232 (.dup) 1 233 := ⟨by decide +kernel, rfl⟩
theorem f3_233 : Isn method_3_code 233 (.bipush 40) 2 235 := ⟨by decide +kernel, rfl⟩
theorem f3_235 : Isn method_3_code 235 (.bipush 40) 2 237 := ⟨by decide +kernel, rfl⟩
theorem f3_237 : Isn method_3_code 237 (.iastore) 1 238 := ⟨by decide +kernel, rfl⟩
theorem f3_238 : Isn method_3_code 238 (.dup) 1 239 := ⟨by decide +kernel, rfl⟩
theorem f3_239 : Isn method_3_code 239 (.bipush 41) 2 241 := ⟨by decide +kernel, rfl⟩
theorem f3_241 : Isn method_3_code 241 (.bipush 41) 2 243 := ⟨by decide +kernel, rfl⟩
theorem f3_243 : Isn method_3_code 243 (.iastore) 1 244 := ⟨by decide +kernel, rfl⟩
theorem f3_244 : Isn method_3_code 244 (.dup) 1 245 := ⟨by decide +kernel, rfl⟩
theorem f3_245 : Isn method_3_code 245 (.bipush 42) 2 247 := ⟨by decide +kernel, rfl⟩
theorem f3_247 : Isn method_3_code 247 (.bipush 42) 2 249 := ⟨by decide +kernel, rfl⟩
theorem f3_249 : Isn method_3_code 249 (.iastore) 1 250 := ⟨by decide +kernel, rfl⟩
theorem f3_250 : Isn method_3_code 250 (.dup) 1 251 := ⟨by decide +kernel, rfl⟩
theorem f3_251 : Isn method_3_code 251 (.bipush 43) 2 253 := ⟨by decide +kernel, rfl⟩
theorem f3_253 : Isn method_3_code 253 (.bipush 43) 2 255 := ⟨by decide +kernel, rfl⟩
theorem f3_255 : Isn method_3_code 255 (.iastore) 1 256 := ⟨by decide +kernel, rfl⟩
theorem f3_256 : Isn method_3_code 256 (.dup) 1 257 := ⟨by decide +kernel, rfl⟩
theorem f3_257 : Isn method_3_code 257 (.bipush 44) 2 259 := ⟨by decide +kernel, rfl⟩
theorem f3_259 : Isn method_3_code 259 (.bipush 44) 2 261 := ⟨by decide +kernel, rfl⟩
theorem f3_261 : Isn method_3_code 261 (.iastore) 1 262 := ⟨by decide +kernel, rfl⟩
theorem f3_262 : Isn method_3_code 262 (.dup) 1 263 := ⟨by decide +kernel, rfl⟩
theorem f3_263 : Isn method_3_code 263 (.bipush 45) 2 265 := ⟨by decide +kernel, rfl⟩
theorem f3_265 : Isn method_3_code 265 (.bipush 45) 2 267 := ⟨by decide +kernel, rfl⟩
theorem f3_267 : Isn method_3_code 267 (.iastore) 1 268 := ⟨by decide +kernel, rfl⟩
theorem f3_268 : Isn method_3_code 268 (.dup) 1 269 := ⟨by decide +kernel, rfl⟩
theorem f3_269 : Isn method_3_code 269 (.bipush 46) 2 271 := ⟨by decide +kernel, rfl⟩
theorem f3_271 : Isn method_3_code 271 (.bipush 46) 2 273 := ⟨by decide +kernel, rfl⟩
theorem f3_273 : Isn method_3_code 273 (.iastore) 1 274 := ⟨by decide +kernel, rfl⟩
theorem f3_274 : Isn method_3_code 274 (.dup) 1 275 := ⟨by decide +kernel, rfl⟩
theorem f3_275 : Isn method_3_code 275 (.bipush 47) 2 277 := ⟨by decide +kernel, rfl⟩
theorem f3_277 : Isn method_3_code 277 (.bipush 47) 2 279 := ⟨by decide +kernel, rfl⟩
theorem f3_279 : Isn method_3_code 279 (.iastore) 1 280 := ⟨by decide +kernel, rfl⟩
theorem f3_280 : Isn method_3_code 280 (.dup) 1 281 := ⟨by decide +kernel, rfl⟩
theorem f3_281 : Isn method_3_code 281 (.bipush 48) 2 283 := ⟨by decide +kernel, rfl⟩
theorem f3_283 : Isn method_3_code 283 (.bipush 48) 2 285 := ⟨by decide +kernel, rfl⟩
theorem f3_285 : Isn method_3_code 285 (.iastore) 1 286 := ⟨by decide +kernel, rfl⟩
theorem f3_286 : Isn method_3_code 286 (.dup) 1 287 := ⟨by decide +kernel, rfl⟩
theorem f3_287 : Isn method_3_code 287 (.bipush 49) 2 289 := ⟨by decide +kernel, rfl⟩
theorem f3_289 : Isn method_3_code 289 (.bipush 49) 2 291 := ⟨by decide +kernel, rfl⟩
theorem f3_291 : Isn method_3_code 291 (.iastore) 1 292 := ⟨by decide +kernel, rfl⟩
theorem f3_292 : Isn method_3_code 292 (.dup) 1 293 := ⟨by decide +kernel, rfl⟩
theorem f3_293 : Isn method_3_code 293 (.bipush 50) 2 295 := ⟨by decide +kernel, rfl⟩
theorem f3_295 : Isn method_3_code 295 (.bipush 50) 2 297 := ⟨by decide +kernel, rfl⟩
theorem f3_297 : Isn method_3_code 297 (.iastore) 1 298 := ⟨by decide +kernel, rfl⟩
theorem f3_298 : Isn method_3_code 298 (.dup) 1 299 := ⟨by decide +kernel, rfl⟩
theorem f3_299 : Isn method_3_code 299 (.bipush 51) 2 301 := ⟨by decide +kernel, rfl⟩
theorem f3_301 : Isn method_3_code 301 (.bipush 51) 2 303 := ⟨by decide +kernel, rfl⟩
theorem f3_303 : Isn method_3_code 303 (.iastore) 1 304 := ⟨by decide +kernel, rfl⟩
theorem f3_304 : Isn method_3_code 304 (.dup) 1 305 := ⟨by decide +kernel, rfl⟩
theorem f3_305 : Isn method_3_code 305 (.bipush 52) 2 307 := ⟨by decide +kernel, rfl⟩
theorem f3_307 : Isn method_3_code 307 (.bipush 52) 2 309 := ⟨by decide +kernel, rfl⟩
theorem f3_309 : Isn method_3_code 309 (.iastore) 1 310 := ⟨by decide +kernel, rfl⟩
theorem f3_310 : Isn method_3_code 310 (.dup) 1 311 := ⟨by decide +kernel, rfl⟩
theorem f3_311 : Isn method_3_code 311 (.bipush 53) 2 313 := ⟨by decide +kernel, rfl⟩
theorem f3_313 : Isn method_3_code 313 (.bipush 53) 2 315 := ⟨by decide +kernel, rfl⟩
theorem f3_315 : Isn method_3_code 315 (.iastore) 1 316 := ⟨by decide +kernel, rfl⟩
theorem f3_316 : Isn method_3_code 316 (.dup) 1 317 := ⟨by decide +kernel, rfl⟩
theorem f3_317 : Isn method_3_code 317 (.bipush 54) 2 319 := ⟨by decide +kernel, rfl⟩
theorem f3_319 : Isn method_3_code 319 (.bipush 54) 2 321 := ⟨by decide +kernel, rfl⟩
theorem f3_321 : Isn method_3_code 321 (.iastore) 1 322 := ⟨by decide +kernel, rfl⟩
theorem f3_322 : Isn method_3_code 322 (.dup) 1 323 := ⟨by decide +kernel, rfl⟩
theorem f3_323 : Isn method_3_code 323 (.bipush 55) 2 325 := ⟨by decide +kernel, rfl⟩
theorem f3_325 : Isn method_3_code 325 (.bipush 55) 2 327 := ⟨by decide +kernel, rfl⟩
theorem f3_327 : Isn method_3_code 327 (.iastore) 1 328 := ⟨by decide +kernel, rfl⟩
theorem f3_328 : Isn method_3_code 328 (.dup) 1 329 := ⟨by decide +kernel, rfl⟩
theorem f3_329 : Isn method_3_code 329 (.bipush 56) 2 331 := ⟨by decide +kernel, rfl⟩
theorem f3_331 : Isn method_3_code 331 (.bipush 56) 2 333 := ⟨by decide +kernel, rfl⟩
theorem f3_333 : Isn method_3_code 333 (.iastore) 1 334 := ⟨by decide +kernel, rfl⟩
theorem f3_334 : Isn method_3_code 334 (.dup) 1 335 := ⟨by decide +kernel, rfl⟩
theorem f3_335 : Isn method_3_code 335 (.bipush 57) 2 337 := ⟨by decide +kernel, rfl⟩
theorem f3_337 : Isn method_3_code 337 (.bipush 57) 2 339 := ⟨by decide +kernel, rfl⟩
theorem f3_339 : Isn method_3_code 339 (.iastore) 1 340 := ⟨by decide +kernel, rfl⟩
theorem f3_340 : Isn method_3_code 340 (.dup) 1 341 := ⟨by decide +kernel, rfl⟩
theorem f3_341 : Isn method_3_code 341 (.bipush 58) 2 343 := ⟨by decide +kernel, rfl⟩
theorem f3_343 : Isn method_3_code 343 (.bipush 58) 2 345 := ⟨by decide +kernel, rfl⟩
theorem f3_345 : Isn method_3_code 345 (.iastore) 1 346 := ⟨by decide +kernel, rfl⟩
theorem f3_346 : Isn method_3_code 346 (.dup) 1 347 := ⟨by decide +kernel, rfl⟩
theorem f3_347 : Isn method_3_code 347 (.bipush 59) 2 349 := ⟨by decide +kernel, rfl⟩
theorem f3_349 : Isn method_3_code 349 (.bipush 59) 2 351 := ⟨by decide +kernel, rfl⟩
theorem f3_351 : Isn method_3_code 351 (.iastore) 1 352 := ⟨by decide +kernel, rfl⟩
theorem f3_352 : Isn method_3_code 352 (.dup) 1 353 := ⟨by decide +kernel, rfl⟩
theorem f3_353 : Isn method_3_code 353 (.bipush 60) 2 355 := ⟨by decide +kernel, rfl⟩
theorem f3_355 : Isn method_3_code 355 (.bipush 60) 2 357 := ⟨by decide +kernel, rfl⟩
theorem f3_357 : Isn method_3_code 357 (.iastore) 1 358 := ⟨by decide +kernel, rfl⟩
theorem f3_358 : Isn method_3_code 358 (.dup) 1 359 := ⟨by decide +kernel, rfl⟩
theorem f3_359 : Isn method_3_code 359 (.bipush 61) 2 361 := ⟨by decide +kernel, rfl⟩
theorem f3_361 : Isn method_3_code 361 (.bipush 61) 2 363 := ⟨by decide +kernel, rfl⟩
theorem f3_363 : Isn method_3_code 363 (.iastore) 1 364 := ⟨by decide +kernel, rfl⟩
theorem f3_364 : Isn method_3_code 364 (.areturn) 1 365 := ⟨by decide +kernel, rfl⟩
theorem f4_0 : Isn method_4_code 0 (.bipush 64) 2 2 := ⟨by decide +kernel, rfl⟩
theorem f4_2 : Isn method_4_code 2 (.newarray .int) 2 4 := ⟨by decide +kernel, rfl⟩
theorem f4_4 : Isn method_4_code 4 (.dup) 1 5 := ⟨by decide +kernel, rfl⟩
theorem f4_5 : Isn method_4_code 5 (.iconst 0) 1 6 := ⟨by decide +kernel, rfl⟩
theorem f4_6 : Isn method_4_code 6 (.iconst 0) 1 7 := ⟨by decide +kernel, rfl⟩
theorem f4_7 : Isn method_4_code 7 (.iastore) 1 8 := ⟨by decide +kernel, rfl⟩
theorem f4_8 : Isn method_4_code 8 (.dup) 1 9 := ⟨by decide +kernel, rfl⟩
theorem f4_9 : Isn method_4_code 9 (.iconst 1) 1 10 := ⟨by decide +kernel, rfl⟩
theorem f4_10 : Isn method_4_code 10 (.iconst 1) 1 11 := ⟨by decide +kernel, rfl⟩
theorem f4_11 : Isn method_4_code 11 (.iastore) 1 12 := ⟨by decide +kernel, rfl⟩
theorem f4_12 : Isn method_4_code 12 (.dup) 1 13 := ⟨by decide +kernel, rfl⟩
theorem f4_13 : Isn method_4_code 13 (.iconst 2) 1 14 := ⟨by decide +kernel, rfl⟩
theorem f4_14 : Isn method_4_code 14 (.iconst 2) 1 15 := ⟨by decide +kernel, rfl⟩
theorem f4_15 : Isn method_4_code 15 (.iastore) 1 16 := ⟨by decide +kernel, rfl⟩
theorem f4_16 : Isn method_4_code 16 (.dup) 1 17 := ⟨by decide +kernel, rfl⟩
theorem f4_17 : Isn method_4_code 17 (.iconst 3) 1 18 := ⟨by decide +kernel, rfl⟩
theorem f4_18 : Isn method_4_code 18 (.iconst 3) 1 19 := ⟨by decide +kernel, rfl⟩
theorem f4_19 : Isn method_4_code 19 (.iastore) 1 20 := ⟨by decide +kernel, rfl⟩
theorem f4_20 : Isn method_4_code 20 (.dup) 1 21 := ⟨by decide +kernel, rfl⟩
theorem f4_21 : Isn method_4_code 21 (.iconst 4) 1 22 := ⟨by decide +kernel, rfl⟩
theorem f4_22 : Isn method_4_code 22 (.iconst 4) 1 23 := ⟨by decide +kernel, rfl⟩
theorem f4_23 : Isn method_4_code 23 (.iastore) 1 24 := ⟨by decide +kernel, rfl⟩
theorem f4_24 : Isn method_4_code 24 (.dup) 1 25 := ⟨by decide +kernel, rfl⟩
theorem f4_25 : Isn method_4_code 25 (.iconst 5) 1 26 := ⟨by decide +kernel, rfl⟩
theorem f4_26 : Isn method_4_code 26 (.iconst 5) 1 27 := ⟨by decide +kernel, rfl⟩
theorem f4_27 : Isn method_4_code 27 (.iastore) 1 28 := ⟨by decide +kernel, rfl⟩
theorem f4_28 : Isn method_4_code 28 (.dup) 1 29 := ⟨by decide +kernel, rfl⟩
theorem f4_29 : Isn method_4_code 29 (.bipush 6) 2 31 := ⟨by decide +kernel, rfl⟩
theorem f4_31 : Isn method_4_code 31 (.bipush 6) 2 33 := ⟨by decide +kernel, rfl⟩
theorem f4_33 : Isn method_4_code 33 (.iastore) 1 34 := ⟨by decide +kernel, rfl⟩
theorem f4_34 : Isn method_4_code 34 (.dup) 1 35 := ⟨by decide +kernel, rfl⟩
theorem f4_35 : Isn method_4_code 35 (.bipush 7) 2 37 := ⟨by decide +kernel, rfl⟩
theorem f4_37 : Isn method_4_code 37 (.bipush 7) 2 39 := ⟨by decide +kernel, rfl⟩
theorem f4_39 : Isn method_4_code 39 (.iastore) 1 40 := ⟨by decide +kernel, rfl⟩
theorem f4_40 : Isn method_4_code 40 (.dup) 1 41 := ⟨by decide +kernel, rfl⟩
theorem f4_41 : Isn method_4_code 41 (.bipush 8) 2 43 := ⟨by decide +kernel, rfl⟩
theorem f4_43 : Isn method_4_code 43 (.bipush 8) 2 45 := ⟨by decide +kernel, rfl⟩
theorem f4_45 : Isn method_4_code 45 (.iastore) 1 46 := ⟨by decide +kernel, rfl⟩
theorem f4_46 : Isn method_4_code 46 (.dup) 1 47 := ⟨by decide +kernel, rfl⟩
theorem f4_47 : Isn method_4_code 47 (.bipush 9) 2 49 := ⟨by decide +kernel, rfl⟩
theorem f4_49 : Isn method_4_code 49 (.bipush 9) 2 51 := ⟨by decide +kernel, rfl⟩
theorem f4_51 : Isn method_4_code 51 (.iastore) 1 52 := ⟨by decide +kernel, rfl⟩
theorem f4_52 : Isn method_4_code 52 (.dup) 1 53 := ⟨by decide +kernel, rfl⟩
theorem f4_53 : Isn method_4_code 53 (.bipush 10) 2 55 := ⟨by decide +kernel, rfl⟩
theorem f4_55 : Isn method_4_code 55 (.bipush 10) 2 57 := ⟨by decide +kernel, rfl⟩
theorem f4_57 : Isn method_4_code 57 (.iastore) 1 58 := ⟨by decide +kernel, rfl⟩
theorem f4_58 : Isn method_4_code 58 (.dup) 1 59 := ⟨by decide +kernel, rfl⟩
theorem f4_59 : Isn method_4_code 59 (.bipush 11) 2 61 := ⟨by decide +kernel, rfl⟩
theorem f4_61 : Isn method_4_code 61 (.bipush 11) 2 63 := ⟨by decide +kernel, rfl⟩
theorem f4_63 : Isn method_4_code 63 (.iastore) 1 64 := ⟨by decide +kernel, rfl⟩
theorem f4_64 : Isn method_4_code 64 (.dup) 1 65 := ⟨by decide +kernel, rfl⟩
theorem f4_65 : Isn method_4_code 65 (.bipush 12) 2 67 := ⟨by decide +kernel, rfl⟩
theorem f4_67 : Isn method_4_code 67 (.bipush 12) 2 69 := ⟨by decide +kernel, rfl⟩
theorem f4_69 : Isn method_4_code 69 (.iastore) 1 70 := ⟨by decide +kernel, rfl⟩
theorem f4_70 : Isn method_4_code 70 (.dup) 1 71 := ⟨by decide +kernel, rfl⟩
theorem f4_71 : Isn method_4_code 71 (.bipush 13) 2 73 := ⟨by decide +kernel, rfl⟩
theorem f4_73 : Isn method_4_code 73 (.bipush 13) 2 75 := ⟨by decide +kernel, rfl⟩
theorem f4_75 : Isn method_4_code 75 (.iastore) 1 76 := ⟨by decide +kernel, rfl⟩
theorem f4_76 : Isn method_4_code 76 (.dup) 1 77 := ⟨by decide +kernel, rfl⟩
theorem f4_77 : Isn method_4_code 77 (.bipush 14) 2 79 := ⟨by decide +kernel, rfl⟩
theorem f4_79 : Isn method_4_code 79 (.bipush 14) 2 81 := ⟨by decide +kernel, rfl⟩
theorem f4_81 : Isn method_4_code 81 (.iastore) 1 82 := ⟨by decide +kernel, rfl⟩
theorem f4_82 : Isn method_4_code 82 (.dup) 1 83 := ⟨by decide +kernel, rfl⟩
theorem f4_83 : Isn method_4_code 83 (.bipush 15) 2 85 := ⟨by decide +kernel, rfl⟩
theorem f4_85 : Isn method_4_code 85 (.bipush 15) 2 87 := ⟨by decide +kernel, rfl⟩
theorem f4_87 : Isn method_4_code 87 (.iastore) 1 88 := ⟨by decide +kernel, rfl⟩
theorem f4_88 : Isn method_4_code 88 (.dup) 1 89 := ⟨by decide +kernel, rfl⟩
theorem f4_89 : Isn method_4_code 89 (.bipush 16) 2 91 := ⟨by decide +kernel, rfl⟩
theorem f4_91 : Isn method_4_code 91 (.bipush 16) 2 93 := ⟨by decide +kernel, rfl⟩
theorem f4_93 : Isn method_4_code 93 (.iastore) 1 94 := ⟨by decide +kernel, rfl⟩
theorem f4_94 : Isn method_4_code 94 (.dup) 1 95 := ⟨by decide +kernel, rfl⟩
theorem f4_95 : Isn method_4_code 95 (.bipush 17) 2 97 := ⟨by decide +kernel, rfl⟩
theorem f4_97 : Isn method_4_code 97 (.bipush 17) 2 99 := ⟨by decide +kernel, rfl⟩
theorem f4_99 : Isn method_4_code 99 (.iastore) 1 100 := ⟨by decide +kernel, rfl⟩
theorem f4_100 : Isn method_4_code 100 (.dup) 1 101 := ⟨by decide +kernel, rfl⟩
theorem f4_101 : Isn method_4_code 101 (.bipush 18) 2 103 := ⟨by decide +kernel, rfl⟩
theorem f4_103 : Isn method_4_code 103 (.bipush 18) 2 105 := ⟨by decide +kernel, rfl⟩
theorem f4_105 : Isn method_4_code 105 (.iastore) 1 106 := ⟨by decide +kernel, rfl⟩
theorem f4_106 : Isn method_4_code 106 (.dup) 1 107 := ⟨by decide +kernel, rfl⟩
theorem f4_107 : Isn method_4_code 107 (.bipush 19) 2 109 := ⟨by decide +kernel, rfl⟩
theorem f4_109 : Isn method_4_code 109 (.bipush 19) 2 111 := ⟨by decide +kernel, rfl⟩
theorem f4_111 : Isn method_4_code 111 (.iastore) 1 112 := ⟨by decide +kernel, rfl⟩
theorem f4_112 : Isn method_4_code 112 (.dup) 1 113 := ⟨by decide +kernel, rfl⟩
theorem f4_113 : Isn method_4_code 113 (.bipush 20) 2 115 := ⟨by decide +kernel, rfl⟩
theorem f4_115 : Isn method_4_code 115 (.bipush 20) 2 117 := ⟨by decide +kernel, rfl⟩
theorem f4_117 : Isn method_4_code 117 (.iastore) 1 118 := ⟨by decide +kernel, rfl⟩
theorem f4_118 : Isn method_4_code 118 (.dup) 1 119 := ⟨by decide +kernel, rfl⟩
theorem f4_119 : Isn method_4_code 119 (.bipush 21) 2 121 := ⟨by decide +kernel, rfl⟩
theorem f4_121 : Isn method_4_code 121 (.bipush 21) 2 123 := ⟨by decide +kernel, rfl⟩
theorem f4_123 : Isn method_4_code 123 (.iastore) 1 124 := ⟨by decide +kernel, rfl⟩
theorem f4_124 : Isn method_4_code 124 (.dup) 1 125 := ⟨by decide +kernel, rfl⟩
theorem f4_125 : Isn method_4_code 125 (.bipush 22) 2 127 := ⟨by decide +kernel, rfl⟩
theorem f4_127 : Isn method_4_code 127 (.bipush 22) 2 129 := ⟨by decide +kernel, rfl⟩
theorem f4_129 : Isn method_4_code 129 (.iastore) 1 130 := ⟨by decide +kernel, rfl⟩
theorem f4_130 : Isn method_4_code 130 (.dup) 1 131 := ⟨by decide +kernel, rfl⟩
theorem f4_131 : Isn method_4_code 131 (.bipush 23) 2 133 := ⟨by decide +kernel, rfl⟩
theorem f4_133 : Isn method_4_code 133 (.bipush 23) 2 135 := ⟨by decide +kernel, rfl⟩
theorem f4_135 : Isn method_4_code 135 (.iastore) 1 136 := ⟨by decide +kernel, rfl⟩
theorem f4_136 : Isn method_4_code 136 (.dup) 1 137 := ⟨by decide +kernel, rfl⟩
theorem f4_137 : Isn method_4_code 137 (.bipush 24) 2 139 := ⟨by decide +kernel, rfl⟩
theorem f4_139 : Isn method_4_code 139 (.bipush 24) 2 141 := ⟨by decide +kernel, rfl⟩
theorem f4_141 : Isn method_4_code 141 (.iastore) 1 142 := ⟨by decide +kernel, rfl⟩
theorem f4_142 : Isn method_4_code 142 (.dup) 1 143 := ⟨by decide +kernel, rfl⟩
theorem f4_143 : Isn method_4_code 143 (.bipush 25) 2 145 := ⟨by decide +kernel, rfl⟩
theorem f4_145 : Isn method_4_code 145 (.bipush 25) 2 147 := ⟨by decide +kernel, rfl⟩
theorem f4_147 : Isn method_4_code 147 (.iastore) 1 148 := ⟨by decide +kernel, rfl⟩
theorem f4_148 : Isn method_4_code 148 (.dup) 1 149 := ⟨by decide +kernel, rfl⟩
theorem f4_149 : Isn method_4_code 149 (.bipush 26) 2 151 := ⟨by decide +kernel, rfl⟩
theorem f4_151 : Isn method_4_code 151 (.bipush 26) 2 153 := ⟨by decide +kernel, rfl⟩
theorem f4_153 : Isn method_4_code 153 (.iastore) 1 154 := ⟨by decide +kernel, rfl⟩
theorem f4_154 : Isn method_4_code 154 (.dup) 1 155 := ⟨by decide +kernel, rfl⟩
theorem f4_155 : Isn method_4_code 155 (.bipush 27) 2 157 := ⟨by decide +kernel, rfl⟩
theorem f4_157 : Isn method_4_code 157 (.bipush 27) 2 159 := ⟨by decide +kernel, rfl⟩
theorem f4_159 : Isn method_4_code 159 (.iastore) 1 160 := ⟨by decide +kernel, rfl⟩
theorem f4_160 : Isn method_4_code 160 (.dup) 1 161 := ⟨by decide +kernel, rfl⟩
theorem f4_161 : Isn method_4_code 161 (.bipush 28) 2 163 := ⟨by decide +kernel, rfl⟩
theorem f4_163 : Isn method_4_code 163 (.bipush 28) 2 165 := ⟨by decide +kernel, rfl⟩
theorem f4_165 : Isn method_4_code 165 (.iastore) 1 166 := ⟨by decide +kernel, rfl⟩
theorem f4_166 : Isn method_4_code 166 (.dup) 1 167 := ⟨by decide +kernel, rfl⟩
theorem f4_167 : Isn method_4_code 167 (.bipush 29) 2 169 := ⟨by decide +kernel, rfl⟩
theorem f4_169 : Isn method_4_code 169 (.bipush 29) 2 171 := ⟨by decide +kernel, rfl⟩
theorem f4_171 : Isn method_4_code 171 (.iastore) 1 172 := ⟨by decide +kernel, rfl⟩
theorem f4_172 : Isn method_4_code 172 (.dup) 1 173 := ⟨by decide +kernel, rfl⟩
theorem f4_173 : Isn method_4_code 173 (.bipush 30) 2 175 := ⟨by decide +kernel, rfl⟩
theorem f4_175 : Isn method_4_code 175 (.bipush 30) 2 177 := ⟨by decide +kernel, rfl⟩
theorem f4_177 : Isn method_4_code 177 (.iastore) 1 178 := ⟨by decide +kernel, rfl⟩
theorem f4_178 : Isn method_4_code 178 (.dup) 1 179 := ⟨by decide +kernel, rfl⟩
theorem f4_179 : Isn method_4_code 179 (.bipush 31) 2 181 := ⟨by decide +kernel, rfl⟩
theorem f4_181 : Isn method_4_code 181 (.bipush 31) 2 183 := ⟨by decide +kernel, rfl⟩
theorem f4_183 : Isn method_4_code 183 (.iastore) 1 184 := ⟨by decide +kernel, rfl⟩
theorem f4_184 : Isn method_4_code 184 (.dup) 1 185 := ⟨by decide +kernel, rfl⟩
theorem f4_185 : Isn method_4_code 185 (.bipush 32) 2 187 := ⟨by decide +kernel, rfl⟩
theorem f4_187 : Isn method_4_code 187 (.bipush 32) 2 189 := ⟨by decide +kernel, rfl⟩
theorem f4_189 : Isn method_4_code 189 (.iastore) 1 190 := ⟨by decide +kernel, rfl⟩
theorem f4_190 : Isn method_4_code 190 (.dup) 1 191 := ⟨by decide +kernel, rfl⟩
theorem f4_191 : Isn method_4_code 191 (.bipush 33) 2 193 := ⟨by decide +kernel, rfl⟩
theorem f4_193 : Isn method_4_code 193 (.bipush 33) 2 195 := ⟨by decide +kernel, rfl⟩
theorem f4_195 : Isn method_4_code 195 (.iastore) 1 196 := ⟨by decide +kernel, rfl⟩
theorem f4_196 : Isn method_4_code 196 (.dup) 1 197 := ⟨by decide +kernel, rfl⟩
theorem f4_197 : Isn method_4_code 197 (.bipush 34) 2 199 := ⟨by decide +kernel, rfl⟩
theorem f4_199 : Isn method_4_code 199 (.bipush 34) 2 201 := ⟨by decide +kernel, rfl⟩
theorem f4_201 : Isn method_4_code 201 (.iastore) 1 202 := ⟨by decide +kernel, rfl⟩
theorem f4_202 : Isn method_4_code 202 (.dup) 1 203 := ⟨by decide +kernel, rfl⟩
theorem f4_203 : Isn method_4_code 203 (.bipush 35) 2 205 := ⟨by decide +kernel, rfl⟩
theorem f4_205 : Isn method_4_code 205 (.bipush 35) 2 207 := ⟨by decide +kernel, rfl⟩
theorem f4_207 : Isn method_4_code 207 (.iastore) 1 208 := ⟨by decide +kernel, rfl⟩
theorem f4_208 : Isn method_4_code 208 (.dup) 1 209 := ⟨by decide +kernel, rfl⟩
theorem f4_209 : Isn method_4_code 209 (.bipush 36) 2 211 := ⟨by decide +kernel, rfl⟩
theorem f4_211 : Isn method_4_code 211 (.bipush 36) 2 213 := ⟨by decide +kernel, rfl⟩
theorem f4_213 : Isn method_4_code 213 (.iastore) 1 214 := ⟨by decide +kernel, rfl⟩
theorem f4_214 : Isn method_4_code 214 (.dup) 1 215 := ⟨by decide +kernel, rfl⟩
theorem f4_215 : Isn method_4_code 215 (.bipush 37) 2 217 := ⟨by decide +kernel, rfl⟩
theorem f4_217 : Isn method_4_code 217 (.bipush 37) 2 219 := ⟨by decide +kernel, rfl⟩
theorem f4_219 : Isn method_4_code 219 (.iastore) 1 220 := ⟨by decide +kernel, rfl⟩
theorem f4_220 : Isn method_4_code 220 (.dup) 1 221 := ⟨by decide +kernel, rfl⟩
theorem f4_221 : Isn method_4_code 221 (.bipush 38) 2 223 := ⟨by decide +kernel, rfl⟩
theorem f4_223 : Isn method_4_code 223 (.bipush 38) 2 225 := ⟨by decide +kernel, rfl⟩
theorem f4_225 : Isn method_4_code 225 (.iastore) 1 226 := ⟨by decide +kernel, rfl⟩
theorem f4_226 : Isn method_4_code 226 (.dup) 1 227 := ⟨by decide +kernel, rfl⟩
theorem f4_227 : Isn method_4_code 227 (.bipush 39) 2 229 := ⟨by decide +kernel, rfl⟩
theorem f4_229 : Isn method_4_code 229 (.bipush 39) 2 231 := ⟨by decide +kernel, rfl⟩
theorem f4_231 : Isn method_4_code 231 (.iastore) 1 232 := ⟨by decide +kernel, rfl⟩
theorem f4_232 : Isn method_4_code 232 (.dup) 1 233 := ⟨by decide +kernel, rfl⟩
theorem f4_233 : Isn method_4_code 233 (.bipush 40) 2 235 := ⟨by decide +kernel, rfl⟩
theorem f4_235 : Isn method_4_code 235 (.bipush 40) 2 237 := ⟨by decide +kernel, rfl⟩
theorem f4_237 : Isn method_4_code 237 (.iastore) 1 238 := ⟨by decide +kernel, rfl⟩
theorem f4_238 : Isn method_4_code 238 (.dup) 1 239 := ⟨by decide +kernel, rfl⟩
theorem f4_239 : Isn method_4_code 239 (.bipush 41) 2 241 := ⟨by decide +kernel, rfl⟩
theorem f4_241 : Isn method_4_code 241 (.bipush 41) 2 243 := ⟨by decide +kernel, rfl⟩
theorem f4_243 : Isn method_4_code 243 (.iastore) 1 244 := ⟨by decide +kernel, rfl⟩
theorem f4_244 : Isn method_4_code 244 (.dup) 1 245 := ⟨by decide +kernel, rfl⟩
theorem f4_245 : Isn method_4_code 245 (.bipush 42) 2 247 := ⟨by decide +kernel, rfl⟩
theorem f4_247 : Isn method_4_code 247 (.bipush 42) 2 249 := ⟨by decide +kernel, rfl⟩
theorem f4_249 : Isn method_4_code 249 (.iastore) 1 250 := ⟨by decide +kernel, rfl⟩
theorem f4_250 : Isn method_4_code 250 (.dup) 1 251 := ⟨by decide +kernel, rfl⟩
theorem f4_251 : Isn method_4_code 251 (.bipush 43) 2 253 := ⟨by decide +kernel, rfl⟩
theorem f4_253 : Isn method_4_code 253 (.bipush 43) 2 255 := ⟨by decide +kernel, rfl⟩
theorem f4_255 : Isn method_4_code 255 (.iastore) 1 256 := ⟨by decide +kernel, rfl⟩
theorem f4_256 : Isn method_4_code 256 (.dup) 1 257 := ⟨by decide +kernel, rfl⟩
theorem f4_257 : Isn method_4_code 257 (.bipush 44) 2 259 := ⟨by decide +kernel, rfl⟩
theorem f4_259 : Isn method_4_code 259 (.bipush 44) 2 261 := ⟨by decide +kernel, rfl⟩
theorem f4_261 : Isn method_4_code 261 (.iastore) 1 262 := ⟨by decide +kernel, rfl⟩
theorem f4_262 : Isn method_4_code 262 (.dup) 1 263 := ⟨by decide +kernel, rfl⟩
theorem f4_263 : Isn method_4_code 263 (.bipush 45) 2 265 := ⟨by decide +kernel, rfl⟩
theorem f4_265 : Isn method_4_code 265 (.bipush 45) 2 267 := ⟨by decide +kernel, rfl⟩
theorem f4_267 : Isn method_4_code 267 (.iastore) 1 268 := ⟨by decide +kernel, rfl⟩
theorem f4_268 : Isn method_4_code 268 (.dup) 1 269 := ⟨by decide +kernel, rfl⟩
theorem f4_269 : Isn method_4_code 269 (.bipush 46) 2 271 := ⟨by decide +kernel, rfl⟩
theorem f4_271 : Isn method_4_code 271 (.bipush 46) 2 273 := ⟨by decide +kernel, rfl⟩
theorem f4_273 : Isn method_4_code 273 (.iastore) 1 274 := ⟨by decide +kernel, rfl⟩
theorem f4_274 : Isn method_4_code 274 (.dup) 1 275 := ⟨by decide +kernel, rfl⟩
theorem f4_275 : Isn method_4_code 275 (.bipush 47) 2 277 := ⟨by decide +kernel, rfl⟩
theorem f4_277 : Isn method_4_code 277 (.bipush 47) 2 279 := ⟨by decide +kernel, rfl⟩
theorem f4_279 : Isn method_4_code 279 (.iastore) 1 280 := ⟨by decide +kernel, rfl⟩
theorem f4_280 : Isn method_4_code 280 (.dup) 1 281 := ⟨by decide +kernel, rfl⟩
theorem f4_281 : Isn method_4_code 281 (.bipush 48) 2 283 := ⟨by decide +kernel, rfl⟩
theorem f4_283 : Isn method_4_code 283 (.bipush 48) 2 285 := ⟨by decide +kernel, rfl⟩
theorem f4_285 : Isn method_4_code 285 (.iastore) 1 286 := ⟨by decide +kernel, rfl⟩
theorem f4_286 : Isn method_4_code 286 (.dup) 1 287 := ⟨by decide +kernel, rfl⟩
theorem f4_287 : Isn method_4_code 287 (.bipush 49) 2 289 := ⟨by decide +kernel, rfl⟩
theorem f4_289 : Isn method_4_code 289 (.bipush 49) 2 291 := ⟨by decide +kernel, rfl⟩
theorem f4_291 : Isn method_4_code 291 (.iastore) 1 292 := ⟨by decide +kernel, rfl⟩
theorem f4_292 : Isn method_4_code 292 (.dup) 1 293 := ⟨by decide +kernel, rfl⟩
theorem f4_293 : Isn method_4_code 293 (.bipush 50) 2 295 := ⟨by decide +kernel, rfl⟩
theorem f4_295 : Isn method_4_code 295 (.bipush 50) 2 297 := ⟨by decide +kernel, rfl⟩
theorem f4_297 : Isn method_4_code 297 (.iastore) 1 298 := ⟨by decide +kernel, rfl⟩
theorem f4_298 : Isn method_4_code 298 (.dup) 1 299 := ⟨by decide +kernel, rfl⟩
theorem f4_299 : Isn method_4_code 299 (.bipush 51) 2 301 := ⟨by decide +kernel, rfl⟩
theorem f4_301 : Isn method_4_code 301 (.bipush 51) 2 303 := ⟨by decide +kernel, rfl⟩
theorem f4_303 : Isn method_4_code 303 (.iastore) 1 304 := ⟨by decide +kernel, rfl⟩
theorem f4_304 : Isn method_4_code 304 (.dup) 1 305 := ⟨by decide +kernel, rfl⟩
theorem f4_305 : Isn method_4_code 305 (.bipush 52) 2 307 := ⟨by decide +kernel, rfl⟩
theorem f4_307 : Isn method_4_code 307 (.bipush 52) 2 309 := ⟨by decide +kernel, rfl⟩
theorem f4_309 : Isn method_4_code 309 (.iastore) 1 310 := ⟨by decide +kernel, rfl⟩
theorem f4_310 : Isn method_4_code 310 (.dup) 1 311 := ⟨by decide +kernel, rfl⟩
theorem f4_311 : Isn method_4_code 311 (.bipush 53) 2 313 := ⟨by decide +kernel, rfl⟩
theorem f4_313 : Isn method_4_code 313 (.bipush 53) 2 315 := ⟨by decide +kernel, rfl⟩
theorem f4_315 : Isn method_4_code 315 (.iastore) 1 316 := ⟨by decide +kernel, rfl⟩
theorem f4_316 : Isn method_4_code 316 (.dup) 1 317 := ⟨by decide +kernel, rfl⟩
theorem f4_317 : Isn method_4_code 317 (.bipush 54) 2 319 := ⟨by decide +kernel, rfl⟩
theorem f4_319 : Isn method_4_code 319 (.bipush 54) 2 321 := ⟨by decide +kernel, rfl⟩
theorem f4_321 : Isn method_4_code 321 (.iastore) 1 322 := ⟨by decide +kernel, rfl⟩
theorem f4_322 : Isn method_4_code 322 (.dup) 1 323 := ⟨by decide +kernel, rfl⟩
theorem f4_323 : Isn method_4_code 323 (.bipush 55) 2 325 := ⟨by decide +kernel, rfl⟩
theorem f4_325 : Isn method_4_code 325 (.bipush 55) 2 327 := ⟨by decide +kernel, rfl⟩
theorem f4_327 : Isn method_4_code 327 (.iastore) 1 328 := ⟨by decide +kernel, rfl⟩
theorem f4_328 : Isn method_4_code 328 (.dup) 1 329 := ⟨by decide +kernel, rfl⟩
theorem f4_329 : Isn method_4_code 329 (.bipush 56) 2 331 := ⟨by decide +kernel, rfl⟩
theorem f4_331 : Isn method_4_code 331 (.bipush 56) 2 333 := ⟨by decide +kernel, rfl⟩
theorem f4_333 : Isn method_4_code 333 (.iastore) 1 334 := ⟨by decide +kernel, rfl⟩
theorem f4_334 : Isn method_4_code 334 (.dup) 1 335 := ⟨by decide +kernel, rfl⟩
theorem f4_335 : Isn method_4_code 335 (.bipush 57) 2 337 := ⟨by decide +kernel, rfl⟩
theorem f4_337 : Isn method_4_code 337 (.bipush 57) 2 339 := ⟨by decide +kernel, rfl⟩
theorem f4_339 : Isn method_4_code 339 (.iastore) 1 340 := ⟨by decide +kernel, rfl⟩
theorem f4_340 : Isn method_4_code 340 (.dup) 1 341 := ⟨by decide +kernel, rfl⟩
theorem f4_341 : Isn method_4_code 341 (.bipush 58) 2 343 := ⟨by decide +kernel, rfl⟩
theorem f4_343 : Isn method_4_code 343 (.bipush 58) 2 345 := ⟨by decide +kernel, rfl⟩
theorem f4_345 : Isn method_4_code 345 (.iastore) 1 346 := ⟨by decide +kernel, rfl⟩
theorem f4_346 : Isn method_4_code 346 (.dup) 1 347 := ⟨by decide +kernel, rfl⟩
theorem f4_347 : Isn method_4_code 347 (.bipush 59) 2 349 := ⟨by decide +kernel, rfl⟩
theorem f4_349 : Isn method_4_code 349 (.bipush 59) 2 351 := ⟨by decide +kernel, rfl⟩
theorem f4_351 : Isn method_4_code 351 (.iastore) 1 352 := ⟨by decide +kernel, rfl⟩
theorem f4_352 : Isn method_4_code 352 (.dup) 1 353 := ⟨by decide +kernel, rfl⟩
theorem f4_353 : Isn method_4_code 353 (.bipush 60) 2 355 := ⟨by decide +kernel, rfl⟩
theorem f4_355 : Isn method_4_code 355 (.bipush 60) 2 357 := ⟨by decide +kernel, rfl⟩
theorem f4_357 : Isn method_4_code 357 (.iastore) 1 358 := ⟨by decide +kernel, rfl⟩
theorem f4_358 : Isn method_4_code 358 (.dup) 1 359 := ⟨by decide +kernel, rfl⟩
theorem f4_359 : Isn method_4_code 359 (.bipush 61) 2 361 := ⟨by decide +kernel, rfl⟩
theorem f4_361 : Isn method_4_code 361 (.bipush 61) 2 363 := ⟨by decide +kernel, rfl⟩
theorem f4_363 : Isn method_4_code 363 (.iastore) 1 364 := ⟨by decide +kernel, rfl⟩
theorem f4_364 : Isn method_4_code 364 (.dup) 1 365 := ⟨by decide +kernel, rfl⟩
theorem f4_365 : Isn method_4_code 365 (.bipush 62) 2 367 := ⟨by decide +kernel, rfl⟩
theorem f4_367 : Isn method_4_code 367 (.bipush 62) 2 369 := ⟨by decide +kernel, rfl⟩
theorem f4_369 : Isn method_4_code 369 (.iastore) 1 370 := ⟨by decide +kernel, rfl⟩
theorem f4_370 : Isn method_4_code 370 (.dup) 1 371 := ⟨by decide +kernel, rfl⟩
theorem f4_371 : Isn method_4_code 371 (.bipush 63) 2 373 := ⟨by decide +kernel, rfl⟩
theorem f4_373 : Isn method_4_code 373 (.iconst 0) 1 374 := ⟨by decide +kernel, rfl⟩
theorem f4_374 : Isn method_4_code 374 (.iastore) 1 375 := ⟨by decide +kernel, rfl⟩
theorem f4_375 : Isn method_4_code 375 (.areturn) 1 376 := ⟨by decide +kernel, rfl⟩
theorem f2_0 : Isn prog_25_method_5_code 0 (.aload_n 0) 1 1 := ⟨by decide +kernel, rfl⟩
theorem f2_1 : Isn prog_25_method_5_code 1 (.arraylength) 1 2 := ⟨by decide +kernel, rfl⟩
theorem f2_2 : Isn prog_25_method_5_code 2 (.bipush 63) 2 4 := ⟨by decide +kernel, rfl⟩
theorem f2_4 : Brn prog_25_method_5_code 4 (.if_icmp .eq 5) 5 7 9 := ⟨by decide +kernel, rfl, by decide, by decide⟩
theorem f2_7 : Isn prog_25_method_5_code 7 (.iconst 0) 1 8 := ⟨by decide +kernel, rfl⟩
theorem f2_8 : Isn prog_25_method_5_code 8 (.ireturn) 1 9 := ⟨by decide +kernel, rfl⟩
theorem f2_9 : Isn prog_25_method_5_code 9 (.bipush 63) 2 11 := ⟨by decide +kernel, rfl⟩
theorem f2_11 : Isn prog_25_method_5_code 11 (.newarray .boolean) 2 13 := ⟨by decide +kernel, rfl⟩
theorem f2_13 : Isn prog_25_method_5_code 13 (.astore_n 1) 1 14 := ⟨by decide +kernel, rfl⟩
theorem f2_14 : Isn prog_25_method_5_code 14 (.aload_n 0) 1 15 := ⟨by decide +kernel, rfl⟩
theorem f2_15 : Isn prog_25_method_5_code 15 (.astore_n 2) 1 16 := ⟨by decide +kernel, rfl⟩
theorem f2_16 : Isn prog_25_method_5_code 16 (.aload_n 2) 1 17 := ⟨by decide +kernel, rfl⟩
theorem f2_17 : Isn prog_25_method_5_code 17 (.arraylength) 1 18 := ⟨by decide +kernel, rfl⟩
theorem f2_18 : Isn prog_25_method_5_code 18 (.istore_n 3) 1 19 := ⟨by decide +kernel, rfl⟩
theorem f2_19 : Isn prog_25_method_5_code 19 (.iconst 0) 1 20 := ⟨by decide +kernel, rfl⟩
theorem f2_20 : Isn prog_25_method_5_code 20 (.istore 4) 2 22 := ⟨by decide +kernel, rfl⟩
theorem f2_22 : Isn prog_25_method_5_code 22 (.iload 4) 2 24 := ⟨by decide +kernel, rfl⟩
theorem f2_24 : Isn prog_25_method_5_code 24 (.iload_n 3) 1 25 := ⟨by decide +kernel, rfl⟩
theorem f2_25 : Brn prog_25_method_5_code 25 (.if_icmp .ge 41) 41 28 66 := ⟨by decide +kernel, rfl, by decide, by decide⟩
theorem f2_28 : Isn prog_25_method_5_code 28 (.aload_n 2) 1 29 := ⟨by decide +kernel, rfl⟩
theorem f2_29 : Isn prog_25_method_5_code 29 (.iload 4) 2 31 := ⟨by decide +kernel, rfl⟩
theorem f2_31 : Isn prog_25_method_5_code 31 (.iaload) 1 32 := ⟨by decide +kernel, rfl⟩
theorem f2_32 : Isn prog_25_method_5_code 32 (.istore 5) 2 34 := ⟨by decide +kernel, rfl⟩
theorem f2_34 : Isn prog_25_method_5_code 34 (.iload 5) 2 36 := ⟨by decide +kernel, rfl⟩
theorem f2_36 : Brn prog_25_method_5_code 36 (.ifCond .lt 17) 17 39 53 := ⟨by decide +kernel, rfl, by decide, by decide⟩
theorem f2_39 : Isn prog_25_method_5_code 39 (.iload 5) 2 41 := ⟨by decide +kernel, rfl⟩
theorem f2_41 : Isn prog_25_method_5_code 41 (.bipush 63) 2 43 := ⟨by decide +kernel, rfl⟩
theorem f2_43 : Brn prog_25_method_5_code 43 (.if_icmp .ge 10) 10 46 53 := ⟨by decide +kernel, rfl, by decide, by decide⟩
theorem f2_46 : Isn prog_25_method_5_code 46 (.aload_n 1) 1 47 := ⟨by decide +kernel, rfl⟩
theorem f2_47 : Isn prog_25_method_5_code 47 (.iload 5) 2 49 := ⟨by decide +kernel, rfl⟩
theorem f2_49 : Isn prog_25_method_5_code 49 (.baload) 1 50 := ⟨by decide +kernel, rfl⟩
theorem f2_50 : Brn prog_25_method_5_code 50 (.ifCond .eq 5) 5 53 55 := ⟨by decide +kernel, rfl, by decide, by decide⟩
theorem f2_53 : Isn prog_25_method_5_code 53 (.iconst 0) 1 54 := ⟨by decide +kernel, rfl⟩
theorem f2_54 : Isn prog_25_method_5_code 54 (.ireturn) 1 55 := ⟨by decide +kernel, rfl⟩
theorem f2_55 : Isn prog_25_method_5_code 55 (.aload_n 1) 1 56 := ⟨by decide +kernel, rfl⟩
theorem f2_56 : Isn prog_25_method_5_code 56 (.iload 5) 2 58 := ⟨by decide +kernel, rfl⟩
theorem f2_58 : Isn prog_25_method_5_code 58 (.iconst 1) 1 59 := ⟨by decide +kernel, rfl⟩
theorem f2_59 : Isn prog_25_method_5_code 59 (.bastore) 1 60 := ⟨by decide +kernel, rfl⟩
theorem f2_60 : Isn prog_25_method_5_code 60 (.iinc 4 1) 3 63 := ⟨by decide +kernel, rfl⟩
theorem f2_63 : Brn prog_25_method_5_code 63 (.goto (-41)) (-41) 66 22 := ⟨by decide +kernel, rfl, by decide, by decide⟩
theorem f2_66 : Isn prog_25_method_5_code 66 (.iconst 1) 1 67 := ⟨by decide +kernel, rfl⟩
theorem f2_67 : Isn prog_25_method_5_code 67 (.ireturn) 1 68 := ⟨by decide +kernel, rfl⟩
theorem f0_0 : Isn code 0 (.iload 4) 2 2 := ⟨at_0, rfl⟩
theorem f0_2 : Isn code 2 (.iconst 3) 1 3 := ⟨at_2, rfl⟩
theorem f0_3 : Isn code 3 (.iand) 1 4 := ⟨at_3, rfl⟩
theorem f0_4 : Isn code 4 (.istore 5) 2 6 := ⟨at_4, rfl⟩
theorem f0_6 : Isn code 6 (.iload 4) 2 8 := ⟨at_6, rfl⟩
theorem f0_8 : Isn code 8 (.iconst 4) 1 9 := ⟨at_8, rfl⟩
theorem f0_9 : Isn code 9 (.iand) 1 10 := ⟨at_9, rfl⟩
theorem f0_10 : Brn code 10 (.ifCond .eq 7) 7 13 17 := ⟨at_10, rfl, by decide, by decide⟩
theorem f0_13 : Isn code 13 (.iconst 1) 1 14 := ⟨at_13, rfl⟩
theorem f0_14 : Brn code 14 (.goto 4) 4 17 18 := ⟨at_14, rfl, by decide, by decide⟩
theorem f0_17 : Isn code 17 (.iconst 0) 1 18 := ⟨at_17, rfl⟩
theorem f0_18 : Isn code 18 (.istore 6) 2 20 := ⟨at_18, rfl⟩
theorem f0_20 : Isn code 20 (.iload 4) 2 22 := ⟨at_20, rfl⟩
theorem f0_22 : Isn code 22 (.bipush 8) 2 24 := ⟨at_22, rfl⟩
theorem f0_24 : Isn code 24 (.iand) 1 25 := ⟨at_24, rfl⟩
theorem f0_25 : Brn code 25 (.ifCond .eq 13) 13 28 38 := ⟨at_25, rfl, by decide, by decide⟩
theorem f0_28 : Isn code 28 (.iload_n 3) 1 29 := ⟨at_28, rfl⟩
theorem f0_29 : Isn code 29 (.ldc 7) 2 31 := ⟨at_29, rfl⟩
theorem f0_31 : Isn code 31 (.iand) 1 32 := ⟨at_31, rfl⟩
theorem f0_32 : Isn code 32 (.bipush 64) 2 34 := ⟨at_32, rfl⟩
theorem f0_34 : Isn code 34 (.irem) 1 35 := ⟨at_34, rfl⟩
theorem f0_35 : Brn code 35 (.goto 4) 4 38 39 := ⟨at_35, rfl, by decide, by decide⟩
theorem f0_38 : Isn code 38 (.iload_n 3) 1 39 := ⟨at_38, rfl⟩
theorem f0_39 : Isn code 39 (.istore 7) 2 41 := ⟨at_39, rfl⟩
theorem f0_41 : Isn code 41 (.iload_n 0) 1 42 := ⟨at_41, rfl⟩
theorem f0_42 : Isn code 42 (.ldc 7) 2 44 := ⟨at_42, rfl⟩
theorem f0_44 : Isn code 44 (.iand) 1 45 := ⟨at_44, rfl⟩
theorem f0_45 : Isn code 45 (.bipush 63) 2 47 := ⟨at_45, rfl⟩
theorem f0_47 : Isn code 47 (.irem) 1 48 := ⟨at_47, rfl⟩
theorem f0_48 : Isn code 48 (.istore 8) 2 50 := ⟨at_48, rfl⟩
theorem f0_50 : Isn code 50 (.iload_n 1) 1 51 := ⟨at_50, rfl⟩
theorem f0_51 : Isn code 51 (.ldc 7) 2 53 := ⟨at_51, rfl⟩
theorem f0_53 : Isn code 53 (.iand) 1 54 := ⟨at_53, rfl⟩
theorem f0_54 : Isn code 54 (.bipush 63) 2 56 := ⟨at_54, rfl⟩
theorem f0_56 : Isn code 56 (.irem) 1 57 := ⟨at_56, rfl⟩
theorem f0_57 : Isn code 57 (.istore 9) 2 59 := ⟨at_57, rfl⟩
theorem f0_59 : Isn code 59 (.iload_n 2) 1 60 := ⟨at_59, rfl⟩
theorem f0_60 : Isn code 60 (.ldc 7) 2 62 := ⟨at_60, rfl⟩
theorem f0_62 : Isn code 62 (.iand) 1 63 := ⟨at_62, rfl⟩
theorem f0_63 : Isn code 63 (.bipush 63) 2 65 := ⟨at_63, rfl⟩
theorem f0_65 : Isn code 65 (.irem) 1 66 := ⟨at_65, rfl⟩
theorem f0_66 : Isn code 66 (.istore 10) 2 68 := ⟨at_66, rfl⟩
theorem f0_68 : Isn code 68 (.iload 5) 2 70 := ⟨at_68, rfl⟩
theorem f0_70 : Brn code 70 (.ifCond .ne 80) 80 73 150 := ⟨at_70, rfl, by decide, by decide⟩
theorem f0_73 : Isn code 73 (.invokestatic 8) 3 76 := ⟨at_73, rfl⟩
theorem f0_76 : Isn code 76 (.astore 11) 2 78 := ⟨at_76, rfl⟩
theorem f0_78 : Isn code 78 (.aload 11) 2 80 := ⟨at_78, rfl⟩
theorem f0_80 : Isn code 80 (.iload 8) 2 82 := ⟨at_80, rfl⟩
theorem f0_82 : Isn code 82 (.iaload) 1 83 := ⟨at_82, rfl⟩
theorem f0_83 : Isn code 83 (.istore 12) 2 85 := ⟨at_83, rfl⟩
theorem f0_85 : Isn code 85 (.aload 11) 2 87 := ⟨at_85, rfl⟩
theorem f0_87 : Isn code 87 (.iload 8) 2 89 := ⟨at_87, rfl⟩
theorem f0_89 : Isn code 89 (.aload 11) 2 91 := ⟨at_89, rfl⟩
theorem f0_91 : Isn code 91 (.iload 9) 2 93 := ⟨at_91, rfl⟩
theorem f0_93 : Isn code 93 (.iaload) 1 94 := ⟨at_93, rfl⟩
theorem f0_94 : Isn code 94 (.iastore) 1 95 := ⟨at_94, rfl⟩
theorem f0_95 : Isn code 95 (.aload 11) 2 97 := ⟨at_95, rfl⟩
theorem f0_97 : Isn code 97 (.iload 9) 2 99 := ⟨at_97, rfl⟩
theorem f0_99 : Isn code 99 (.iload 12) 2 101 := ⟨at_99, rfl⟩
theorem f0_101 : Isn code 101 (.iastore) 1 102 := ⟨at_101, rfl⟩
theorem f0_102 : Isn code 102 (.iconst 1) 1 103 := ⟨at_102, rfl⟩
theorem f0_103 : Isn code 103 (.istore 13) 2 105 := ⟨at_103, rfl⟩
theorem f0_105 : Isn code 105 (.iload 6) 2 107 := ⟨at_105, rfl⟩
theorem f0_107 : Brn code 107 (.ifCond .eq 27) 27 110 134 := ⟨at_107, rfl, by decide, by decide⟩
theorem f0_110 : Isn code 110 (.aload 11) 2 112 := ⟨at_110, rfl⟩
theorem f0_112 : Isn code 112 (.iload 10) 2 114 := ⟨at_112, rfl⟩
theorem f0_114 : Isn code 114 (.iaload) 1 115 := ⟨at_114, rfl⟩
theorem f0_115 : Isn code 115 (.iload 7) 2 117 := ⟨at_115, rfl⟩
theorem f0_117 : Brn code 117 (.if_icmp .ne 7) 7 120 124 := ⟨at_117, rfl, by decide, by decide⟩
theorem f0_120 : Isn code 120 (.iconst 1) 1 121 := ⟨at_120, rfl⟩
theorem f0_121 : Brn code 121 (.goto 4) 4 124 125 := ⟨at_121, rfl, by decide, by decide⟩
theorem f0_124 : Isn code 124 (.iconst 0) 1 125 := ⟨at_124, rfl⟩
theorem f0_125 : Isn code 125 (.istore 13) 2 127 := ⟨at_125, rfl⟩
theorem f0_127 : Isn code 127 (.aload 11) 2 129 := ⟨at_127, rfl⟩
theorem f0_129 : Isn code 129 (.iload 10) 2 131 := ⟨at_129, rfl⟩
theorem f0_131 : Isn code 131 (.iload 7) 2 133 := ⟨at_131, rfl⟩
theorem f0_133 : Isn code 133 (.iastore) 1 134 := ⟨at_133, rfl⟩
theorem f0_134 : Isn code 134 (.aload 11) 2 136 := ⟨at_134, rfl⟩
theorem f0_136 : Isn code 136 (.invokestatic 14) 3 139 := ⟨at_136, rfl⟩
theorem f0_139 : Isn code 139 (.iload 13) 2 141 := ⟨at_139, rfl⟩
theorem f0_141 : Brn code 141 (.if_icmp .ne 7) 7 144 148 := ⟨at_141, rfl, by decide, by decide⟩
theorem f0_144 : Isn code 144 (.iconst 1) 1 145 := ⟨at_144, rfl⟩
theorem f0_145 : Brn code 145 (.goto 4) 4 148 149 := ⟨at_145, rfl, by decide, by decide⟩
theorem f0_148 : Isn code 148 (.iconst 0) 1 149 := ⟨at_148, rfl⟩
theorem f0_149 : Isn code 149 (.ireturn) 1 150 := ⟨at_149, rfl⟩
theorem f0_150 : Isn code 150 (.iload 5) 2 152 := ⟨at_150, rfl⟩
theorem f0_152 : Isn code 152 (.iconst 1) 1 153 := ⟨at_152, rfl⟩
theorem f0_153 : Brn code 153 (.if_icmp .ne 75) 75 156 228 := ⟨at_153, rfl, by decide, by decide⟩
theorem f0_156 : Isn code 156 (.invokestatic 20) 3 159 := ⟨at_156, rfl⟩
theorem f0_159 : Isn code 159 (.astore 11) 2 161 := ⟨at_159, rfl⟩
theorem f0_161 : Isn code 161 (.iload 8) 2 163 := ⟨at_161, rfl⟩
theorem f0_163 : Isn code 163 (.bipush 62) 2 165 := ⟨at_163, rfl⟩
theorem f0_165 : Isn code 165 (.irem) 1 166 := ⟨at_165, rfl⟩
theorem f0_166 : Isn code 166 (.istore 12) 2 168 := ⟨at_166, rfl⟩
theorem f0_168 : Isn code 168 (.iload 9) 2 170 := ⟨at_168, rfl⟩
theorem f0_170 : Isn code 170 (.bipush 62) 2 172 := ⟨at_170, rfl⟩
theorem f0_172 : Isn code 172 (.irem) 1 173 := ⟨at_172, rfl⟩
theorem f0_173 : Isn code 173 (.istore 13) 2 175 := ⟨at_173, rfl⟩
theorem f0_175 : Isn code 175 (.aload 11) 2 177 := ⟨at_175, rfl⟩
theorem f0_177 : Isn code 177 (.iload 12) 2 179 := ⟨at_177, rfl⟩
theorem f0_179 : Isn code 179 (.iaload) 1 180 := ⟨at_179, rfl⟩
theorem f0_180 : Isn code 180 (.istore 14) 2 182 := ⟨at_180, rfl⟩
theorem f0_182 : Isn code 182 (.aload 11) 2 184 := ⟨at_182, rfl⟩
theorem f0_184 : Isn code 184 (.iload 12) 2 186 := ⟨at_184, rfl⟩
theorem f0_186 : Isn code 186 (.aload 11) 2 188 := ⟨at_186, rfl⟩
theorem f0_188 : Isn code 188 (.iload 13) 2 190 := ⟨at_188, rfl⟩
theorem f0_190 : Isn code 190 (.iaload) 1 191 := ⟨at_190, rfl⟩
theorem f0_191 : Isn code 191 (.iastore) 1 192 := ⟨at_191, rfl⟩
theorem f0_192 : Isn code 192 (.aload 11) 2 194 := ⟨at_192, rfl⟩
theorem f0_194 : Isn code 194 (.iload 13) 2 196 := ⟨at_194, rfl⟩
theorem f0_196 : Isn code 196 (.iload 14) 2 198 := ⟨at_196, rfl⟩
theorem f0_198 : Isn code 198 (.iastore) 1 199 := ⟨at_198, rfl⟩
theorem f0_199 : Isn code 199 (.iload 6) 2 201 := ⟨at_199, rfl⟩
theorem f0_201 : Brn code 201 (.ifCond .eq 13) 13 204 214 := ⟨at_201, rfl, by decide, by decide⟩
theorem f0_204 : Isn code 204 (.aload 11) 2 206 := ⟨at_204, rfl⟩
theorem f0_206 : Isn code 206 (.iload 10) 2 208 := ⟨at_206, rfl⟩
theorem f0_208 : Isn code 208 (.bipush 62) 2 210 := ⟨at_208, rfl⟩
theorem f0_210 : Isn code 210 (.irem) 1 211 := ⟨at_210, rfl⟩
theorem f0_211 : Isn code 211 (.iload 7) 2 213 := ⟨at_211, rfl⟩
theorem f0_213 : Isn code 213 (.iastore) 1 214 := ⟨at_213, rfl⟩
theorem f0_214 : Isn code 214 (.aload 11) 2 216 := ⟨at_214, rfl⟩
theorem f0_216 : Isn code 216 (.invokestatic 14) 3 219 := ⟨at_216, rfl⟩
theorem f0_219 : Brn code 219 (.ifCond .ne 7) 7 222 226 := ⟨at_219, rfl, by decide, by decide⟩
theorem f0_222 : Isn code 222 (.iconst 1) 1 223 := ⟨at_222, rfl⟩
theorem f0_223 : Brn code 223 (.goto 4) 4 226 227 := ⟨at_223, rfl, by decide, by decide⟩
theorem f0_226 : Isn code 226 (.iconst 0) 1 227 := ⟨at_226, rfl⟩
theorem f0_227 : Isn code 227 (.ireturn) 1 228 := ⟨at_227, rfl⟩
theorem f0_228 : Isn code 228 (.iload 5) 2 230 := ⟨at_228, rfl⟩
theorem f0_230 : Isn code 230 (.iconst 2) 1 231 := ⟨at_230, rfl⟩
theorem f0_231 : Brn code 231 (.if_icmp .ne 53) 53 234 284 := ⟨at_231, rfl, by decide, by decide⟩
theorem f0_234 : Isn code 234 (.invokestatic 23) 3 237 := ⟨at_234, rfl⟩
theorem f0_237 : Isn code 237 (.astore 11) 2 239 := ⟨at_237, rfl⟩
theorem f0_239 : Isn code 239 (.aload 11) 2 241 := ⟨at_239, rfl⟩
theorem f0_241 : Isn code 241 (.iload 8) 2 243 := ⟨at_241, rfl⟩
theorem f0_243 : Isn code 243 (.iaload) 1 244 := ⟨at_243, rfl⟩
theorem f0_244 : Isn code 244 (.istore 12) 2 246 := ⟨at_244, rfl⟩
theorem f0_246 : Isn code 246 (.aload 11) 2 248 := ⟨at_246, rfl⟩
theorem f0_248 : Isn code 248 (.iload 8) 2 250 := ⟨at_248, rfl⟩
theorem f0_250 : Isn code 250 (.aload 11) 2 252 := ⟨at_250, rfl⟩
theorem f0_252 : Isn code 252 (.iload 9) 2 254 := ⟨at_252, rfl⟩
theorem f0_254 : Isn code 254 (.iaload) 1 255 := ⟨at_254, rfl⟩
theorem f0_255 : Isn code 255 (.iastore) 1 256 := ⟨at_255, rfl⟩
theorem f0_256 : Isn code 256 (.aload 11) 2 258 := ⟨at_256, rfl⟩
theorem f0_258 : Isn code 258 (.iload 9) 2 260 := ⟨at_258, rfl⟩
theorem f0_260 : Isn code 260 (.iload 12) 2 262 := ⟨at_260, rfl⟩
theorem f0_262 : Isn code 262 (.iastore) 1 263 := ⟨at_262, rfl⟩
theorem f0_263 : Isn code 263 (.aload 11) 2 265 := ⟨at_263, rfl⟩
theorem f0_265 : Isn code 265 (.bipush 63) 2 267 := ⟨at_265, rfl⟩
theorem f0_267 : Isn code 267 (.iload 7) 2 269 := ⟨at_267, rfl⟩
theorem f0_269 : Isn code 269 (.iastore) 1 270 := ⟨at_269, rfl⟩
theorem f0_270 : Isn code 270 (.aload 11) 2 272 := ⟨at_270, rfl⟩
theorem f0_272 : Isn code 272 (.invokestatic 14) 3 275 := ⟨at_272, rfl⟩
theorem f0_275 : Brn code 275 (.ifCond .ne 7) 7 278 282 := ⟨at_275, rfl, by decide, by decide⟩
theorem f0_278 : Isn code 278 (.iconst 1) 1 279 := ⟨at_278, rfl⟩
theorem f0_279 : Brn code 279 (.goto 4) 4 282 283 := ⟨at_279, rfl, by decide, by decide⟩
theorem f0_282 : Isn code 282 (.iconst 0) 1 283 := ⟨at_282, rfl⟩
theorem f0_283 : Isn code 283 (.ireturn) 1 284 := ⟨at_283, rfl⟩
theorem f0_284 : Isn code 284 (.iconst 0) 1 285 := ⟨at_284, rfl⟩
theorem f0_285 : Isn code 285 (.newarray .int) 2 287 := ⟨at_285, rfl⟩
theorem f0_287 : Isn code 287 (.invokestatic 14) 3 290 := ⟨at_287, rfl⟩
theorem f0_290 : Brn code 290 (.ifCond .ne 7) 7 293 297 := ⟨at_290, rfl, by decide, by decide⟩
theorem f0_293 : Isn code 293 (.iconst 1) 1 294 := ⟨at_293, rfl⟩
theorem f0_294 : Brn code 294 (.goto 4) 4 297 298 := ⟨at_294, rfl, by decide, by decide⟩
theorem f0_297 : Isn code 297 (.iconst 0) 1 298 := ⟨at_297, rfl⟩
theorem f0_298 : Isn code 298 (.ireturn) 1 299 := ⟨at_298, rfl⟩
set_option maxRecDepth 65536 in
set_option maxHeartbeats 40000000 in
theorem rm1 (l : Launch) (Z : State) (a0 : Array Value) (hw : ∀ d ∈ tables_1, d.before a0 Z = true)  (h : Heap) (n0 : Nat) (hn0 : n0 ≤ h.size) :
    Ctr l Z (⟨"com/example/nodewell/nodewell/cache/BitStatisticsHashIsOrderPinLaw", "full63", "()[I"⟩ : MethodName) method_2_code 0 (some (.array .int)) ({ frames := 0, cells := 1, slots := 63, locals := 0 } : Room) [] h n0 (fun v h' => ∃ a f, v = some (.ref a) ∧ AN Z h' a .int 63 f ∧ (∀ i, i < 63 → (f i).toInt = i) ∧ n0 ≤ a) := by
  refine CtrW.intro (plainFor_of_name pn1) rfl #[] rfl ?_
  intro K T hnm hl X
  subst hl
  refine o_bipush 63 X f1_0 rfl ?_
  refine o_newarrayN X 63 63 f1_2 (hw _ (List.mem_of_getElem? (i := 5) rfl)) (by decide) (by decide) (by decide) rfl (by decide) ?_
  intro T1 h1 a e1 X1 E1 A1
  have ha : n0 ≤ a := e1 ▸ hn0
  have F1 : own_Fil Z h1 a 63 0 := ⟨_, A1, fun i hi => absurd hi (Nat.not_lt_zero _)⟩
  refine o_dup X1 f1_4 rfl ?_
  refine o_iconst 0 X1 f1_5 rfl ?_
  refine o_iconst 0 X1 f1_6 rfl ?_
  refine own_fill X1 f1_7 F1 (by decide) (m' := 1) rfl (by decide) ha ?_
  intro T h X1 F1
  refine o_dup X1 f1_8 rfl ?_
  refine o_iconst 1 X1 f1_9 rfl ?_
  refine o_iconst 1 X1 f1_10 rfl ?_
  refine own_fill X1 f1_11 F1 (by decide) (m' := 2) rfl (by decide) ha ?_
  intro T h X1 F1
  refine o_dup X1 f1_12 rfl ?_
  refine o_iconst 2 X1 f1_13 rfl ?_
  refine o_iconst 2 X1 f1_14 rfl ?_
  refine own_fill X1 f1_15 F1 (by decide) (m' := 3) rfl (by decide) ha ?_
  intro T h X1 F1
  refine o_dup X1 f1_16 rfl ?_
  refine o_iconst 3 X1 f1_17 rfl ?_
  refine o_iconst 3 X1 f1_18 rfl ?_
  refine own_fill X1 f1_19 F1 (by decide) (m' := 4) rfl (by decide) ha ?_
  intro T h X1 F1
  refine o_dup X1 f1_20 rfl ?_
  refine o_iconst 4 X1 f1_21 rfl ?_
  refine o_iconst 4 X1 f1_22 rfl ?_
  refine own_fill X1 f1_23 F1 (by decide) (m' := 5) rfl (by decide) ha ?_
  intro T h X1 F1
  refine o_dup X1 f1_24 rfl ?_
  refine o_iconst 5 X1 f1_25 rfl ?_
  refine o_iconst 5 X1 f1_26 rfl ?_
  refine own_fill X1 f1_27 F1 (by decide) (m' := 6) rfl (by decide) ha ?_
  intro T h X1 F1
  refine o_dup X1 f1_28 rfl ?_
  refine o_bipush 6 X1 f1_29 rfl ?_
  refine o_bipush 6 X1 f1_31 rfl ?_
  refine own_fill X1 f1_33 F1 (by decide) (m' := 7) rfl (by decide) ha ?_
  intro T h X1 F1
  refine o_dup X1 f1_34 rfl ?_
  refine o_bipush 7 X1 f1_35 rfl ?_
  refine o_bipush 7 X1 f1_37 rfl ?_
  refine own_fill X1 f1_39 F1 (by decide) (m' := 8) rfl (by decide) ha ?_
  intro T h X1 F1
  refine o_dup X1 f1_40 rfl ?_
  refine o_bipush 8 X1 f1_41 rfl ?_
  refine o_bipush 8 X1 f1_43 rfl ?_
  refine own_fill X1 f1_45 F1 (by decide) (m' := 9) rfl (by decide) ha ?_
  intro T h X1 F1
  refine o_dup X1 f1_46 rfl ?_
  refine o_bipush 9 X1 f1_47 rfl ?_
  refine o_bipush 9 X1 f1_49 rfl ?_
  refine own_fill X1 f1_51 F1 (by decide) (m' := 10) rfl (by decide) ha ?_
  intro T h X1 F1
  refine o_dup X1 f1_52 rfl ?_
  refine o_bipush 10 X1 f1_53 rfl ?_
  refine o_bipush 10 X1 f1_55 rfl ?_
  refine own_fill X1 f1_57 F1 (by decide) (m' := 11) rfl (by decide) ha ?_
  intro T h X1 F1
  refine o_dup X1 f1_58 rfl ?_
  refine o_bipush 11 X1 f1_59 rfl ?_
  refine o_bipush 11 X1 f1_61 rfl ?_
  refine own_fill X1 f1_63 F1 (by decide) (m' := 12) rfl (by decide) ha ?_
  intro T h X1 F1
  refine o_dup X1 f1_64 rfl ?_
  refine o_bipush 12 X1 f1_65 rfl ?_
  refine o_bipush 12 X1 f1_67 rfl ?_
  refine own_fill X1 f1_69 F1 (by decide) (m' := 13) rfl (by decide) ha ?_
  intro T h X1 F1
  refine o_dup X1 f1_70 rfl ?_
  refine o_bipush 13 X1 f1_71 rfl ?_
  refine o_bipush 13 X1 f1_73 rfl ?_
  refine own_fill X1 f1_75 F1 (by decide) (m' := 14) rfl (by decide) ha ?_
  intro T h X1 F1
  refine o_dup X1 f1_76 rfl ?_
  refine o_bipush 14 X1 f1_77 rfl ?_
  refine o_bipush 14 X1 f1_79 rfl ?_
  refine own_fill X1 f1_81 F1 (by decide) (m' := 15) rfl (by decide) ha ?_
  intro T h X1 F1
  refine o_dup X1 f1_82 rfl ?_
  refine o_bipush 15 X1 f1_83 rfl ?_
  refine o_bipush 15 X1 f1_85 rfl ?_
  refine own_fill X1 f1_87 F1 (by decide) (m' := 16) rfl (by decide) ha ?_
  intro T h X1 F1
  refine o_dup X1 f1_88 rfl ?_
  refine o_bipush 16 X1 f1_89 rfl ?_
  refine o_bipush 16 X1 f1_91 rfl ?_
  refine own_fill X1 f1_93 F1 (by decide) (m' := 17) rfl (by decide) ha ?_
  intro T h X1 F1
  refine o_dup X1 f1_94 rfl ?_
  refine o_bipush 17 X1 f1_95 rfl ?_
  refine o_bipush 17 X1 f1_97 rfl ?_
  refine own_fill X1 f1_99 F1 (by decide) (m' := 18) rfl (by decide) ha ?_
  intro T h X1 F1
  refine o_dup X1 f1_100 rfl ?_
  refine o_bipush 18 X1 f1_101 rfl ?_
  refine o_bipush 18 X1 f1_103 rfl ?_
  refine own_fill X1 f1_105 F1 (by decide) (m' := 19) rfl (by decide) ha ?_
  intro T h X1 F1
  refine o_dup X1 f1_106 rfl ?_
  refine o_bipush 19 X1 f1_107 rfl ?_
  refine o_bipush 19 X1 f1_109 rfl ?_
  refine own_fill X1 f1_111 F1 (by decide) (m' := 20) rfl (by decide) ha ?_
  intro T h X1 F1
  refine o_dup X1 f1_112 rfl ?_
  refine o_bipush 20 X1 f1_113 rfl ?_
  refine o_bipush 20 X1 f1_115 rfl ?_
  refine own_fill X1 f1_117 F1 (by decide) (m' := 21) rfl (by decide) ha ?_
  intro T h X1 F1
  refine o_dup X1 f1_118 rfl ?_
  refine o_bipush 21 X1 f1_119 rfl ?_
  refine o_bipush 21 X1 f1_121 rfl ?_
  refine own_fill X1 f1_123 F1 (by decide) (m' := 22) rfl (by decide) ha ?_
  intro T h X1 F1
  refine o_dup X1 f1_124 rfl ?_
  refine o_bipush 22 X1 f1_125 rfl ?_
  refine o_bipush 22 X1 f1_127 rfl ?_
  refine own_fill X1 f1_129 F1 (by decide) (m' := 23) rfl (by decide) ha ?_
  intro T h X1 F1
  refine o_dup X1 f1_130 rfl ?_
  refine o_bipush 23 X1 f1_131 rfl ?_
  refine o_bipush 23 X1 f1_133 rfl ?_
  refine own_fill X1 f1_135 F1 (by decide) (m' := 24) rfl (by decide) ha ?_
  intro T h X1 F1
  refine o_dup X1 f1_136 rfl ?_
  refine o_bipush 24 X1 f1_137 rfl ?_
  refine o_bipush 24 X1 f1_139 rfl ?_
  refine own_fill X1 f1_141 F1 (by decide) (m' := 25) rfl (by decide) ha ?_
  intro T h X1 F1
  refine o_dup X1 f1_142 rfl ?_
  refine o_bipush 25 X1 f1_143 rfl ?_
  refine o_bipush 25 X1 f1_145 rfl ?_
  refine own_fill X1 f1_147 F1 (by decide) (m' := 26) rfl (by decide) ha ?_
  intro T h X1 F1
  refine o_dup X1 f1_148 rfl ?_
  refine o_bipush 26 X1 f1_149 rfl ?_
  refine o_bipush 26 X1 f1_151 rfl ?_
  refine own_fill X1 f1_153 F1 (by decide) (m' := 27) rfl (by decide) ha ?_
  intro T h X1 F1
  refine o_dup X1 f1_154 rfl ?_
  refine o_bipush 27 X1 f1_155 rfl ?_
  refine o_bipush 27 X1 f1_157 rfl ?_
  refine own_fill X1 f1_159 F1 (by decide) (m' := 28) rfl (by decide) ha ?_
  intro T h X1 F1
  refine o_dup X1 f1_160 rfl ?_
  refine o_bipush 28 X1 f1_161 rfl ?_
  refine o_bipush 28 X1 f1_163 rfl ?_
  refine own_fill X1 f1_165 F1 (by decide) (m' := 29) rfl (by decide) ha ?_
  intro T h X1 F1
  refine o_dup X1 f1_166 rfl ?_
  refine o_bipush 29 X1 f1_167 rfl ?_
  refine o_bipush 29 X1 f1_169 rfl ?_
  refine own_fill X1 f1_171 F1 (by decide) (m' := 30) rfl (by decide) ha ?_
  intro T h X1 F1
  refine o_dup X1 f1_172 rfl ?_
  refine o_bipush 30 X1 f1_173 rfl ?_
  refine o_bipush 30 X1 f1_175 rfl ?_
  refine own_fill X1 f1_177 F1 (by decide) (m' := 31) rfl (by decide) ha ?_
  intro T h X1 F1
  refine o_dup X1 f1_178 rfl ?_
  refine o_bipush 31 X1 f1_179 rfl ?_
  refine o_bipush 31 X1 f1_181 rfl ?_
  refine own_fill X1 f1_183 F1 (by decide) (m' := 32) rfl (by decide) ha ?_
  intro T h X1 F1
  refine o_dup X1 f1_184 rfl ?_
  refine o_bipush 32 X1 f1_185 rfl ?_
  refine o_bipush 32 X1 f1_187 rfl ?_
  refine own_fill X1 f1_189 F1 (by decide) (m' := 33) rfl (by decide) ha ?_
  intro T h X1 F1
  refine o_dup X1 f1_190 rfl ?_
  refine o_bipush 33 X1 f1_191 rfl ?_
  refine o_bipush 33 X1 f1_193 rfl ?_
  refine own_fill X1 f1_195 F1 (by decide) (m' := 34) rfl (by decide) ha ?_
  intro T h X1 F1
  refine o_dup X1 f1_196 rfl ?_
  refine o_bipush 34 X1 f1_197 rfl ?_
  refine o_bipush 34 X1 f1_199 rfl ?_
  refine own_fill X1 f1_201 F1 (by decide) (m' := 35) rfl (by decide) ha ?_
  intro T h X1 F1
  refine o_dup X1 f1_202 rfl ?_
  refine o_bipush 35 X1 f1_203 rfl ?_
  refine o_bipush 35 X1 f1_205 rfl ?_
  refine own_fill X1 f1_207 F1 (by decide) (m' := 36) rfl (by decide) ha ?_
  intro T h X1 F1
  refine o_dup X1 f1_208 rfl ?_
  refine o_bipush 36 X1 f1_209 rfl ?_
  refine o_bipush 36 X1 f1_211 rfl ?_
  refine own_fill X1 f1_213 F1 (by decide) (m' := 37) rfl (by decide) ha ?_
  intro T h X1 F1
  refine o_dup X1 f1_214 rfl ?_
  refine o_bipush 37 X1 f1_215 rfl ?_
  refine o_bipush 37 X1 f1_217 rfl ?_
  refine own_fill X1 f1_219 F1 (by decide) (m' := 38) rfl (by decide) ha ?_
  intro T h X1 F1
  refine o_dup X1 f1_220 rfl ?_
  refine o_bipush 38 X1 f1_221 rfl ?_
  refine o_bipush 38 X1 f1_223 rfl ?_
  refine own_fill X1 f1_225 F1 (by decide) (m' := 39) rfl (by decide) ha ?_
  intro T h X1 F1
  refine o_dup X1 f1_226 rfl ?_
  refine o_bipush 39 X1 f1_227 rfl ?_
  refine o_bipush 39 X1 f1_229 rfl ?_
  refine own_fill X1 f1_231 F1 (by decide) (m' := 40) rfl (by decide) ha ?_
  intro T h X1 F1
  refine o_dup X1 f1_232 rfl ?_
  refine o_bipush 40 X1 f1_233 rfl ?_
  refine o_bipush 40 X1 f1_235 rfl ?_
  refine own_fill X1 f1_237 F1 (by decide) (m' := 41) rfl (by decide) ha ?_
  intro T h X1 F1
  refine o_dup X1 f1_238 rfl ?_
  refine o_bipush 41 X1 f1_239 rfl ?_
  refine o_bipush 41 X1 f1_241 rfl ?_
  refine own_fill X1 f1_243 F1 (by decide) (m' := 42) rfl (by decide) ha ?_
  intro T h X1 F1
  refine o_dup X1 f1_244 rfl ?_
  refine o_bipush 42 X1 f1_245 rfl ?_
  refine o_bipush 42 X1 f1_247 rfl ?_
  refine own_fill X1 f1_249 F1 (by decide) (m' := 43) rfl (by decide) ha ?_
  intro T h X1 F1
  refine o_dup X1 f1_250 rfl ?_
  refine o_bipush 43 X1 f1_251 rfl ?_
  refine o_bipush 43 X1 f1_253 rfl ?_
  refine own_fill X1 f1_255 F1 (by decide) (m' := 44) rfl (by decide) ha ?_
  intro T h X1 F1
  refine o_dup X1 f1_256 rfl ?_
  refine o_bipush 44 X1 f1_257 rfl ?_
  refine o_bipush 44 X1 f1_259 rfl ?_
  refine own_fill X1 f1_261 F1 (by decide) (m' := 45) rfl (by decide) ha ?_
  intro T h X1 F1
  refine o_dup X1 f1_262 rfl ?_
  refine o_bipush 45 X1 f1_263 rfl ?_
  refine o_bipush 45 X1 f1_265 rfl ?_
  refine own_fill X1 f1_267 F1 (by decide) (m' := 46) rfl (by decide) ha ?_
  intro T h X1 F1
  refine o_dup X1 f1_268 rfl ?_
  refine o_bipush 46 X1 f1_269 rfl ?_
  refine o_bipush 46 X1 f1_271 rfl ?_
  refine own_fill X1 f1_273 F1 (by decide) (m' := 47) rfl (by decide) ha ?_
  intro T h X1 F1
  refine o_dup X1 f1_274 rfl ?_
  refine o_bipush 47 X1 f1_275 rfl ?_
  refine o_bipush 47 X1 f1_277 rfl ?_
  refine own_fill X1 f1_279 F1 (by decide) (m' := 48) rfl (by decide) ha ?_
  intro T h X1 F1
  refine o_dup X1 f1_280 rfl ?_
  refine o_bipush 48 X1 f1_281 rfl ?_
  refine o_bipush 48 X1 f1_283 rfl ?_
  refine own_fill X1 f1_285 F1 (by decide) (m' := 49) rfl (by decide) ha ?_
  intro T h X1 F1
  refine o_dup X1 f1_286 rfl ?_
  refine o_bipush 49 X1 f1_287 rfl ?_
  refine o_bipush 49 X1 f1_289 rfl ?_
  refine own_fill X1 f1_291 F1 (by decide) (m' := 50) rfl (by decide) ha ?_
  intro T h X1 F1
  refine o_dup X1 f1_292 rfl ?_
  refine o_bipush 50 X1 f1_293 rfl ?_
  refine o_bipush 50 X1 f1_295 rfl ?_
  refine own_fill X1 f1_297 F1 (by decide) (m' := 51) rfl (by decide) ha ?_
  intro T h X1 F1
  refine o_dup X1 f1_298 rfl ?_
  refine o_bipush 51 X1 f1_299 rfl ?_
  refine o_bipush 51 X1 f1_301 rfl ?_
  refine own_fill X1 f1_303 F1 (by decide) (m' := 52) rfl (by decide) ha ?_
  intro T h X1 F1
  refine o_dup X1 f1_304 rfl ?_
  refine o_bipush 52 X1 f1_305 rfl ?_
  refine o_bipush 52 X1 f1_307 rfl ?_
  refine own_fill X1 f1_309 F1 (by decide) (m' := 53) rfl (by decide) ha ?_
  intro T h X1 F1
  refine o_dup X1 f1_310 rfl ?_
  refine o_bipush 53 X1 f1_311 rfl ?_
  refine o_bipush 53 X1 f1_313 rfl ?_
  refine own_fill X1 f1_315 F1 (by decide) (m' := 54) rfl (by decide) ha ?_
  intro T h X1 F1
  refine o_dup X1 f1_316 rfl ?_
  refine o_bipush 54 X1 f1_317 rfl ?_
  refine o_bipush 54 X1 f1_319 rfl ?_
  refine own_fill X1 f1_321 F1 (by decide) (m' := 55) rfl (by decide) ha ?_
  intro T h X1 F1
  refine o_dup X1 f1_322 rfl ?_
  refine o_bipush 55 X1 f1_323 rfl ?_
  refine o_bipush 55 X1 f1_325 rfl ?_
  refine own_fill X1 f1_327 F1 (by decide) (m' := 56) rfl (by decide) ha ?_
  intro T h X1 F1
  refine o_dup X1 f1_328 rfl ?_
  refine o_bipush 56 X1 f1_329 rfl ?_
  refine o_bipush 56 X1 f1_331 rfl ?_
  refine own_fill X1 f1_333 F1 (by decide) (m' := 57) rfl (by decide) ha ?_
  intro T h X1 F1
  refine o_dup X1 f1_334 rfl ?_
  refine o_bipush 57 X1 f1_335 rfl ?_
  refine o_bipush 57 X1 f1_337 rfl ?_
  refine own_fill X1 f1_339 F1 (by decide) (m' := 58) rfl (by decide) ha ?_
  intro T h X1 F1
  refine o_dup X1 f1_340 rfl ?_
  refine o_bipush 58 X1 f1_341 rfl ?_
  refine o_bipush 58 X1 f1_343 rfl ?_
  refine own_fill X1 f1_345 F1 (by decide) (m' := 59) rfl (by decide) ha ?_
  intro T h X1 F1
  refine o_dup X1 f1_346 rfl ?_
  refine o_bipush 59 X1 f1_347 rfl ?_
  refine o_bipush 59 X1 f1_349 rfl ?_
  refine own_fill X1 f1_351 F1 (by decide) (m' := 60) rfl (by decide) ha ?_
  intro T h X1 F1
  refine o_dup X1 f1_352 rfl ?_
  refine o_bipush 60 X1 f1_353 rfl ?_
  refine o_bipush 60 X1 f1_355 rfl ?_
  refine own_fill X1 f1_357 F1 (by decide) (m' := 61) rfl (by decide) ha ?_
  intro T h X1 F1
  refine o_dup X1 f1_358 rfl ?_
  refine o_bipush 61 X1 f1_359 rfl ?_
  refine o_bipush 61 X1 f1_361 rfl ?_
  refine own_fill X1 f1_363 F1 (by decide) (m' := 62) rfl (by decide) ha ?_
  intro T h X1 F1
  refine o_dup X1 f1_364 rfl ?_
  refine o_bipush 62 X1 f1_365 rfl ?_
  refine o_bipush 62 X1 f1_367 rfl ?_
  refine own_fill X1 f1_369 F1 (by decide) (m' := 63) rfl (by decide) ha ?_
  intro T h X1 F1
  refine o_retA X1 rfl rfl rfl f1_370 (by decide) (by decide) ?_
  obtain ⟨f, A, F⟩ := F1
  exact ⟨a, f, rfl, A, F, ha⟩
set_option maxRecDepth 65536 in
set_option maxHeartbeats 40000000 in
theorem rm3 (l : Launch) (Z : State) (a0 : Array Value) (hw : ∀ d ∈ tables_1, d.before a0 Z = true)  (h : Heap) (n0 : Nat) (hn0 : n0 ≤ h.size) :
    Ctr l Z (⟨"com/example/nodewell/nodewell/cache/BitStatisticsHashIsOrderPinLaw", "short62", "()[I"⟩ : MethodName) method_3_code 0 (some (.array .int)) ({ frames := 0, cells := 1, slots := 62, locals := 0 } : Room) [] h n0 (fun v h' => ∃ a, v = some (.ref a) ∧ own_Fil Z h' a 62 0 ∧ n0 ≤ a) := by
  refine CtrW.intro (plainFor_of_name pn1) rfl #[] rfl ?_
  intro K T hnm hl X
  subst hl
  refine o_bipush 62 X f3_0 rfl ?_
  refine o_newarrayN X 62 62 f3_2 (hw _ (List.mem_of_getElem? (i := 5) rfl)) (by decide) (by decide) (by decide) rfl (by decide) ?_
  intro T1 h1 a e1 X1 E1 A1
  have ha : n0 ≤ a := e1 ▸ hn0
  have F1 : own_Fil Z h1 a 62 0 := ⟨_, A1, fun i hi => absurd hi (Nat.not_lt_zero _)⟩
  refine o_dup X1 f3_4 rfl ?_
  refine o_iconst 0 X1 f3_5 rfl ?_
  refine o_iconst 0 X1 f3_6 rfl ?_
  refine own_fill0 X1 f3_7 F1 (by decide) (by decide) ha ?_
  intro T h X1 F1
  refine o_dup X1 f3_8 rfl ?_
  refine o_iconst 1 X1 f3_9 rfl ?_
  refine o_iconst 1 X1 f3_10 rfl ?_
  refine own_fill0 X1 f3_11 F1 (by decide) (by decide) ha ?_
  intro T h X1 F1
  refine o_dup X1 f3_12 rfl ?_
  refine o_iconst 2 X1 f3_13 rfl ?_
  refine o_iconst 2 X1 f3_14 rfl ?_
  refine own_fill0 X1 f3_15 F1 (by decide) (by decide) ha ?_
  intro T h X1 F1
  refine o_dup X1 f3_16 rfl ?_
  refine o_iconst 3 X1 f3_17 rfl ?_
  refine o_iconst 3 X1 f3_18 rfl ?_
  refine own_fill0 X1 f3_19 F1 (by decide) (by decide) ha ?_
  intro T h X1 F1
  refine o_dup X1 f3_20 rfl ?_
  refine o_iconst 4 X1 f3_21 rfl ?_
  refine o_iconst 4 X1 f3_22 rfl ?_
  refine own_fill0 X1 f3_23 F1 (by decide) (by decide) ha ?_
  intro T h X1 F1
  refine o_dup X1 f3_24 rfl ?_
  refine o_iconst 5 X1 f3_25 rfl ?_
  refine o_iconst 5 X1 f3_26 rfl ?_
  refine own_fill0 X1 f3_27 F1 (by decide) (by decide) ha ?_
  intro T h X1 F1
  refine o_dup X1 f3_28 rfl ?_
  refine o_bipush 6 X1 f3_29 rfl ?_
  refine o_bipush 6 X1 f3_31 rfl ?_
  refine own_fill0 X1 f3_33 F1 (by decide) (by decide) ha ?_
  intro T h X1 F1
  refine o_dup X1 f3_34 rfl ?_
  refine o_bipush 7 X1 f3_35 rfl ?_
  refine o_bipush 7 X1 f3_37 rfl ?_
  refine own_fill0 X1 f3_39 F1 (by decide) (by decide) ha ?_
  intro T h X1 F1
  refine o_dup X1 f3_40 rfl ?_
  refine o_bipush 8 X1 f3_41 rfl ?_
  refine o_bipush 8 X1 f3_43 rfl ?_
  refine own_fill0 X1 f3_45 F1 (by decide) (by decide) ha ?_
  intro T h X1 F1
  refine o_dup X1 f3_46 rfl ?_
  refine o_bipush 9 X1 f3_47 rfl ?_
  refine o_bipush 9 X1 f3_49 rfl ?_
  refine own_fill0 X1 f3_51 F1 (by decide) (by decide) ha ?_
  intro T h X1 F1
  refine o_dup X1 f3_52 rfl ?_
  refine o_bipush 10 X1 f3_53 rfl ?_
  refine o_bipush 10 X1 f3_55 rfl ?_
  refine own_fill0 X1 f3_57 F1 (by decide) (by decide) ha ?_
  intro T h X1 F1
  refine o_dup X1 f3_58 rfl ?_
  refine o_bipush 11 X1 f3_59 rfl ?_
  refine o_bipush 11 X1 f3_61 rfl ?_
  refine own_fill0 X1 f3_63 F1 (by decide) (by decide) ha ?_
  intro T h X1 F1
  refine o_dup X1 f3_64 rfl ?_
  refine o_bipush 12 X1 f3_65 rfl ?_
  refine o_bipush 12 X1 f3_67 rfl ?_
  refine own_fill0 X1 f3_69 F1 (by decide) (by decide) ha ?_
  intro T h X1 F1
  refine o_dup X1 f3_70 rfl ?_
  refine o_bipush 13 X1 f3_71 rfl ?_
  refine o_bipush 13 X1 f3_73 rfl ?_
  refine own_fill0 X1 f3_75 F1 (by decide) (by decide) ha ?_
  intro T h X1 F1
  refine o_dup X1 f3_76 rfl ?_
  refine o_bipush 14 X1 f3_77 rfl ?_
  refine o_bipush 14 X1 f3_79 rfl ?_
  refine own_fill0 X1 f3_81 F1 (by decide) (by decide) ha ?_
  intro T h X1 F1
  refine o_dup X1 f3_82 rfl ?_
  refine o_bipush 15 X1 f3_83 rfl ?_
  refine o_bipush 15 X1 f3_85 rfl ?_
  refine own_fill0 X1 f3_87 F1 (by decide) (by decide) ha ?_
  intro T h X1 F1
  refine o_dup X1 f3_88 rfl ?_
  refine o_bipush 16 X1 f3_89 rfl ?_
  refine o_bipush 16 X1 f3_91 rfl ?_
  refine own_fill0 X1 f3_93 F1 (by decide) (by decide) ha ?_
  intro T h X1 F1
  refine o_dup X1 f3_94 rfl ?_
  refine o_bipush 17 X1 f3_95 rfl ?_
  refine o_bipush 17 X1 f3_97 rfl ?_
  refine own_fill0 X1 f3_99 F1 (by decide) (by decide) ha ?_
  intro T h X1 F1
  refine o_dup X1 f3_100 rfl ?_
  refine o_bipush 18 X1 f3_101 rfl ?_
  refine o_bipush 18 X1 f3_103 rfl ?_
  refine own_fill0 X1 f3_105 F1 (by decide) (by decide) ha ?_
  intro T h X1 F1
  refine o_dup X1 f3_106 rfl ?_
  refine o_bipush 19 X1 f3_107 rfl ?_
  refine o_bipush 19 X1 f3_109 rfl ?_
  refine own_fill0 X1 f3_111 F1 (by decide) (by decide) ha ?_
  intro T h X1 F1
  refine o_dup X1 f3_112 rfl ?_
  refine o_bipush 20 X1 f3_113 rfl ?_
  refine o_bipush 20 X1 f3_115 rfl ?_
  refine own_fill0 X1 f3_117 F1 (by decide) (by decide) ha ?_
  intro T h X1 F1
  refine o_dup X1 f3_118 rfl ?_
  refine o_bipush 21 X1 f3_119 rfl ?_
  refine o_bipush 21 X1 f3_121 rfl ?_
  refine own_fill0 X1 f3_123 F1 (by decide) (by decide) ha ?_
  intro T h X1 F1
  refine o_dup X1 f3_124 rfl ?_
  refine o_bipush 22 X1 f3_125 rfl ?_
  refine o_bipush 22 X1 f3_127 rfl ?_
  refine own_fill0 X1 f3_129 F1 (by decide) (by decide) ha ?_
  intro T h X1 F1
  refine o_dup X1 f3_130 rfl ?_
  refine o_bipush 23 X1 f3_131 rfl ?_
  refine o_bipush 23 X1 f3_133 rfl ?_
  refine own_fill0 X1 f3_135 F1 (by decide) (by decide) ha ?_
  intro T h X1 F1
  refine o_dup X1 f3_136 rfl ?_
  refine o_bipush 24 X1 f3_137 rfl ?_
  refine o_bipush 24 X1 f3_139 rfl ?_
  refine own_fill0 X1 f3_141 F1 (by decide) (by decide) ha ?_
  intro T h X1 F1
  refine o_dup X1 f3_142 rfl ?_
  refine o_bipush 25 X1 f3_143 rfl ?_
  refine o_bipush 25 X1 f3_145 rfl ?_
  refine own_fill0 X1 f3_147 F1 (by decide) (by decide) ha ?_
  intro T h X1 F1
  refine o_dup X1 f3_148 rfl ?_
  refine o_bipush 26 X1 f3_149 rfl ?_
  refine o_bipush 26 X1 f3_151 rfl ?_
  refine own_fill0 X1 f3_153 F1 (by decide) (by decide) ha ?_
  intro T h X1 F1
  refine o_dup X1 f3_154 rfl ?_
  refine o_bipush 27 X1 f3_155 rfl ?_
  refine o_bipush 27 X1 f3_157 rfl ?_
  refine own_fill0 X1 f3_159 F1 (by decide) (by decide) ha ?_
  intro T h X1 F1
  refine o_dup X1 f3_160 rfl ?_
  refine o_bipush 28 X1 f3_161 rfl ?_
  refine o_bipush 28 X1 f3_163 rfl ?_
  refine own_fill0 X1 f3_165 F1 (by decide) (by decide) ha ?_
  intro T h X1 F1
  refine o_dup X1 f3_166 rfl ?_
  refine o_bipush 29 X1 f3_167 rfl ?_
  refine o_bipush 29 X1 f3_169 rfl ?_
  refine own_fill0 X1 f3_171 F1 (by decide) (by decide) ha ?_
  intro T h X1 F1
  refine o_dup X1 f3_172 rfl ?_
  refine o_bipush 30 X1 f3_173 rfl ?_
  refine o_bipush 30 X1 f3_175 rfl ?_
  refine own_fill0 X1 f3_177 F1 (by decide) (by decide) ha ?_
  intro T h X1 F1
  refine o_dup X1 f3_178 rfl ?_
  refine o_bipush 31 X1 f3_179 rfl ?_
  refine o_bipush 31 X1 f3_181 rfl ?_
  refine own_fill0 X1 f3_183 F1 (by decide) (by decide) ha ?_
  intro T h X1 F1
  refine o_dup X1 f3_184 rfl ?_
  refine o_bipush 32 X1 f3_185 rfl ?_
  refine o_bipush 32 X1 f3_187 rfl ?_
  refine own_fill0 X1 f3_189 F1 (by decide) (by decide) ha ?_
  intro T h X1 F1
  refine o_dup X1 f3_190 rfl ?_
  refine o_bipush 33 X1 f3_191 rfl ?_
  refine o_bipush 33 X1 f3_193 rfl ?_
  refine own_fill0 X1 f3_195 F1 (by decide) (by decide) ha ?_
  intro T h X1 F1
  refine o_dup X1 f3_196 rfl ?_
  refine o_bipush 34 X1 f3_197 rfl ?_
  refine o_bipush 34 X1 f3_199 rfl ?_
  refine own_fill0 X1 f3_201 F1 (by decide) (by decide) ha ?_
  intro T h X1 F1
  refine o_dup X1 f3_202 rfl ?_
  refine o_bipush 35 X1 f3_203 rfl ?_
  refine o_bipush 35 X1 f3_205 rfl ?_
  refine own_fill0 X1 f3_207 F1 (by decide) (by decide) ha ?_
  intro T h X1 F1
  refine o_dup X1 f3_208 rfl ?_
  refine o_bipush 36 X1 f3_209 rfl ?_
  refine o_bipush 36 X1 f3_211 rfl ?_
  refine own_fill0 X1 f3_213 F1 (by decide) (by decide) ha ?_
  intro T h X1 F1
  refine o_dup X1 f3_214 rfl ?_
  refine o_bipush 37 X1 f3_215 rfl ?_
  refine o_bipush 37 X1 f3_217 rfl ?_
  refine own_fill0 X1 f3_219 F1 (by decide) (by decide) ha ?_
  intro T h X1 F1
  refine o_dup X1 f3_220 rfl ?_
  refine o_bipush 38 X1 f3_221 rfl ?_
  refine o_bipush 38 X1 f3_223 rfl ?_
  refine own_fill0 X1 f3_225 F1 (by decide) (by decide) ha ?_
  intro T h X1 F1
  refine o_dup X1 f3_226 rfl ?_
  refine o_bipush 39 X1 f3_227 rfl ?_
  refine o_bipush 39 X1 f3_229 rfl ?_
  refine own_fill0 X1 f3_231 F1 (by decide) (by decide) ha ?_
  intro T h X1 F1
  refine o_dup X1 f3_232 rfl ?_
  refine o_bipush 40 X1 f3_233 rfl ?_
  refine o_bipush 40 X1 f3_235 rfl ?_
  refine own_fill0 X1 f3_237 F1 (by decide) (by decide) ha ?_
  intro T h X1 F1
  refine o_dup X1 f3_238 rfl ?_
  refine o_bipush 41 X1 f3_239 rfl ?_
  refine o_bipush 41 X1 f3_241 rfl ?_
  refine own_fill0 X1 f3_243 F1 (by decide) (by decide) ha ?_
  intro T h X1 F1
  refine o_dup X1 f3_244 rfl ?_
  refine o_bipush 42 X1 f3_245 rfl ?_
  refine o_bipush 42 X1 f3_247 rfl ?_
  refine own_fill0 X1 f3_249 F1 (by decide) (by decide) ha ?_
  intro T h X1 F1
  refine o_dup X1 f3_250 rfl ?_
  refine o_bipush 43 X1 f3_251 rfl ?_
  refine o_bipush 43 X1 f3_253 rfl ?_
  refine own_fill0 X1 f3_255 F1 (by decide) (by decide) ha ?_
  intro T h X1 F1
  refine o_dup X1 f3_256 rfl ?_
  refine o_bipush 44 X1 f3_257 rfl ?_
  refine o_bipush 44 X1 f3_259 rfl ?_
  refine own_fill0 X1 f3_261 F1 (by decide) (by decide) ha ?_
  intro T h X1 F1
  refine o_dup X1 f3_262 rfl ?_
  refine o_bipush 45 X1 f3_263 rfl ?_
  refine o_bipush 45 X1 f3_265 rfl ?_
  refine own_fill0 X1 f3_267 F1 (by decide) (by decide) ha ?_
  intro T h X1 F1
  refine o_dup X1 f3_268 rfl ?_
  refine o_bipush 46 X1 f3_269 rfl ?_
  refine o_bipush 46 X1 f3_271 rfl ?_
  refine own_fill0 X1 f3_273 F1 (by decide) (by decide) ha ?_
  intro T h X1 F1
  refine o_dup X1 f3_274 rfl ?_
  refine o_bipush 47 X1 f3_275 rfl ?_
  refine o_bipush 47 X1 f3_277 rfl ?_
  refine own_fill0 X1 f3_279 F1 (by decide) (by decide) ha ?_
  intro T h X1 F1
  refine o_dup X1 f3_280 rfl ?_
  refine o_bipush 48 X1 f3_281 rfl ?_
  refine o_bipush 48 X1 f3_283 rfl ?_
  refine own_fill0 X1 f3_285 F1 (by decide) (by decide) ha ?_
  intro T h X1 F1
  refine o_dup X1 f3_286 rfl ?_
  refine o_bipush 49 X1 f3_287 rfl ?_
  refine o_bipush 49 X1 f3_289 rfl ?_
  refine own_fill0 X1 f3_291 F1 (by decide) (by decide) ha ?_
  intro T h X1 F1
  refine o_dup X1 f3_292 rfl ?_
  refine o_bipush 50 X1 f3_293 rfl ?_
  refine o_bipush 50 X1 f3_295 rfl ?_
  refine own_fill0 X1 f3_297 F1 (by decide) (by decide) ha ?_
  intro T h X1 F1
  refine o_dup X1 f3_298 rfl ?_
  refine o_bipush 51 X1 f3_299 rfl ?_
  refine o_bipush 51 X1 f3_301 rfl ?_
  refine own_fill0 X1 f3_303 F1 (by decide) (by decide) ha ?_
  intro T h X1 F1
  refine o_dup X1 f3_304 rfl ?_
  refine o_bipush 52 X1 f3_305 rfl ?_
  refine o_bipush 52 X1 f3_307 rfl ?_
  refine own_fill0 X1 f3_309 F1 (by decide) (by decide) ha ?_
  intro T h X1 F1
  refine o_dup X1 f3_310 rfl ?_
  refine o_bipush 53 X1 f3_311 rfl ?_
  refine o_bipush 53 X1 f3_313 rfl ?_
  refine own_fill0 X1 f3_315 F1 (by decide) (by decide) ha ?_
  intro T h X1 F1
  refine o_dup X1 f3_316 rfl ?_
  refine o_bipush 54 X1 f3_317 rfl ?_
  refine o_bipush 54 X1 f3_319 rfl ?_
  refine own_fill0 X1 f3_321 F1 (by decide) (by decide) ha ?_
  intro T h X1 F1
  refine o_dup X1 f3_322 rfl ?_
  refine o_bipush 55 X1 f3_323 rfl ?_
  refine o_bipush 55 X1 f3_325 rfl ?_
  refine own_fill0 X1 f3_327 F1 (by decide) (by decide) ha ?_
  intro T h X1 F1
  refine o_dup X1 f3_328 rfl ?_
  refine o_bipush 56 X1 f3_329 rfl ?_
  refine o_bipush 56 X1 f3_331 rfl ?_
  refine own_fill0 X1 f3_333 F1 (by decide) (by decide) ha ?_
  intro T h X1 F1
  refine o_dup X1 f3_334 rfl ?_
  refine o_bipush 57 X1 f3_335 rfl ?_
  refine o_bipush 57 X1 f3_337 rfl ?_
  refine own_fill0 X1 f3_339 F1 (by decide) (by decide) ha ?_
  intro T h X1 F1
  refine o_dup X1 f3_340 rfl ?_
  refine o_bipush 58 X1 f3_341 rfl ?_
  refine o_bipush 58 X1 f3_343 rfl ?_
  refine own_fill0 X1 f3_345 F1 (by decide) (by decide) ha ?_
  intro T h X1 F1
  refine o_dup X1 f3_346 rfl ?_
  refine o_bipush 59 X1 f3_347 rfl ?_
  refine o_bipush 59 X1 f3_349 rfl ?_
  refine own_fill0 X1 f3_351 F1 (by decide) (by decide) ha ?_
  intro T h X1 F1
  refine o_dup X1 f3_352 rfl ?_
  refine o_bipush 60 X1 f3_353 rfl ?_
  refine o_bipush 60 X1 f3_355 rfl ?_
  refine own_fill0 X1 f3_357 F1 (by decide) (by decide) ha ?_
  intro T h X1 F1
  refine o_dup X1 f3_358 rfl ?_
  refine o_bipush 61 X1 f3_359 rfl ?_
  refine o_bipush 61 X1 f3_361 rfl ?_
  refine own_fill0 X1 f3_363 F1 (by decide) (by decide) ha ?_
  intro T h X1 F1
  refine o_retA X1 rfl rfl rfl f3_364 (by decide) (by decide) ?_
  exact ⟨a, rfl, F1, ha⟩
set_option maxRecDepth 65536 in
set_option maxHeartbeats 40000000 in
theorem rm4 (l : Launch) (Z : State) (a0 : Array Value) (hw : ∀ d ∈ tables_1, d.before a0 Z = true)  (h : Heap) (n0 : Nat) (hn0 : n0 ≤ h.size) :
    Ctr l Z (⟨"com/example/nodewell/nodewell/cache/BitStatisticsHashIsOrderPinLaw", "long64", "()[I"⟩ : MethodName) method_4_code 0 (some (.array .int)) ({ frames := 0, cells := 1, slots := 64, locals := 0 } : Room) [] h n0 (fun v h' => ∃ a, v = some (.ref a) ∧ own_Fil Z h' a 64 0 ∧ n0 ≤ a) := by
  refine CtrW.intro (plainFor_of_name pn1) rfl #[] rfl ?_
  intro K T hnm hl X
  subst hl
  refine o_bipush 64 X f4_0 rfl ?_
  refine o_newarrayN X 64 64 f4_2 (hw _ (List.mem_of_getElem? (i := 5) rfl)) (by decide) (by decide) (by decide) rfl (by decide) ?_
  intro T1 h1 a e1 X1 E1 A1
  have ha : n0 ≤ a := e1 ▸ hn0
  have F1 : own_Fil Z h1 a 64 0 := ⟨_, A1, fun i hi => absurd hi (Nat.not_lt_zero _)⟩
  refine o_dup X1 f4_4 rfl ?_
  refine o_iconst 0 X1 f4_5 rfl ?_
  refine o_iconst 0 X1 f4_6 rfl ?_
  refine own_fill0 X1 f4_7 F1 (by decide) (by decide) ha ?_
  intro T h X1 F1
  refine o_dup X1 f4_8 rfl ?_
  refine o_iconst 1 X1 f4_9 rfl ?_
  refine o_iconst 1 X1 f4_10 rfl ?_
  refine own_fill0 X1 f4_11 F1 (by decide) (by decide) ha ?_
  intro T h X1 F1
  refine o_dup X1 f4_12 rfl ?_
  refine o_iconst 2 X1 f4_13 rfl ?_
  refine o_iconst 2 X1 f4_14 rfl ?_
  refine own_fill0 X1 f4_15 F1 (by decide) (by decide) ha ?_
  intro T h X1 F1
  refine o_dup X1 f4_16 rfl ?_
  refine o_iconst 3 X1 f4_17 rfl ?_
  refine o_iconst 3 X1 f4_18 rfl ?_
  refine own_fill0 X1 f4_19 F1 (by decide) (by decide) ha ?_
  intro T h X1 F1
  refine o_dup X1 f4_20 rfl ?_
  refine o_iconst 4 X1 f4_21 rfl ?_
  refine o_iconst 4 X1 f4_22 rfl ?_
  refine own_fill0 X1 f4_23 F1 (by decide) (by decide) ha ?_
  intro T h X1 F1
  refine o_dup X1 f4_24 rfl ?_
  refine o_iconst 5 X1 f4_25 rfl ?_
  refine o_iconst 5 X1 f4_26 rfl ?_
  refine own_fill0 X1 f4_27 F1 (by decide) (by decide) ha ?_
  intro T h X1 F1
  refine o_dup X1 f4_28 rfl ?_
  refine o_bipush 6 X1 f4_29 rfl ?_
  refine o_bipush 6 X1 f4_31 rfl ?_
  refine own_fill0 X1 f4_33 F1 (by decide) (by decide) ha ?_
  intro T h X1 F1
  refine o_dup X1 f4_34 rfl ?_
  refine o_bipush 7 X1 f4_35 rfl ?_
  refine o_bipush 7 X1 f4_37 rfl ?_
  refine own_fill0 X1 f4_39 F1 (by decide) (by decide) ha ?_
  intro T h X1 F1
  refine o_dup X1 f4_40 rfl ?_
  refine o_bipush 8 X1 f4_41 rfl ?_
  refine o_bipush 8 X1 f4_43 rfl ?_
  refine own_fill0 X1 f4_45 F1 (by decide) (by decide) ha ?_
  intro T h X1 F1
  refine o_dup X1 f4_46 rfl ?_
  refine o_bipush 9 X1 f4_47 rfl ?_
  refine o_bipush 9 X1 f4_49 rfl ?_
  refine own_fill0 X1 f4_51 F1 (by decide) (by decide) ha ?_
  intro T h X1 F1
  refine o_dup X1 f4_52 rfl ?_
  refine o_bipush 10 X1 f4_53 rfl ?_
  refine o_bipush 10 X1 f4_55 rfl ?_
  refine own_fill0 X1 f4_57 F1 (by decide) (by decide) ha ?_
  intro T h X1 F1
  refine o_dup X1 f4_58 rfl ?_
  refine o_bipush 11 X1 f4_59 rfl ?_
  refine o_bipush 11 X1 f4_61 rfl ?_
  refine own_fill0 X1 f4_63 F1 (by decide) (by decide) ha ?_
  intro T h X1 F1
  refine o_dup X1 f4_64 rfl ?_
  refine o_bipush 12 X1 f4_65 rfl ?_
  refine o_bipush 12 X1 f4_67 rfl ?_
  refine own_fill0 X1 f4_69 F1 (by decide) (by decide) ha ?_
  intro T h X1 F1
  refine o_dup X1 f4_70 rfl ?_
  refine o_bipush 13 X1 f4_71 rfl ?_
  refine o_bipush 13 X1 f4_73 rfl ?_
  refine own_fill0 X1 f4_75 F1 (by decide) (by decide) ha ?_
  intro T h X1 F1
  refine o_dup X1 f4_76 rfl ?_
  refine o_bipush 14 X1 f4_77 rfl ?_
  refine o_bipush 14 X1 f4_79 rfl ?_
  refine own_fill0 X1 f4_81 F1 (by decide) (by decide) ha ?_
  intro T h X1 F1
  refine o_dup X1 f4_82 rfl ?_
  refine o_bipush 15 X1 f4_83 rfl ?_
  refine o_bipush 15 X1 f4_85 rfl ?_
  refine own_fill0 X1 f4_87 F1 (by decide) (by decide) ha ?_
  intro T h X1 F1
  refine o_dup X1 f4_88 rfl ?_
  refine o_bipush 16 X1 f4_89 rfl ?_
  refine o_bipush 16 X1 f4_91 rfl ?_
  refine own_fill0 X1 f4_93 F1 (by decide) (by decide) ha ?_
  intro T h X1 F1
  refine o_dup X1 f4_94 rfl ?_
  refine o_bipush 17 X1 f4_95 rfl ?_
  refine o_bipush 17 X1 f4_97 rfl ?_
  refine own_fill0 X1 f4_99 F1 (by decide) (by decide) ha ?_
  intro T h X1 F1
  refine o_dup X1 f4_100 rfl ?_
  refine o_bipush 18 X1 f4_101 rfl ?_
  refine o_bipush 18 X1 f4_103 rfl ?_
  refine own_fill0 X1 f4_105 F1 (by decide) (by decide) ha ?_
  intro T h X1 F1
  refine o_dup X1 f4_106 rfl ?_
  refine o_bipush 19 X1 f4_107 rfl ?_
  refine o_bipush 19 X1 f4_109 rfl ?_
  refine own_fill0 X1 f4_111 F1 (by decide) (by decide) ha ?_
  intro T h X1 F1
  refine o_dup X1 f4_112 rfl ?_
  refine o_bipush 20 X1 f4_113 rfl ?_
  refine o_bipush 20 X1 f4_115 rfl ?_
  refine own_fill0 X1 f4_117 F1 (by decide) (by decide) ha ?_
  intro T h X1 F1
  refine o_dup X1 f4_118 rfl ?_
  refine o_bipush 21 X1 f4_119 rfl ?_
  refine o_bipush 21 X1 f4_121 rfl ?_
  refine own_fill0 X1 f4_123 F1 (by decide) (by decide) ha ?_
  intro T h X1 F1
  refine o_dup X1 f4_124 rfl ?_
  refine o_bipush 22 X1 f4_125 rfl ?_
  refine o_bipush 22 X1 f4_127 rfl ?_
  refine own_fill0 X1 f4_129 F1 (by decide) (by decide) ha ?_
  intro T h X1 F1
  refine o_dup X1 f4_130 rfl ?_
  refine o_bipush 23 X1 f4_131 rfl ?_
  refine o_bipush 23 X1 f4_133 rfl ?_
  refine own_fill0 X1 f4_135 F1 (by decide) (by decide) ha ?_
  intro T h X1 F1
  refine o_dup X1 f4_136 rfl ?_
  refine o_bipush 24 X1 f4_137 rfl ?_
  refine o_bipush 24 X1 f4_139 rfl ?_
  refine own_fill0 X1 f4_141 F1 (by decide) (by decide) ha ?_
  intro T h X1 F1
  refine o_dup X1 f4_142 rfl ?_
  refine o_bipush 25 X1 f4_143 rfl ?_
  refine o_bipush 25 X1 f4_145 rfl ?_
  refine own_fill0 X1 f4_147 F1 (by decide) (by decide) ha ?_
  intro T h X1 F1
  refine o_dup X1 f4_148 rfl ?_
  refine o_bipush 26 X1 f4_149 rfl ?_
  refine o_bipush 26 X1 f4_151 rfl ?_
  refine own_fill0 X1 f4_153 F1 (by decide) (by decide) ha ?_
  intro T h X1 F1
  refine o_dup X1 f4_154 rfl ?_
  refine o_bipush 27 X1 f4_155 rfl ?_
  refine o_bipush 27 X1 f4_157 rfl ?_
  refine own_fill0 X1 f4_159 F1 (by decide) (by decide) ha ?_
  intro T h X1 F1
  refine o_dup X1 f4_160 rfl ?_
  refine o_bipush 28 X1 f4_161 rfl ?_
  refine o_bipush 28 X1 f4_163 rfl ?_
  refine own_fill0 X1 f4_165 F1 (by decide) (by decide) ha ?_
  intro T h X1 F1
  refine o_dup X1 f4_166 rfl ?_
  refine o_bipush 29 X1 f4_167 rfl ?_
  refine o_bipush 29 X1 f4_169 rfl ?_
  refine own_fill0 X1 f4_171 F1 (by decide) (by decide) ha ?_
  intro T h X1 F1
  refine o_dup X1 f4_172 rfl ?_
  refine o_bipush 30 X1 f4_173 rfl ?_
  refine o_bipush 30 X1 f4_175 rfl ?_
  refine own_fill0 X1 f4_177 F1 (by decide) (by decide) ha ?_
  intro T h X1 F1
  refine o_dup X1 f4_178 rfl ?_
  refine o_bipush 31 X1 f4_179 rfl ?_
  refine o_bipush 31 X1 f4_181 rfl ?_
  refine own_fill0 X1 f4_183 F1 (by decide) (by decide) ha ?_
  intro T h X1 F1
  refine o_dup X1 f4_184 rfl ?_
  refine o_bipush 32 X1 f4_185 rfl ?_
  refine o_bipush 32 X1 f4_187 rfl ?_
  refine own_fill0 X1 f4_189 F1 (by decide) (by decide) ha ?_
  intro T h X1 F1
  refine o_dup X1 f4_190 rfl ?_
  refine o_bipush 33 X1 f4_191 rfl ?_
  refine o_bipush 33 X1 f4_193 rfl ?_
  refine own_fill0 X1 f4_195 F1 (by decide) (by decide) ha ?_
  intro T h X1 F1
  refine o_dup X1 f4_196 rfl ?_
  refine o_bipush 34 X1 f4_197 rfl ?_
  refine o_bipush 34 X1 f4_199 rfl ?_
  refine own_fill0 X1 f4_201 F1 (by decide) (by decide) ha ?_
  intro T h X1 F1
  refine o_dup X1 f4_202 rfl ?_
  refine o_bipush 35 X1 f4_203 rfl ?_
  refine o_bipush 35 X1 f4_205 rfl ?_
  refine own_fill0 X1 f4_207 F1 (by decide) (by decide) ha ?_
  intro T h X1 F1
  refine o_dup X1 f4_208 rfl ?_
  refine o_bipush 36 X1 f4_209 rfl ?_
  refine o_bipush 36 X1 f4_211 rfl ?_
  refine own_fill0 X1 f4_213 F1 (by decide) (by decide) ha ?_
  intro T h X1 F1
  refine o_dup X1 f4_214 rfl ?_
  refine o_bipush 37 X1 f4_215 rfl ?_
  refine o_bipush 37 X1 f4_217 rfl ?_
  refine own_fill0 X1 f4_219 F1 (by decide) (by decide) ha ?_
  intro T h X1 F1
  refine o_dup X1 f4_220 rfl ?_
  refine o_bipush 38 X1 f4_221 rfl ?_
  refine o_bipush 38 X1 f4_223 rfl ?_
  refine own_fill0 X1 f4_225 F1 (by decide) (by decide) ha ?_
  intro T h X1 F1
  refine o_dup X1 f4_226 rfl ?_
  refine o_bipush 39 X1 f4_227 rfl ?_
  refine o_bipush 39 X1 f4_229 rfl ?_
  refine own_fill0 X1 f4_231 F1 (by decide) (by decide) ha ?_
  intro T h X1 F1
  refine o_dup X1 f4_232 rfl ?_
  refine o_bipush 40 X1 f4_233 rfl ?_
  refine o_bipush 40 X1 f4_235 rfl ?_
  refine own_fill0 X1 f4_237 F1 (by decide) (by decide) ha ?_
  intro T h X1 F1
  refine o_dup X1 f4_238 rfl ?_
  refine o_bipush 41 X1 f4_239 rfl ?_
  refine o_bipush 41 X1 f4_241 rfl ?_
  refine own_fill0 X1 f4_243 F1 (by decide) (by decide) ha ?_
  intro T h X1 F1
  refine o_dup X1 f4_244 rfl ?_
  refine o_bipush 42 X1 f4_245 rfl ?_
  refine o_bipush 42 X1 f4_247 rfl ?_
  refine own_fill0 X1 f4_249 F1 (by decide) (by decide) ha ?_
  intro T h X1 F1
  refine o_dup X1 f4_250 rfl ?_
  refine o_bipush 43 X1 f4_251 rfl ?_
  refine o_bipush 43 X1 f4_253 rfl ?_
  refine own_fill0 X1 f4_255 F1 (by decide) (by decide) ha ?_
  intro T h X1 F1
  refine o_dup X1 f4_256 rfl ?_
  refine o_bipush 44 X1 f4_257 rfl ?_
  refine o_bipush 44 X1 f4_259 rfl ?_
  refine own_fill0 X1 f4_261 F1 (by decide) (by decide) ha ?_
  intro T h X1 F1
  refine o_dup X1 f4_262 rfl ?_
  refine o_bipush 45 X1 f4_263 rfl ?_
  refine o_bipush 45 X1 f4_265 rfl ?_
  refine own_fill0 X1 f4_267 F1 (by decide) (by decide) ha ?_
  intro T h X1 F1
  refine o_dup X1 f4_268 rfl ?_
  refine o_bipush 46 X1 f4_269 rfl ?_
  refine o_bipush 46 X1 f4_271 rfl ?_
  refine own_fill0 X1 f4_273 F1 (by decide) (by decide) ha ?_
  intro T h X1 F1
  refine o_dup X1 f4_274 rfl ?_
  refine o_bipush 47 X1 f4_275 rfl ?_
  refine o_bipush 47 X1 f4_277 rfl ?_
  refine own_fill0 X1 f4_279 F1 (by decide) (by decide) ha ?_
  intro T h X1 F1
  refine o_dup X1 f4_280 rfl ?_
  refine o_bipush 48 X1 f4_281 rfl ?_
  refine o_bipush 48 X1 f4_283 rfl ?_
  refine own_fill0 X1 f4_285 F1 (by decide) (by decide) ha ?_
  intro T h X1 F1
  refine o_dup X1 f4_286 rfl ?_
  refine o_bipush 49 X1 f4_287 rfl ?_
  refine o_bipush 49 X1 f4_289 rfl ?_
  refine own_fill0 X1 f4_291 F1 (by decide) (by decide) ha ?_
  intro T h X1 F1
  refine o_dup X1 f4_292 rfl ?_
  refine o_bipush 50 X1 f4_293 rfl ?_
  refine o_bipush 50 X1 f4_295 rfl ?_
  refine own_fill0 X1 f4_297 F1 (by decide) (by decide) ha ?_
  intro T h X1 F1
  refine o_dup X1 f4_298 rfl ?_
  refine o_bipush 51 X1 f4_299 rfl ?_
  refine o_bipush 51 X1 f4_301 rfl ?_
  refine own_fill0 X1 f4_303 F1 (by decide) (by decide) ha ?_
  intro T h X1 F1
  refine o_dup X1 f4_304 rfl ?_
  refine o_bipush 52 X1 f4_305 rfl ?_
  refine o_bipush 52 X1 f4_307 rfl ?_
  refine own_fill0 X1 f4_309 F1 (by decide) (by decide) ha ?_
  intro T h X1 F1
  refine o_dup X1 f4_310 rfl ?_
  refine o_bipush 53 X1 f4_311 rfl ?_
  refine o_bipush 53 X1 f4_313 rfl ?_
  refine own_fill0 X1 f4_315 F1 (by decide) (by decide) ha ?_
  intro T h X1 F1
  refine o_dup X1 f4_316 rfl ?_
  refine o_bipush 54 X1 f4_317 rfl ?_
  refine o_bipush 54 X1 f4_319 rfl ?_
  refine own_fill0 X1 f4_321 F1 (by decide) (by decide) ha ?_
  intro T h X1 F1
  refine o_dup X1 f4_322 rfl ?_
  refine o_bipush 55 X1 f4_323 rfl ?_
  refine o_bipush 55 X1 f4_325 rfl ?_
  refine own_fill0 X1 f4_327 F1 (by decide) (by decide) ha ?_
  intro T h X1 F1
  refine o_dup X1 f4_328 rfl ?_
  refine o_bipush 56 X1 f4_329 rfl ?_
  refine o_bipush 56 X1 f4_331 rfl ?_
  refine own_fill0 X1 f4_333 F1 (by decide) (by decide) ha ?_
  intro T h X1 F1
  refine o_dup X1 f4_334 rfl ?_
  refine o_bipush 57 X1 f4_335 rfl ?_
  refine o_bipush 57 X1 f4_337 rfl ?_
  refine own_fill0 X1 f4_339 F1 (by decide) (by decide) ha ?_
  intro T h X1 F1
  refine o_dup X1 f4_340 rfl ?_
  refine o_bipush 58 X1 f4_341 rfl ?_
  refine o_bipush 58 X1 f4_343 rfl ?_
  refine own_fill0 X1 f4_345 F1 (by decide) (by decide) ha ?_
  intro T h X1 F1
  refine o_dup X1 f4_346 rfl ?_
  refine o_bipush 59 X1 f4_347 rfl ?_
  refine o_bipush 59 X1 f4_349 rfl ?_
  refine own_fill0 X1 f4_351 F1 (by decide) (by decide) ha ?_
  intro T h X1 F1
  refine o_dup X1 f4_352 rfl ?_
  refine o_bipush 60 X1 f4_353 rfl ?_
  refine o_bipush 60 X1 f4_355 rfl ?_
  refine own_fill0 X1 f4_357 F1 (by decide) (by decide) ha ?_
  intro T h X1 F1
  refine o_dup X1 f4_358 rfl ?_
  refine o_bipush 61 X1 f4_359 rfl ?_
  refine o_bipush 61 X1 f4_361 rfl ?_
  refine own_fill0 X1 f4_363 F1 (by decide) (by decide) ha ?_
  intro T h X1 F1
  refine o_dup X1 f4_364 rfl ?_
  refine o_bipush 62 X1 f4_365 rfl ?_
  refine o_bipush 62 X1 f4_367 rfl ?_
  refine own_fill0 X1 f4_369 F1 (by decide) (by decide) ha ?_
  intro T h X1 F1
  refine o_dup X1 f4_370 rfl ?_
  refine o_bipush 63 X1 f4_371 rfl ?_
  refine o_iconst 0 X1 f4_373 rfl ?_
  refine own_fill0 X1 f4_374 F1 (by decide) (by decide) ha ?_
  intro T h X1 F1
  refine o_retA X1 rfl rfl rfl f4_375 (by decide) (by decide) ?_
  exact ⟨a, rfl, F1, ha⟩
set_option maxRecDepth 65536 in
set_option maxHeartbeats 40000000 in
theorem rmA (l : Launch) (Z : State) (a0 : Array Value) (hw : ∀ d ∈ tables_1, d.before a0 Z = true) (a : Addr) (h : Heap) (n0 : Nat) (n : Nat) (f : Nat → Int32) (hn : ¬ n.toInt32 = 63) (A : AN Z h a .int n f) :
    Ctr l Z (⟨"com/example/nodewell/nodewell/cache/BitStatisticsHash", "isOrder", "([I)Z"⟩ : MethodName) prog_25_method_5_code 6 (some (.boolean)) ({ frames := 0, cells := 0, slots := 0, locals := 0 } : Room) [.ref a] h n0 (fun v _ => v = some (.int 0)) := by
  refine CtrW.intro (plainFor_of_name pn0) rfl #[.val (.ref a), .unset, .unset, .unset, .unset, .unset] rfl ?_
  intro K T hnm hl X
  subst hl
  refine o_aload_n X f2_0 rfl rfl ?_
  refine o_alenN X _ f2_1 A rfl ?_
  refine o_bipush 63 X f2_2 rfl ?_
  refine o_icmp_eq_f X f2_4 (hn) ?_
  refine o_iconst 0 X f2_7 rfl ?_
  refine o_retZ X f2_8 (by decide) (by decide) ?_
  rfl
set_option maxRecDepth 65536 in
set_option maxHeartbeats 40000000 in
theorem rmB (l : Launch) (Z : State) (a0 : Array Value) (hw : ∀ d ∈ tables_1, d.before a0 Z = true) (a : Addr) (h : Heap) (n0 : Nat) (hn0 : n0 ≤ h.size) (f : Nat → Int32) (A : AN Z h a .int 63 f) :
    Ctr l Z (⟨"com/example/nodewell/nodewell/cache/BitStatisticsHash", "isOrder", "([I)Z"⟩ : MethodName) prog_25_method_5_code 6 (some (.boolean)) ({ frames := 0, cells := 1, slots := 63, locals := 0 } : Room) [.ref a] h n0 (fun v _ => ∃ r, v = some (.int r) ∧ own_res r f) := by
  refine CtrW.intro (plainFor_of_name pn0) rfl #[.val (.ref a), .unset, .unset, .unset, .unset, .unset] rfl ?_
  intro K T hnm hl X
  subst hl
  refine o_aload_n X f2_0 rfl rfl ?_
  refine o_alenN X 63 f2_1 A rfl ?_
  refine o_bipush 63 X f2_2 rfl ?_
  refine o_icmp_eq_t X f2_4 (rfl) ?_
  refine o_bipush 63 X f2_9 rfl ?_
  refine o_newarrayN X 63 63 f2_11 (hw _ (List.mem_of_getElem? (i := 10) rfl)) (by decide) (by decide) (by decide) rfl (by decide) ?_
  intro T1 h1 s e1 X1 E1 A1
  have hns : n0 ≤ s := e1 ▸ hn0
  have nas : a ≠ s := Nat.ne_of_lt (e1 ▸ A.lt)
  have AF := A.ext E1
  have loop : ∀ (n : Nat) (i : Nat) (iv : Int32) (sl : Slot) (s1 : Nat → Int32) (T : State) (h1 : Heap), (sl = .unset ∨ ∃ w, sl = .val w ∧ w.category = 1) → St K Z "com/example/nodewell/nodewell/cache/BitStatisticsHash" prog_25_method_5_code 6 (some (.boolean)) ({ frames := 0, cells := 1, slots := 63, locals := 0 } : Room) n0 (0 + 1) (0 + 63) T h1 → AN Z h1 a .int 63 f → AN Z h1 s .boolean 63 s1 → i + n = 63 → iv.toInt = i → (∀ z, z < i → 0 ≤ (f z).toInt ∧ (f z).toInt < 63) → (∀ p q, p < q → q < i → f p ≠ f q) → (∀ z : Nat, z < 63 → (s1 z = 0 ∨ s1 z = 1) ∧ (¬ s1 z = 0 ↔ ∃ i2, i2 < i ∧ (f i2).toInt = z)) → Go K n0 1 63 (fun v _ => ∃ r, v = some (.int r) ∧ own_res r f) T 22 #[.val (.ref a), .val (.ref s), .val (.ref a), .val (.int 63), .val (.int iv), sl] [] := by
    intro n
    induction n with
    | zero =>
      intro i iv sl s1 T h1 hsl X Aa As hin hiv hr hd hs
      refine o_iload X f2_22 rfl ?_
      refine o_iload_n X f2_24 rfl ?_
      refine o_icmp_ge_t X f2_25 (by rw [Int32.lt_iff_toInt_lt, own_63]; omega) ?_
      refine o_iconst 1 X f2_66 rfl ?_
      refine o_retZ X f2_67 (by decide) (by decide) ?_
      exact ⟨_, rfl, Or.inl ⟨rfl, ⟨fun z hz => hr z (by omega), fun p q hp hq => hd p q hp (by omega)⟩⟩⟩
    | succ n ih =>
      intro i iv sl s1 T h1 hsl X Aa As hin hiv hr hd hs
      have ei : iv.toNatClampNeg = i := by rw [own_nat]; omega
      refine o_iload X f2_22 rfl ?_
      refine o_iload_n X f2_24 rfl ?_
      refine o_icmp_ge_f X f2_25 (by rw [Int32.lt_iff_toInt_lt, own_63]; omega) ?_
      refine o_aload_n X f2_28 rfl rfl ?_
      refine o_iload X f2_29 rfl ?_
      refine o_ialoadN X f2_31 Aa (own_nn (by omega)) (by rw [own_nat]; omega) ?_
      rw [ei]
      refine o_istoreO X f2_32 rfl hsl (Ls' := #[_, _, _, _, _, _]) rfl ?_
      refine o_iload X f2_34 rfl ?_
      refine o_if_lt X f2_36 (fun q36 => ?_) (fun q36 => ?_)
      · refine o_iconst 0 X f2_53 rfl ?_
        refine o_retZ X f2_54 (by decide) (by decide) ?_
        refine ⟨_, rfl, Or.inr ⟨rfl, fun g => ?_⟩⟩
        have := g.1 i (by omega)
        rw [Int32.lt_iff_toInt_lt, own_zero] at q36; omega
      · refine o_iload X f2_39 rfl ?_
        refine o_bipush 63 X f2_41 rfl ?_
        refine o_icmp_ge X f2_43 (fun q43 => ?_) (fun q43 => ?_)
        · refine o_iconst 0 X f2_53 rfl ?_
          refine o_retZ X f2_54 (by decide) (by decide) ?_
          refine ⟨_, rfl, Or.inr ⟨rfl, fun g => ?_⟩⟩
          have := g.1 i (by omega)
          rw [Int32.lt_iff_toInt_lt, own_63] at q43; omega
        · refine o_aload_n X f2_46 rfl rfl ?_
          refine o_iload X f2_47 rfl ?_
          have q36z := q36
          have q43z := q43
          rw [Int32.lt_iff_toInt_lt, own_zero] at q36z
          rw [Int32.lt_iff_toInt_lt, own_63] at q43z
          have vv0 : 0 ≤ (f i).toInt := by omega
          have vv1 : (f i).toInt < 63 := by omega
          have hv1 : (f i).toNatClampNeg < 63 := by rw [own_nat]; omega
          refine o_zaloadN X f2_49 As q36 hv1 ?_
          refine o_if_eq X f2_50 (fun q50 => ?_) (fun q50 => ?_)
          · refine o_aload_n X f2_55 rfl rfl ?_
            refine o_iload X f2_56 rfl ?_
            refine o_iconst 1 X f2_58 rfl ?_
            refine o_zastoreN X f2_59 As q36 hv1 hns ?_
            intro T2 h2 X2 W2 AsG
            have AaF := Aa.other W2 nas
            have AsF : AN Z h2 s .boolean 63 (fun q => if q = (f i).toNatClampNeg then nar .boolean 1 else s1 q) := AsG
            refine o_iinc 1 X2 f2_60 rfl rfl (Ls' := #[_, _, _, _, _, _]) rfl ?_
            refine o_goto X2 f2_63 ?_
            refine ih (i + 1) _ _ _ _ _ (Or.inr ⟨_, rfl, rfl⟩) X2 AaF AsF (by omega) (by rw [XT.add32 (by rw [own_one]; exact ⟨by omega, by omega⟩), own_one]; omega) (fun z hz => ?_) (fun p q hp hq => ?_) (fun z hz => ?_)
            · by_cases e : z = i
              · subst e; exact ⟨vv0, vv1⟩
              · exact hr z (by omega)
            · by_cases e : q = i
              · subst e; intro eq
                have : ¬ s1 (f q).toNatClampNeg = 0 := (hs _ hv1).2.mpr ⟨p, hp, by rw [eq, own_nat]; omega⟩
                exact this q50
              · exact hd p q hp (by omega)
            · show ((if z = (f i).toNatClampNeg then nar .boolean 1 else s1 z) = 0 ∨ (if z = (f i).toNatClampNeg then nar .boolean 1 else s1 z) = 1) ∧ (¬ (if z = (f i).toNatClampNeg then nar .boolean 1 else s1 z) = 0 ↔ _)
              by_cases e : z = (f i).toNatClampNeg
              · rw [if_pos e]; refine ⟨Or.inr rfl, fun _ => ⟨i, by omega, by rw [e, own_nat]; omega⟩, fun _ => by decide⟩
              · rw [if_neg e]; refine ⟨(hs z hz).1, fun q => ?_, fun ⟨i2, g1, g2⟩ => ?_⟩
                · obtain ⟨i2, g1, g2⟩ := (hs z hz).2.mp q; exact ⟨i2, by omega, g2⟩
                · by_cases e2 : i2 = i
                  · subst e2; exact absurd (by rw [own_nat]; omega) e
                  · exact (hs z hz).2.mpr ⟨i2, by omega, g2⟩
          · refine o_iconst 0 X f2_53 rfl ?_
            refine o_retZ X f2_54 (by decide) (by decide) ?_
            refine ⟨_, rfl, Or.inr ⟨rfl, fun g => ?_⟩⟩
            obtain ⟨i2, g1, g2⟩ := (hs _ hv1).2.mp q50
            exact g.2 i2 i g1 (by omega) (Int32.toInt_inj.mp (by rw [g2, own_nat]; omega))
  refine o_astore_n X1 f2_13 rfl (Ls' := #[_, _, _, _, _, _]) rfl ?_
  refine o_aload_n X1 f2_14 rfl rfl ?_
  refine o_astore_n X1 f2_15 rfl (Ls' := #[_, _, _, _, _, _]) rfl ?_
  refine o_aload_n X1 f2_16 rfl rfl ?_
  refine o_alenN X1 63 f2_17 AF rfl ?_
  refine o_istore_n X1 f2_18 (Ls' := #[_, _, _, _, _, _]) rfl ?_
  refine o_iconst 0 X1 f2_19 rfl ?_
  refine o_istore X1 f2_20 (Ls' := #[_, _, _, _, _, _]) rfl ?_
  exact loop 63 0 _ _ _ _ _ (Or.inl rfl) X1 AF A1 rfl rfl (fun z hz => absurd hz (Nat.not_lt_zero _)) (fun p q hp hq => absurd hq (Nat.not_lt_zero _)) (fun z hz => ⟨Or.inl rfl, fun q => absurd rfl q, fun ⟨i2, g1, _⟩ => absurd g1 (Nat.not_lt_zero _)⟩)
set_option maxRecDepth 65536 in
set_option maxHeartbeats 40000000 in
theorem rm0 (l : Launch) (Z : State) (a0 : Array Value) (hw : ∀ d ∈ tables_1, d.before a0 Z = true) (x0 : Int32) (x1 : Int32) (x2 : Int32) (x3 : Int32) (x4 : Int32) (h : Heap) (n0 : Nat) (hn0 : n0 ≤ h.size) :
    CtrW l Z x code 15 (some .boolean) tables_1 room_1 16 320 [.int x0, .int x1, .int x2, .int x3, .int x4] h n0 (fun v _ => v = some (.int 1)) := by
  refine CtrW.intro (plainFor_of_name pn1) rfl #[.val (.int x0), .val (.int x1), .val (.int x2), .val (.int x3), .val (.int x4), .unset, .unset, .unset, .unset, .unset, .unset, .unset, .unset, .unset, .unset] rfl ?_
  intro K T hnm hl X
  subst hl
  refine o_iload X f0_0 rfl ?_
  refine o_iconst 3 X f0_2 rfl ?_
  refine o_iand X f0_3 ?_
  refine o_istore X f0_4 (Ls' := #[_, _, _, _, _, _, _, _, _, _, _, _, _, _, _]) rfl ?_
  refine o_iload X f0_6 rfl ?_
  refine o_iconst 4 X f0_8 rfl ?_
  refine o_iand X f0_9 ?_
  refine o_bool_if_eq X f0_10 f0_13 f0_14 f0_17 ?_
  refine o_gen fun ch _ => ?_
  refine o_istore X f0_18 (Ls' := #[_, _, _, _, _, _, _, _, _, _, _, _, _, _, _]) rfl ?_
  refine o_iload X f0_20 rfl ?_
  refine o_bipush 8 X f0_22 rfl ?_
  refine o_iand X f0_24 ?_
  refine o_cutS 39 X (fun J => ?_) ?_
  · refine o_if_eq X f0_25 (fun q25 => ?_) (fun q25 => ?_)
    · refine o_iload_n X f0_38 rfl ?_
      exact J _ _ X
    · refine o_iload_n X f0_28 rfl ?_
      refine o_ldc X f0_29 (hw _ (List.mem_of_getElem? (i := 0) rfl)) ?_
      refine o_iand X f0_31 ?_
      refine o_bipush 64 X f0_32 rfl ?_
      refine o_irem X f0_34 (by decide) ?_
      refine o_goto X f0_35 ?_
      exact J _ _ X
  intro T1 wv X1
  refine o_istore X1 f0_39 (Ls' := #[_, _, _, _, _, _, _, _, _, _, _, _, _, _, _]) rfl ?_
  refine o_iload_n X1 f0_41 rfl ?_
  refine o_ldc X1 f0_42 (hw _ (List.mem_of_getElem? (i := 0) rfl)) ?_
  refine o_iand X1 f0_44 ?_
  refine o_bipush 63 X1 f0_45 rfl ?_
  refine o_irem X1 f0_47 (by decide) ?_
  refine o_gen fun ia e_ia => ?_
  have iar := own_rem x0 63 (by decide)
  rw [← e_ia] at iar
  have ia0 : 0 ≤ ia.toInt := iar.1
  have ia1 : ia.toInt < 63 := iar.2
  clear e_ia
  refine o_istore X1 f0_48 (Ls' := #[_, _, _, _, _, _, _, _, _, _, _, _, _, _, _]) rfl ?_
  refine o_iload_n X1 f0_50 rfl ?_
  refine o_ldc X1 f0_51 (hw _ (List.mem_of_getElem? (i := 0) rfl)) ?_
  refine o_iand X1 f0_53 ?_
  refine o_bipush 63 X1 f0_54 rfl ?_
  refine o_irem X1 f0_56 (by decide) ?_
  refine o_gen fun ib e_ib => ?_
  have ibr := own_rem x1 63 (by decide)
  rw [← e_ib] at ibr
  have ib0 : 0 ≤ ib.toInt := ibr.1
  have ib1 : ib.toInt < 63 := ibr.2
  clear e_ib
  refine o_istore X1 f0_57 (Ls' := #[_, _, _, _, _, _, _, _, _, _, _, _, _, _, _]) rfl ?_
  refine o_iload_n X1 f0_59 rfl ?_
  refine o_ldc X1 f0_60 (hw _ (List.mem_of_getElem? (i := 0) rfl)) ?_
  refine o_iand X1 f0_62 ?_
  refine o_bipush 63 X1 f0_63 rfl ?_
  refine o_irem X1 f0_65 (by decide) ?_
  refine o_gen fun ic e_ic => ?_
  have icr := own_rem x2 63 (by decide)
  rw [← e_ic] at icr
  have ic0 : 0 ≤ ic.toInt := icr.1
  have ic1 : ic.toInt < 63 := icr.2
  clear e_ic
  refine o_istore X1 f0_66 (Ls' := #[_, _, _, _, _, _, _, _, _, _, _, _, _, _, _]) rfl ?_
  refine o_iload X1 f0_68 rfl ?_
  refine o_if_ne X1 f0_70 (fun q70 => ?_) (fun q70 => ?_)
  · refine o_iload X1 f0_150 rfl ?_
    refine o_iconst 1 X1 f0_152 rfl ?_
    refine o_icmp_ne X1 f0_153 (fun q153 => ?_) (fun q153 => ?_)
    · refine o_iload X1 f0_228 rfl ?_
      refine o_iconst 2 X1 f0_230 rfl ?_
      refine o_icmp_ne X1 f0_231 (fun q231 => ?_) (fun q231 => ?_)
      · refine o_iconst 0 X1 f0_284 rfl ?_
        refine o_newarrayN X1 0 0 f0_285 (hw _ (List.mem_of_getElem? (i := 5) rfl)) (by decide) (by decide) (by decide) rfl (by decide) ?_
        intro T1 h1 ar e1 X1 E1 A1
        have F1 : own_Fil Z h1 ar 0 0 := ⟨_, A1, fun i hi => absurd hi (Nat.not_lt_zero _)⟩
        obtain ⟨ffin, Afin, _⟩ := F1
        refine o_callS X1 4 f0_287 (hw _ (List.mem_of_getElem? (i := 6) rfl)) (hw _ (List.mem_of_getElem? (i := 7) rfl)) (hw _ (List.mem_of_getElem? (i := 8) rfl)) (hw _ (List.mem_of_getElem? (i := 9) rfl)) (by decide) (rmA K.l Z a0 hw _ _ n0 _ _ (by decide) Afin) (lenOf pd0 rfl) rfl rfl (by first | exact Nat.zero_le _ | simp [Value.category]) (by decide) ?_
        rintro T3 h3 v3 rfl X3
        refine o_v1 ?_
        refine o_if_ne_f X3 f0_290 (rfl) ?_
        refine o_iconst 1 X3 f0_293 rfl ?_
        refine o_goto X3 f0_294 ?_
        refine o_retZ X3 f0_298 (by decide) (by decide) ?_
        rfl
      · refine o_callS X1 4 f0_234 (hw _ (List.mem_of_getElem? (i := 14) rfl)) (hw _ (List.mem_of_getElem? (i := 15) rfl)) (hw _ (List.mem_of_getElem? (i := 3) rfl)) (hw _ (List.mem_of_getElem? (i := 16) rfl)) (by decide) (rm4 K.l Z a0 hw _ n0 hn0) (lenOf pd1 rfl) rfl rfl (by first | exact Nat.zero_le _ | simp [Value.category]) (by decide) ?_
        rintro T4 h4 v4 ⟨ar, rfl, F, ha⟩ X4
        refine o_v1 ?_
        refine o_astore X4 f0_237 rfl (Ls' := #[_, _, _, _, _, _, _, _, _, _, _, _, _, _, _]) rfl ?_
        refine o_aload X4 f0_239 rfl rfl ?_
        refine o_iload X4 f0_241 rfl ?_
        obtain ⟨f, A, _⟩ := id F
        refine o_ialoadN X4 f0_243 A (own_nn ia0) (by rw [own_nat]; omega) ?_
        refine o_istore X4 f0_244 (Ls' := #[_, _, _, _, _, _, _, _, _, _, _, _, _, _, _]) rfl ?_
        refine o_aload X4 f0_246 rfl rfl ?_
        refine o_iload X4 f0_248 rfl ?_
        refine o_aload X4 f0_250 rfl rfl ?_
        refine o_iload X4 f0_252 rfl ?_
        obtain ⟨f, A, _⟩ := id F
        refine o_ialoadN X4 f0_254 A (own_nn ib0) (by rw [own_nat]; omega) ?_
        refine own_fill0 X4 f0_255 F (own_nn ia0) (by rw [own_nat]; omega) ha ?_
        intro T5 h5 X5 F5
        refine o_aload X5 f0_256 rfl rfl ?_
        refine o_iload X5 f0_258 rfl ?_
        refine o_iload X5 f0_260 rfl ?_
        refine own_fill0 X5 f0_262 F5 (own_nn ib0) (by rw [own_nat]; omega) ha ?_
        intro T6 h6 X6 F6
        refine o_aload X6 f0_263 rfl rfl ?_
        refine o_bipush 63 X6 f0_265 rfl ?_
        refine o_iload X6 f0_267 rfl ?_
        refine own_fill0 X6 f0_269 F6 (by decide) (by decide) ha ?_
        intro T7 h7 X7 F7
        refine o_aload X7 f0_270 rfl rfl ?_
        obtain ⟨ffin, Afin, _⟩ := F7
        refine o_callS X7 4 f0_272 (hw _ (List.mem_of_getElem? (i := 6) rfl)) (hw _ (List.mem_of_getElem? (i := 7) rfl)) (hw _ (List.mem_of_getElem? (i := 8) rfl)) (hw _ (List.mem_of_getElem? (i := 9) rfl)) (by decide) (rmA K.l Z a0 hw _ _ n0 _ _ (by decide) Afin) (lenOf pd0 rfl) rfl rfl (by first | exact Nat.zero_le _ | simp [Value.category]) (by decide) ?_
        rintro T9 h9 v9 rfl X9
        refine o_v1 ?_
        refine o_if_ne_f X9 f0_275 (rfl) ?_
        refine o_iconst 1 X9 f0_278 rfl ?_
        refine o_goto X9 f0_279 ?_
        refine o_retZ X9 f0_283 (by decide) (by decide) ?_
        rfl
    · refine o_callS X1 4 f0_156 (hw _ (List.mem_of_getElem? (i := 11) rfl)) (hw _ (List.mem_of_getElem? (i := 12) rfl)) (hw _ (List.mem_of_getElem? (i := 3) rfl)) (hw _ (List.mem_of_getElem? (i := 13) rfl)) (by decide) (rm3 K.l Z a0 hw _ n0 hn0) (lenOf pd1 rfl) rfl rfl (by first | exact Nat.zero_le _ | simp [Value.category]) (by decide) ?_
      rintro T10 h10 v10 ⟨ar, rfl, F, ha⟩ X10
      refine o_v1 ?_
      refine o_astore X10 f0_159 rfl (Ls' := #[_, _, _, _, _, _, _, _, _, _, _, _, _, _, _]) rfl ?_
      refine o_iload X10 f0_161 rfl ?_
      refine o_bipush 62 X10 f0_163 rfl ?_
      refine o_irem X10 f0_165 (by decide) ?_
      refine o_gen fun ja e_ja => ?_
      have jar := own_rem2 ia 62 ia0 (by decide)
      rw [← e_ja] at jar
      have ja0 : 0 ≤ ja.toInt := jar.1
      have ja1 : ja.toInt < 62 := jar.2
      clear e_ja
      refine o_istore X10 f0_166 (Ls' := #[_, _, _, _, _, _, _, _, _, _, _, _, _, _, _]) rfl ?_
      refine o_iload X10 f0_168 rfl ?_
      refine o_bipush 62 X10 f0_170 rfl ?_
      refine o_irem X10 f0_172 (by decide) ?_
      refine o_gen fun jb e_jb => ?_
      have jbr := own_rem2 ib 62 ib0 (by decide)
      rw [← e_jb] at jbr
      have jb0 : 0 ≤ jb.toInt := jbr.1
      have jb1 : jb.toInt < 62 := jbr.2
      clear e_jb
      refine o_istore X10 f0_173 (Ls' := #[_, _, _, _, _, _, _, _, _, _, _, _, _, _, _]) rfl ?_
      refine o_aload X10 f0_175 rfl rfl ?_
      refine o_iload X10 f0_177 rfl ?_
      obtain ⟨f, A, _⟩ := id F
      refine o_ialoadN X10 f0_179 A (own_nn ja0) (by rw [own_nat]; omega) ?_
      refine o_istore X10 f0_180 (Ls' := #[_, _, _, _, _, _, _, _, _, _, _, _, _, _, _]) rfl ?_
      refine o_aload X10 f0_182 rfl rfl ?_
      refine o_iload X10 f0_184 rfl ?_
      refine o_aload X10 f0_186 rfl rfl ?_
      refine o_iload X10 f0_188 rfl ?_
      obtain ⟨f, A, _⟩ := id F
      refine o_ialoadN X10 f0_190 A (own_nn jb0) (by rw [own_nat]; omega) ?_
      refine own_fill0 X10 f0_191 F (own_nn ja0) (by rw [own_nat]; omega) ha ?_
      intro T11 h11 X11 F11
      refine o_aload X11 f0_192 rfl rfl ?_
      refine o_iload X11 f0_194 rfl ?_
      refine o_iload X11 f0_196 rfl ?_
      refine own_fill0 X11 f0_198 F11 (own_nn jb0) (by rw [own_nat]; omega) ha ?_
      intro T12 h12 X12 F12
      refine o_iload X12 f0_199 rfl ?_
      refine o_if_eq X12 f0_201 (fun q201 => ?_) (fun q201 => ?_)
      · refine o_aload X12 f0_214 rfl rfl ?_
        obtain ⟨ffin, Afin, _⟩ := F12
        refine o_callS X12 4 f0_216 (hw _ (List.mem_of_getElem? (i := 6) rfl)) (hw _ (List.mem_of_getElem? (i := 7) rfl)) (hw _ (List.mem_of_getElem? (i := 8) rfl)) (hw _ (List.mem_of_getElem? (i := 9) rfl)) (by decide) (rmA K.l Z a0 hw _ _ n0 _ _ (by decide) Afin) (lenOf pd0 rfl) rfl rfl (by first | exact Nat.zero_le _ | simp [Value.category]) (by decide) ?_
        rintro T14 h14 v14 rfl X14
        refine o_v1 ?_
        refine o_if_ne_f X14 f0_219 (rfl) ?_
        refine o_iconst 1 X14 f0_222 rfl ?_
        refine o_goto X14 f0_223 ?_
        refine o_retZ X14 f0_227 (by decide) (by decide) ?_
        rfl
      · refine o_aload X12 f0_204 rfl rfl ?_
        refine o_iload X12 f0_206 rfl ?_
        refine o_bipush 62 X12 f0_208 rfl ?_
        refine o_irem X12 f0_210 (by decide) ?_
        refine o_gen fun jc e_jc => ?_
        have jcr := own_rem2 ic 62 ic0 (by decide)
        rw [← e_jc] at jcr
        have jc0 : 0 ≤ jc.toInt := jcr.1
        have jc1 : jc.toInt < 62 := jcr.2
        clear e_jc
        refine o_iload X12 f0_211 rfl ?_
        refine own_fill0 X12 f0_213 F12 (own_nn jc0) (by rw [own_nat]; omega) ha ?_
        intro T15 h15 X15 F15
        refine o_aload X15 f0_214 rfl rfl ?_
        obtain ⟨ffin, Afin, _⟩ := F15
        refine o_callS X15 4 f0_216 (hw _ (List.mem_of_getElem? (i := 6) rfl)) (hw _ (List.mem_of_getElem? (i := 7) rfl)) (hw _ (List.mem_of_getElem? (i := 8) rfl)) (hw _ (List.mem_of_getElem? (i := 9) rfl)) (by decide) (rmA K.l Z a0 hw _ _ n0 _ _ (by decide) Afin) (lenOf pd0 rfl) rfl rfl (by first | exact Nat.zero_le _ | simp [Value.category]) (by decide) ?_
        rintro T17 h17 v17 rfl X17
        refine o_v1 ?_
        refine o_if_ne_f X17 f0_219 (rfl) ?_
        refine o_iconst 1 X17 f0_222 rfl ?_
        refine o_goto X17 f0_223 ?_
        refine o_retZ X17 f0_227 (by decide) (by decide) ?_
        rfl
  · refine o_callS X1 4 f0_73 (hw _ (List.mem_of_getElem? (i := 1) rfl)) (hw _ (List.mem_of_getElem? (i := 2) rfl)) (hw _ (List.mem_of_getElem? (i := 3) rfl)) (hw _ (List.mem_of_getElem? (i := 4) rfl)) (by decide) (rm1 K.l Z a0 hw _ n0 hn0) (lenOf pd1 rfl) rfl rfl (by first | exact Nat.zero_le _ | simp [Value.category]) (by decide) ?_
    rintro T18 h18 v18 ⟨ar, f, rfl, A, F, ha⟩ X18
    refine o_v1 ?_
    refine o_astore X18 f0_76 rfl (Ls' := #[_, _, _, _, _, _, _, _, _, _, _, _, _, _, _]) rfl ?_
    refine o_aload X18 f0_78 rfl rfl ?_
    refine o_iload X18 f0_80 rfl ?_
    refine o_ialoadN X18 f0_82 A (own_nn ia0) (by rw [own_nat]; omega) ?_
    refine o_istore X18 f0_83 (Ls' := #[_, _, _, _, _, _, _, _, _, _, _, _, _, _, _]) rfl ?_
    refine o_aload X18 f0_85 rfl rfl ?_
    refine o_iload X18 f0_87 rfl ?_
    refine o_aload X18 f0_89 rfl rfl ?_
    refine o_iload X18 f0_91 rfl ?_
    refine o_ialoadN X18 f0_93 A (own_nn ib0) (by rw [own_nat]; omega) ?_
    refine o_iastoreN X18 f0_94 A (own_nn ia0) (by rw [own_nat]; omega) ha ?_
    intro T19 h19 X19 W19 A19
    refine o_aload X19 f0_95 rfl rfl ?_
    refine o_iload X19 f0_97 rfl ?_
    refine o_iload X19 f0_99 rfl ?_
    refine o_iastoreN X19 f0_101 A19 (own_nn ib0) (by rw [own_nat]; omega) ha ?_
    intro T20 h20 X20 W20 A20
    refine o_iconst 1 X20 f0_102 rfl ?_
    refine o_istore X20 f0_103 (Ls' := #[_, _, _, _, _, _, _, _, _, _, _, _, _, _, _]) rfl ?_
    refine o_iload X20 f0_105 rfl ?_
    refine o_if_eq X20 f0_107 (fun q107 => ?_) (fun q107 => ?_)
    · refine o_aload X20 f0_134 rfl rfl ?_
      refine o_callS X20 4 f0_136 (hw _ (List.mem_of_getElem? (i := 6) rfl)) (hw _ (List.mem_of_getElem? (i := 7) rfl)) (hw _ (List.mem_of_getElem? (i := 8) rfl)) (hw _ (List.mem_of_getElem? (i := 9) rfl)) (by decide) (rmB K.l Z a0 hw _ _ n0 (Nat.le_trans ha (Nat.le_of_lt A20.lt)) _ A20) (lenOf pd0 rfl) rfl rfl (by first | exact Nat.zero_le _ | simp [Value.category]) (by decide) ?_
      rintro T21 h21 v21 ⟨r, rfl, hr⟩ X21
      refine o_v1 ?_
      refine o_iload X21 f0_139 rfl ?_
      refine o_icmp_ne_f X21 f0_141 (own_r1 _ _ hr (own_goodOf _ _ _ ia0 ia1 ib0 ib1 (own_g2 f F ia ib ia0 ia1 ib0 ib1))) ?_
      refine o_iconst 1 X21 f0_144 rfl ?_
      refine o_goto X21 f0_145 ?_
      refine o_retZ X21 f0_149 (by decide) (by decide) ?_
      rfl
    · refine o_aload X20 f0_110 rfl rfl ?_
      refine o_iload X20 f0_112 rfl ?_
      refine o_ialoadN X20 f0_114 A20 (own_nn ic0) (by rw [own_nat]; omega) ?_
      refine o_iload X20 f0_115 rfl ?_
      refine o_bool_icmp_ne X20 f0_117 f0_120 f0_121 f0_124 ?_
      refine o_istore X20 f0_125 (Ls' := #[_, _, _, _, _, _, _, _, _, _, _, _, _, _, _]) rfl ?_
      refine o_aload X20 f0_127 rfl rfl ?_
      refine o_iload X20 f0_129 rfl ?_
      refine o_iload X20 f0_131 rfl ?_
      refine o_iastoreN X20 f0_133 A20 (own_nn ic0) (by rw [own_nat]; omega) ha ?_
      intro T22 h22 X22 W22 A22
      refine o_aload X22 f0_134 rfl rfl ?_
      refine o_callS X22 4 f0_136 (hw _ (List.mem_of_getElem? (i := 6) rfl)) (hw _ (List.mem_of_getElem? (i := 7) rfl)) (hw _ (List.mem_of_getElem? (i := 8) rfl)) (hw _ (List.mem_of_getElem? (i := 9) rfl)) (by decide) (rmB K.l Z a0 hw _ _ n0 (Nat.le_trans ha (Nat.le_of_lt A22.lt)) _ A22) (lenOf pd0 rfl) rfl rfl (by first | exact Nat.zero_le _ | simp [Value.category]) (by decide) ?_
      rintro T23 h23 v23 ⟨r, rfl, hr⟩ X23
      refine o_v1 ?_
      refine o_iload X23 f0_139 rfl ?_
      refine o_icmp_ne_f X23 f0_141 (own_r2 _ _ _ _ _ _ ia0 ia1 ib0 ib1 ic0 ic1 (own_g2 f F ia ib ia0 ia1 ib0 ib1) hr) ?_
      refine o_iconst 1 X23 f0_144 rfl ?_
      refine o_goto X23 f0_145 ?_
      refine o_retZ X23 f0_149 (by decide) (by decide) ?_
      rfl
set_option maxRecDepth 65536 in
set_option maxHeartbeats 40000000 in
theorem comes_1 {Post : Tables → Env → Array Value → State → Outcome → State → Prop} (hpost : ∀ tb e args s v u, (limb_1_1.after args s (.returned v) u = true ∧ limb_1_2.after args s (.returned v) u = true ∧ True) → FrameEnd s (.returned v) u (Jvm.fieldLocs frame_1_writes args s ++ Jvm.arrayLocs frame_1_arrays args s ++ Jvm.staticLocs frame_1_statics s) 16 320 → Post tb e args s (.returned v) u) :
    ArmFor flags0 classFile x code maxLocals ret World_1 tables_1 room_1 Calls_1 rest_1 Pre_1 Post := by
  intro l hfl _ _ p e ha hc hk s m args below hf hA hF happ hP
  obtain ⟨hcalls, hrest, hpre⟩ := hP
  obtain ⟨-, -, -, hnamed, -, -, -, hat⟩ := (Spec.applies_iff hf).mp happ
  obtain ⟨hg, hn⟩ := and_e (Cond.before_iff.mp (show (Jvm.Cond.and given_1 narrow_1).before args s = true from hpre))
  obtain ⟨g0, r0⟩ := and_e hg
  obtain ⟨p0, r1⟩ := and_e r0
  obtain ⟨p1, r2⟩ := and_e r1
  obtain ⟨p2, r3⟩ := and_e r2
  obtain ⟨p3, r4⟩ := and_e r3
  obtain ⟨w0, w1, w2, w3, w4, rfl⟩ : ∃ w0 w1 w2 w3 w4 : Value, args = #[w0, w1, w2, w3, w4] := by
    have hs : args.size = 5 := by simpa [Cond.value, given_1] using g0
    obtain ⟨L⟩ := args
    match L, hs with
    | [w0, w1, w2, w3, w4], _ => exact ⟨w0, w1, w2, w3, w4, rfl⟩
  have hw := fun d (hd : d ∈ tables_1) => atoms_spec (ws := Jvm.Cond.code x code maxLocals ret :: tables_1) hat d (List.mem_cons_of_mem _ hd)
  obtain ⟨i0, e0⟩ := is_v p0
  obtain rfl : w0 = (.int i0) := Option.some.inj e0
  obtain ⟨i1, e1⟩ := is_v p1
  obtain rfl : w1 = (.int i1) := Option.some.inj e1
  obtain ⟨i2, e2⟩ := is_v p2
  obtain rfl : w2 = (.int i2) := Option.some.inj e2
  obtain ⟨i3, e3⟩ := is_v p3
  obtain rfl : w3 = (.int i3) := Option.some.inj e3
  obtain ⟨i4, e4⟩ := is_v r4
  obtain rfl : w4 = (.int i4) := Option.some.inj e4
  obtain ⟨n, o, h1, h2, h3, _, L, rfl, ⟨rfl, N⟩, hq⟩ := rm0 l s _ hw i0 i1 i2 i3 i4 s.heap s.heap.size (Nat.le_refl _) p e ha hc hk s m _ below hf ((Spec.applies_iff_loose hf).mp happ).1 ⟨rfl, State.Warmed39.refl s, rfl⟩ trivial
  refine ⟨n, _, h1, h2, h3, hpost _ _ _ _ _ _ ⟨Cond.after_iff.mpr rfl, Cond.after_iff.mpr (eq_i res_at (Term.int_eval (1)) rfl), trivial⟩ ⟨hq.1, hq.2.1, (hq.2.2.sift fun y hy => Or.inr (N y hy)).mono (by decide) (by decide)⟩⟩
theorem main_1_1 : Claimed_1_1 := comes_1 fun _ _ _ _ _ _ h hF => ⟨h.1, hF⟩
theorem main_1_2 : Claimed_1_2 := comes_1 fun _ _ _ _ _ _ h hF => ⟨h.2.1, hF⟩
end Jvm.Pilot.@@N@@
namespace Jvm.Pilot.@@N@@
open Jvm Jvm.ClassFile Sem Op Lib Jvm.Free Jvm.Stand Jvm.Pilot.@@N@@.Jvm.D
/-! MADE BY PROGRAM (witnessworld.py) out of the Statement's table words and the real class files: 11 classes; the members and pool entries that the words name. The judged class is class 1, her method 4. -/
namespace start1
open Jvm.ClassFile
def u (s : String) : CpInfo := .utf8 (stringToUtf16 s)
/-- a pool by its gaps: so many unusable entries, then the entry; so many at the end -/
def gap : Nat → List CpInfo → List CpInfo
  | 0, r => r
  | n + 1, r => .unusable :: gap n r
def poolList (es : List (Nat × CpInfo)) (last : Nat) : List CpInfo := es.foldr (fun e r => gap e.1 (e.2 :: r)) (gap last [])
def pool (es : List (Nat × CpInfo)) (last : Nat) : Array CpInfo := ⟨poolList es last⟩
def fileOf (pool : Array CpInfo) (this : Nat) (attrs : Array Attribute := #[]) (ms : Array MethodInfo := #[]) (fl : Nat := 33) (sup : Nat := 0) (ifs : Array Nat := #[]) (fds : Array FieldInfo := #[]) : ClassFile where
  minorVersion := 0
  majorVersion := 65
  constantPool := pool
  accessFlags := fl
  thisClass := this
  superClass := sup
  interfaces := ifs
  fields := fds
  methods := ms
  attributes := attrs
def plain (name : String) (sup : Option ClassId) : Class where
  name := name
  kind := .ordinary
  loader := none
  accessFlags := 33
  super := sup
  interfaces := #[]
  cf := none
  fields := #[]
  methods := #[]
  instanceTypes := #[]
  staticTypes := #[]
  resolved := #[]
  callSites := []
  init := .initialized
  statics := none
  mirror := none

def pool0 : Array CpInfo := pool [(5, u "<init>"), (0, u "()V"), (1, .class_ 10), (1, u "java/lang/Object")] 113

def k0m0 : Method := { name := "<init>", desc := "()V", sig := { parameters := [], returnType := none }, accessFlags := 1, code := none }
/-- java/lang/Object -/
def k0 : Class := { plain "java/lang/Object" none with
  accessFlags := 33
  interfaces := #[]
  cf := some (fileOf pool0 8 #[] #[{ accessFlags := 1, nameIndex := 5, descriptorIndex := 6, attributes := #[] }] 33 0 #[] #[])
  fields := #[]
  methods := #[k0m0]
  instanceTypes := #[]
  staticTypes := #[]
  resolved := Array.replicate 124 none
  statics := none }

def pool1 : Array CpInfo := pool [(2, .class_ 4), (1, u "java/lang/Object"), (0, u "<init>"), (0, u "()V"), (0, .integer 2147483647), (0, .methodref 9 10), (0, .class_ 11), (0, .nameAndType 12 13), (0, u "com/example/nodewell/nodewell/cache/BitStatisticsHashIsOrderPinLaw"), (0, u "full63"), (0, u "()[I"), (0, .methodref 15 16), (0, .class_ 17), (0, .nameAndType 18 19), (0, u "com/example/nodewell/nodewell/cache/BitStatisticsHash"), (0, u "isOrder"), (0, u "([I)Z"), (0, .methodref 9 21), (0, .nameAndType 22 13), (0, u "short62"), (0, .methodref 9 24), (0, .nameAndType 25 13), (0, u "long64"), (2, u "law"), (0, u "(IIIII)Z")] 5

def k1m0 : Method := { name := "<init>", desc := "()V", sig := { parameters := [], returnType := none }, accessFlags := 1, code := none }
def k1c1 : Code := { maxStack := 4, maxLocals := 0, code := method_2_code, exceptionTable := #[], attributes := #[] }
def k1m1 : Method := { name := "full63", desc := "()[I", sig := { parameters := [], returnType := some (.array .int) }, accessFlags := 10, code := some k1c1 }
def k1c2 : Code := { maxStack := 4, maxLocals := 0, code := method_3_code, exceptionTable := #[], attributes := #[] }
def k1m2 : Method := { name := "short62", desc := "()[I", sig := { parameters := [], returnType := some (.array .int) }, accessFlags := 10, code := some k1c2 }
def k1c3 : Code := { maxStack := 4, maxLocals := 0, code := method_4_code, exceptionTable := #[], attributes := #[] }
def k1m3 : Method := { name := "long64", desc := "()[I", sig := { parameters := [], returnType := some (.array .int) }, accessFlags := 10, code := some k1c3 }
def k1c4 : Code := { maxStack := 4, maxLocals := 15, code := code, exceptionTable := #[], attributes := #[] }
def k1m4 : Method := { name := "law", desc := "(IIIII)Z", sig := { parameters := [.int, .int, .int, .int, .int], returnType := some .boolean }, accessFlags := 9, code := some k1c4 }
/-- com/example/nodewell/nodewell/cache/BitStatisticsHashIsOrderPinLaw -/
def k1 : Class := { plain "com/example/nodewell/nodewell/cache/BitStatisticsHashIsOrderPinLaw" (some 0) with
  accessFlags := 49
  interfaces := #[]
  cf := some (fileOf pool1 9 #[] #[{ accessFlags := 1, nameIndex := 5, descriptorIndex := 6, attributes := #[] }, { accessFlags := 10, nameIndex := 12, descriptorIndex := 13, attributes := #[] }, { accessFlags := 10, nameIndex := 22, descriptorIndex := 13, attributes := #[] }, { accessFlags := 10, nameIndex := 25, descriptorIndex := 13, attributes := #[] }, { accessFlags := 9, nameIndex := 28, descriptorIndex := 29, attributes := #[] }] 49 2 #[] #[])
  fields := #[]
  methods := #[k1m0, k1m1, k1m2, k1m3, k1m4]
  instanceTypes := #[]
  staticTypes := #[]
  resolved := Array.replicate 35 none
  statics := none }

def pool2 : Array CpInfo := pool [(8, .class_ 10), (1, u "com/example/nodewell/nodewell/cache/BitStatisticsHash"), (7, .class_ 20), (1, u "java/lang/Object"), (2, u "[[J"), (2, u "byteCounts"), (1, u "[[I"), (2, u "bucketBits"), (11, u "bits"), (0, u "I"), (2, u "order"), (0, u "[I"), (5, u "isOrder"), (0, u "([I)Z"), (25, u "hashed"), (0, u "J"), (61, u "POSITIONS"), (2, u "MAX_BITS"), (1, u "BYTE_VALUES")] 59

def k2c0 : Code := { maxStack := 3, maxLocals := 6, code := prog_25_method_5_code, exceptionTable := #[], attributes := #[] }
def k2m0 : Method := { name := "isOrder", desc := "([I)Z", sig := { parameters := [(.array .int)], returnType := some .boolean }, accessFlags := 9, code := some k2c0 }
/-- com/example/nodewell/nodewell/cache/BitStatisticsHash -/
def k2 : Class := { plain "com/example/nodewell/nodewell/cache/BitStatisticsHash" (some 0) with
  accessFlags := 49
  interfaces := #[]
  cf := some (fileOf pool2 8 #[] #[{ accessFlags := 9, nameIndex := 54, descriptorIndex := 55, attributes := #[] }] 49 18 #[] #[{ accessFlags := 25, nameIndex := 144, descriptorIndex := 44, attributes := #[] }, { accessFlags := 25, nameIndex := 147, descriptorIndex := 44, attributes := #[] }, { accessFlags := 26, nameIndex := 149, descriptorIndex := 44, attributes := #[] }, { accessFlags := 18, nameIndex := 43, descriptorIndex := 44, attributes := #[] }, { accessFlags := 18, nameIndex := 47, descriptorIndex := 48, attributes := #[] }, { accessFlags := 18, nameIndex := 26, descriptorIndex := 23, attributes := #[] }, { accessFlags := 18, nameIndex := 31, descriptorIndex := 28, attributes := #[] }, { accessFlags := 2, nameIndex := 81, descriptorIndex := 82, attributes := #[] }])
  fields := #[{ name := "POSITIONS", type := .int, accessFlags := 25, slot := 0, constantValue := 0 }, { name := "MAX_BITS", type := .int, accessFlags := 25, slot := 1, constantValue := 0 }, { name := "BYTE_VALUES", type := .int, accessFlags := 26, slot := 2, constantValue := 0 }, { name := "bits", type := .int, accessFlags := 18, slot := 0, constantValue := 0 }, { name := "order", type := (.array .int), accessFlags := 18, slot := 1, constantValue := 0 }, { name := "byteCounts", type := (.array (.array .long)), accessFlags := 18, slot := 2, constantValue := 0 }, { name := "bucketBits", type := (.array (.array .int)), accessFlags := 18, slot := 3, constantValue := 0 }, { name := "hashed", type := .long, accessFlags := 2, slot := 4, constantValue := 0 }]
  methods := #[k2m0]
  instanceTypes := #[.int, (.array .int), (.array (.array .long)), (.array (.array .int)), .long]
  staticTypes := #[.int, .int, .int]
  resolved := Array.replicate 209 none
  statics := none }

def pool3 : Array CpInfo := pool [(1, u "java/lang/Cloneable"), (0, .class_ 1), (0, u "java/lang/Object"), (0, .class_ 3)] 3

/-- java/lang/Cloneable -/
def k3 : Class := { plain "java/lang/Cloneable" (some 0) with
  accessFlags := 1537
  interfaces := #[]
  cf := some (fileOf pool3 2 #[] #[] 1537 4 #[] #[])
  fields := #[]
  methods := #[]
  instanceTypes := #[]
  staticTypes := #[]
  resolved := Array.replicate 8 none
  statics := none }

def pool4 : Array CpInfo := pool [(1, u "java/io/Serializable"), (0, .class_ 1), (0, u "java/lang/Object"), (0, .class_ 3)] 3

/-- java/io/Serializable -/
def k4 : Class := { plain "java/io/Serializable" (some 0) with
  accessFlags := 1537
  interfaces := #[]
  cf := some (fileOf pool4 2 #[] #[] 1537 4 #[] #[])
  fields := #[]
  methods := #[]
  instanceTypes := #[]
  staticTypes := #[]
  resolved := Array.replicate 8 none
  statics := none }

/-- the primitive boolean -/
def k5 : Class := { plain "boolean" none with kind := .primitive 'Z', accessFlags := 0x411 }
/-- [Z -/
def k6 : Class := { plain "[Z" (some 0) with kind := .array 5 .boolean, interfaces := #[3, 4], accessFlags := 1041 }

/-- the primitive byte -/
def k7 : Class := { plain "byte" none with kind := .primitive 'B', accessFlags := 0x411 }
/-- [B -/
def k8 : Class := { plain "[B" (some 0) with kind := .array 7 .byte, interfaces := #[3, 4], accessFlags := 1041 }

/-- the primitive int -/
def k9 : Class := { plain "int" none with kind := .primitive 'I', accessFlags := 0x411 }
/-- [I -/
def k10 : Class := { plain "[I" (some 0) with kind := .array 9 .int, interfaces := #[3, 4], accessFlags := 1041 }

def heap : Heap := #[]
def classes : Array Class := #[k0, k1, k2, k3, k4, k5, k6, k7, k8, k9, k10]
def interned : List (Array UInt16 × Addr) := []
def slotsUsed : Nat := 0
def theMethod : MethodId := ⟨1, 4⟩
def args0 : Array Value := #[.int 5, .int 7, .int 9, .int 3, .int 2]
def aboutOver (below : List Frame) : State where
  vm := { classes := classes, interned := interned.toArray }
  heap := heap
  slotsUsed := slotsUsed
  threads := #[{ frames := .invoking theMethod args0 :: below }]
def below0 : List Frame := [.native { method := ⟨0, 0⟩, args := #[] }]
def about1 : State := aboutOver below0
def p0 : Program := .bare "" "" ""
def e0 : Env := launch0.env 0 0 0
theorem w_frames : about1.frames = Frame.invoking theMethod args0 :: below0 := rfl
set_option maxRecDepth 65536 in
theorem w_args : argsFit about1.vm theMethod args0 = true := by decide +kernel
set_option maxRecDepth 65536 in
theorem w_heap : heapFits about1 = true := by decide +kernel
set_option maxRecDepth 65536 in
theorem w_runnable : about1.curStatus? = some .runnable := by decide +kernel
set_option maxRecDepth 65536 in
theorem w_alone : about1.alone = true := by decide +kernel
set_option maxRecDepth 65536 in
theorem w_named : about1.methodNamed? x = some theMethod := by decide +kernel
set_option maxRecDepth 65536 in
theorem w_hears : about1.hears theMethod below0 = true := by decide +kernel
set_option maxRecDepth 65536 in
theorem w_ripe : about1.ripe theMethod args0 below0 = true := by decide +kernel
theorem w_running : about1.status = .running := rfl
set_option maxRecDepth 65536 in
theorem w_room : about1.hasRoom e0.platform room_1 = true :=
  launch0.hasRoom_least _ room_1 (by decide +kernel) (by decide +kernel) (by decide +kernel) (by decide +kernel) (by decide +kernel) (by decide +kernel)
theorem allAtoms_all (ts : List Jvm.Cond) (a : Array Jvm.Value) (st : Jvm.State) : (allAtoms ts).before a st = ts.all (fun c => c.before a st) := by
  induction ts with
  | nil => rfl
  | cons c t ih =>
    show (Jvm.Cond.and c (allAtoms t)).before a st = _
    rw [Jvm.Cond.before_and, ih, List.all_cons]
def words1 : List Jvm.Cond := Jvm.Cond.code x code maxLocals ret :: tables_1
/-- a 'code' word, met by the world's own term for the bytes: nothing is compared byte by byte -/
theorem code_word {y : MethodName} {bytes : ByteArray} {mx : Nat} {rt : Option FieldType} {a : Array Value} {s : State} {m : MethodId} {meth : Method} {c : Code} (h1 : s.methodNamed? y = some m) (h2 : s.vm.method? m = some meth) (h3 : meth.code = some c) (h4 : c.code = bytes)
    (h5 : (c.maxLocals == mx && c.exceptionTable.isEmpty && decide (c.maxStack ≤ mostOperands) && decide (meth.sig.returnType = rt) && !meth.locks && decide (parseMethodDescriptor y.desc = some meth.sig)) = true) : (Jvm.Cond.code y bytes mx rt).before a s = true := by
  simp only [Bool.and_eq_true, beq_iff_eq, Bool.not_eq_true', decide_eq_true_eq] at h5
  obtain ⟨⟨⟨⟨⟨g1, g2⟩, g3⟩, g4⟩, g5⟩, g6⟩ := h5
  simp [Cond.before, Cond.holds, Cond.value, h1, h2, h3, h4, g1, g2, g3, g4, g5, g6]
def isCode : Jvm.Cond → Bool
  | .code _ _ _ _ => true
  | _ => false
theorem all_split {L : List Jvm.Cond} {P : Jvm.Cond → Bool} (h1 : L.all (fun c => isCode c || P c) = true) (h2 : ∀ c ∈ L.filter isCode, P c = true) : L.all P = true := by
  refine List.all_eq_true.mpr fun c hc => ?_
  have h := List.all_eq_true.mp h1 c hc
  rcases Bool.eq_false_or_eq_true (isCode c) with hi | hi
  · exact h2 c (List.mem_filter.mpr ⟨hc, hi⟩)
  · simpa [hi] using h
set_option maxRecDepth 65536 in
theorem w_c0 : (Jvm.Cond.code x code maxLocals ret).before args0 about1 = true := code_word (m := ⟨1, 4⟩) (meth := k1m4) (c := k1c4) (by decide +kernel) rfl rfl rfl (by decide +kernel)
set_option maxRecDepth 65536 in
theorem w_c1 : (Jvm.Cond.code ({ cls := "com/example/nodewell/nodewell/cache/BitStatisticsHashIsOrderPinLaw", name := "full63", desc := "()[I" } : Jvm.MethodName) method_2_code (0 : Nat) (Option.some (Jvm.ClassFile.FieldType.array Jvm.ClassFile.FieldType.int))).before args0 about1 = true := code_word (m := ⟨1, 1⟩) (meth := k1m1) (c := k1c1) (by decide +kernel) rfl rfl rfl (by decide +kernel)
set_option maxRecDepth 65536 in
theorem w_c2 : (Jvm.Cond.code ({ cls := "com/example/nodewell/nodewell/cache/BitStatisticsHash", name := "isOrder", desc := "([I)Z" } : Jvm.MethodName) prog_25_method_5_code (6 : Nat) (Option.some Jvm.ClassFile.FieldType.boolean)).before args0 about1 = true := code_word (m := ⟨2, 0⟩) (meth := k2m0) (c := k2c0) (by decide +kernel) rfl rfl rfl (by decide +kernel)
set_option maxRecDepth 65536 in
theorem w_c3 : (Jvm.Cond.code ({ cls := "com/example/nodewell/nodewell/cache/BitStatisticsHashIsOrderPinLaw", name := "short62", desc := "()[I" } : Jvm.MethodName) method_3_code (0 : Nat) (Option.some (Jvm.ClassFile.FieldType.array Jvm.ClassFile.FieldType.int))).before args0 about1 = true := code_word (m := ⟨1, 2⟩) (meth := k1m2) (c := k1c2) (by decide +kernel) rfl rfl rfl (by decide +kernel)
set_option maxRecDepth 65536 in
theorem w_c4 : (Jvm.Cond.code ({ cls := "com/example/nodewell/nodewell/cache/BitStatisticsHashIsOrderPinLaw", name := "long64", desc := "()[I" } : Jvm.MethodName) method_4_code (0 : Nat) (Option.some (Jvm.ClassFile.FieldType.array Jvm.ClassFile.FieldType.int))).before args0 about1 = true := code_word (m := ⟨1, 3⟩) (meth := k1m3) (c := k1c3) (by decide +kernel) rfl rfl rfl (by decide +kernel)
def codes1 : List Jvm.Cond := [Jvm.Cond.code x code maxLocals ret, Jvm.Cond.code ({ cls := "com/example/nodewell/nodewell/cache/BitStatisticsHashIsOrderPinLaw", name := "full63", desc := "()[I" } : Jvm.MethodName) method_2_code (0 : Nat) (Option.some (Jvm.ClassFile.FieldType.array Jvm.ClassFile.FieldType.int)), Jvm.Cond.code ({ cls := "com/example/nodewell/nodewell/cache/BitStatisticsHash", name := "isOrder", desc := "([I)Z" } : Jvm.MethodName) prog_25_method_5_code (6 : Nat) (Option.some Jvm.ClassFile.FieldType.boolean), Jvm.Cond.code ({ cls := "com/example/nodewell/nodewell/cache/BitStatisticsHashIsOrderPinLaw", name := "short62", desc := "()[I" } : Jvm.MethodName) method_3_code (0 : Nat) (Option.some (Jvm.ClassFile.FieldType.array Jvm.ClassFile.FieldType.int)), Jvm.Cond.code ({ cls := "com/example/nodewell/nodewell/cache/BitStatisticsHashIsOrderPinLaw", name := "long64", desc := "()[I" } : Jvm.MethodName) method_4_code (0 : Nat) (Option.some (Jvm.ClassFile.FieldType.array Jvm.ClassFile.FieldType.int))]
set_option maxRecDepth 65536 in
theorem codes_eq : words1.filter isCode = codes1 := rfl
theorem w_codes : ∀ c ∈ words1.filter isCode, c.before args0 about1 = true := by
  rw [codes_eq]
  intro c hc
  simp only [codes1, List.mem_cons, List.not_mem_nil, or_false] at hc
  rcases hc with rfl | rfl | rfl | rfl | rfl
  · exact w_c0
  · exact w_c1
  · exact w_c2
  · exact w_c3
  · exact w_c4
set_option maxRecDepth 65536 in
theorem w_t1 : words1.all (fun c => isCode c || c.before args0 about1) = true := by decide +kernel
theorem w_tables : (allAtoms (Jvm.Cond.code x code maxLocals ret :: tables_1)).before args0 about1 = true := by
  rw [allAtoms_all]
  show words1.all (fun c => c.before args0 about1) = true
  refine all_split ?_ w_codes
  rw [w_t1]
set_option maxRecDepth 65536 in
theorem w_case : (Jvm.Cond.and given_1 narrow_1).before args0 about1 = true := by decide +kernel
theorem w_applies : (headSpec (Jvm.Cond.code x code maxLocals ret :: tables_1) room_1).applies x e0.platform about1 = true :=
  (Spec.applies_iff w_frames).mpr ⟨w_running, w_runnable, w_alone, w_named, w_hears, w_ripe, w_room, w_tables⟩
theorem atStart : AtStart classFile x code maxLocals ret World_1 tables_1 room_1 Calls_1 rest_1 Pre_1 launch0 p0 e0 about1 theMethod args0 below0 :=
  ⟨lists_1, trivial, launch0.admits_env _ _ _, launch0.least_env, fairChoices_fair.cas, fairChoices_fair.clock, w_frames, w_args, w_heap, w_applies, trivial, trivial, w_case⟩
end start1
theorem witness_1 : WitnessClaimed_1 := ⟨start1.p0, start1.e0, start1.about1, start1.theMethod, start1.args0, start1.below0, start1.atStart⟩
end Jvm.Pilot.@@N@@

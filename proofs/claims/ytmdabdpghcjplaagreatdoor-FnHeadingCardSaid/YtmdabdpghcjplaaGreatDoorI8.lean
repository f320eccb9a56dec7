/- A region that draws its order, in a frame of which little is known (a function with many temporaries: the walk's own region tactics read a far slot by too many steps). -/
import Derived.Test.YtmdabdpghcjplaaGreatDoorI6
namespace Go.Proofs.YtmdabdpghcjplaaGreatDoor
open Go.RowKit Sl

theorem abs_frame {C : Act → Prop} (a : Act) (h : ∀ A : Act, A.defers = a.defers → A.tmps.size = a.tmps.size → A.eval (.tmp 0) = a.eval (.tmp 0) → C A) : C a := h a rfl rfl rfl

theorem ev_same {A : Act} {d : Nat} {v : Value} (h : d < A.tmps.size) : (A.put (some d) v).eval (.tmp d) = v := by
  simp [Act.put, Act.eval, h]
theorem ev_ne {A : Act} {d k : Nat} {v : Value} (h : k ≠ d) : (A.put (some d) v).eval (.tmp k) = A.eval (.tmp k) := by
  have h' : d ≠ k := fun e => h e.symm
  simp [Act.put, Act.eval, h']
theorem sz_put {A : Act} {d : Nat} {v : Value} : (A.put (some d) v).tmps.size = A.tmps.size := by simp [Act.put]
theorem df_put {A : Act} {d : Option Tmp} {v : Value} : (A.put d v).defers = A.defers := by cases d <;> rfl

theorem run_gen {P : Program} {o : Oper} {w w' : World} {n : Next} (R : (Operand → Value) → Prop) (ρ0 : Operand → Value) (H : ∀ ρ, R ρ → (execOp ρ o).run P w = .ok n w') (h : R ρ0) : (execOp ρ0 o).run P w = .ok n w' := H _ h

section
variable {P : Program} {md : Region.Mode} {ops : Array Oper} {Q : Exit → Act → World → Prop}

theorem take_at (i d : Nat) {oi : Oper} {v : Value} {fuel : Nat} {listed : Array Bool} {a : Act} {w : World} (hi : ops[i]? = some oi) (hd : oi.dst = some d) (hs : Region.noSelect ops = true) (hf : Region.free md ops listed i = true)
    (hr : (Region.ready md ops listed).contains i = true) (hQ : ∀ c a w, Q (.panic c) (a.put (some d) v) w → Q (.panic c) a w) (hw : Region.wanted oi (yielded ops a.tmps) = true) (hy : ∀ w, (execOp a.eval oi).run P w = .ok (.value v) w)
    (h : wpAny P md ops Q fuel (listed.setIfInBounds i true) (a.put (some d) v) w) : wpAny P md ops Q (fuel + 1) listed a w :=
  wpAny_take hi hs hf hr (by rw [hd]; exact hQ) (.inl ⟨hw, hy⟩) (by rw [hd]; exact h)

/-- What is looked at of an operation: where it writes, what it does. -/
def looksAs (ops : Array Oper) (i : Nat) (d : Option Tmp) (op : Op) (ty : TypeId) : Prop := (ops[i]?).map (fun o => (o.dst, o.op, o.type, o.guard)) = some (d, op, ty, none)

theorem looksAs.get {i : Nat} {d : Option Tmp} {op : Op} {ty : TypeId} (h : looksAs ops i d op ty) : ∃ o, ops[i]? = some o ∧ o.dst = d ∧ o.op = op ∧ o.type = ty ∧ o.guard = none := by
  unfold looksAs at h
  obtain ⟨o, h1, h2⟩ := Option.map_eq_some_iff.1 h
  simp only [Prod.mk.injEq] at h2
  exact ⟨o, h1, h2⟩

theorem allReady_value (i : Nat) {d : Option Tmp} {op : Op} {ty : TypeId} {fuel : Nat} {listed : Array Bool} {a : Act} {w w' : World} {rs : List Nat} {n : Next} (ho : looksAs ops i d op ty) {a' : Act}
    (ha : (∃ v, n = .value v ∧ a' = a.put d v) ∨ (n = .skip ∧ d = none ∧ a' = a)) (hr : ∀ o : Oper, o.op = op → o.type = ty → (execOp a.eval o).run P w = .ok n w')
    (h : wpAny P md ops Q fuel (listed.setIfInBounds i true) a' w') (hs : AllReady P md ops Q fuel listed a w rs) : AllReady P md ops Q fuel listed a w (i :: rs) := by
  obtain ⟨o, h1, rfl, h3, h4, h5⟩ := ho.get
  refine AllReady.cons h1 (fun K hK => ?_) hs
  rw [if_pos (by simp [Region.wanted, h5])]
  unfold Oper.wp
  rw [hr o h3 h4]
  rcases ha with ⟨v, rfl, rfl⟩ | ⟨rfl, hd, rfl⟩
  · exact hK _ _ h
  · show K (a'.put o.dst undef) w'
    rw [hd]
    exact hK _ _ h

theorem allReady_enter (i d : Nat) {op : Op} {ty : TypeId} {fuel : Nat} {listed : Array Bool} {a : Act} {w w' : World} {rs : List Nat} {f : FuncId} {args : Array Value} (ho : looksAs ops i (some d) op ty)
    (hr : ∀ o : Oper, o.op = op → o.type = ty → (execOp a.eval o).run P w = .ok (.enter f args) w')
    (h : Calls P f args w' fun e w'' => ∃ v, e = .returned v ∧ wpAny P md ops Q fuel (listed.setIfInBounds i true) (a.put (some d) v) w'') (hs : AllReady P md ops Q fuel listed a w rs) : AllReady P md ops Q fuel listed a w (i :: rs) := by
  obtain ⟨o, h1, hd, h3, h4, h5⟩ := ho.get
  refine AllReady.cons h1 (fun K hK => ?_) hs
  rw [if_pos (by simp [Region.wanted, h5])]
  unfold Oper.wp
  rw [hr o h3 h4]
  refine h.mono ?_
  rintro e w'' ⟨v, rfl, hv⟩
  show K (a.put o.dst v) w''
  rw [hd]
  exact hK _ _ hv
end

theorem slot_of {A : Act} {k : Nat} {v : Value} (hk : k < A.tmps.size) (h : A.eval (.tmp k) = v) : A.tmps[k]? = some v := by
  subst h
  simp [Act.eval, hk]

theorem run_load9 {p : Nat} {a : Option Addr} {n c k : Nat} {w : World} (hc : w.cell? ⟨p, 9, none⟩ = some (.slice a n c)) (o : Oper) (h1 : o.op = .load 89 (.tmp k)) (ρ : Operand → Value) (hρ : ρ (.tmp k) = .pointer (some ⟨p, 9, none⟩)) :
    (execOp ρ o).run Tryz.prog w = .ok (.value (.slice a n c)) w := by
  obtain ⟨_, op, ty, _, _, _⟩ := o
  simp only at h1
  subst h1
  go_simp

theorem run_slice0 {g : Addr} {n c k : Nat} {w : World} (o : Oper) (h1 : o.op = .slice 89 (.tmp k) none (some (.const (.int .i64 0))) none) (ρ : Operand → Value) (hρ : ρ (.tmp k) = .slice (some g) n c) (h0 : ρ (.const (.int .i64 0)) = .int .i64 0) :
    (execOp ρ o).run Tryz.prog w = .ok (.value (.slice (some g) 0 c)) w := by
  obtain ⟨_, op, ty, _, _, _⟩ := o
  simp only at h1
  subst h1
  go_simp

theorem run_store9 {p : Nat} {a : Option Addr} {n c j k : Nat} {v : Value} {w : World} (hc : w.cell? ⟨p, 9, none⟩ = some v) (hf : w.frozen? ⟨p, 9, none⟩ = false) (o : Oper) (h1 : o.op = .store 89 (.tmp j) (.tmp k)) (ρ : Operand → Value) (hρ : ρ (.tmp j) = .pointer (some ⟨p, 9, none⟩)) (hk : ρ (.tmp k) = .slice a n c) :
    (execOp ρ o).run Tryz.prog w = .ok .skip (w.setCell ⟨p, 9, none⟩ (.slice a n c)) := by
  obtain ⟨_, op, ty, _, _, _⟩ := o
  simp only at h1
  subst h1
  go_simp

theorem run_emph {w : World} {i j k : Nat} {x y z : Value} (o : Oper) (h1 : o.op = .call { callee := .value (.func 83), args := #[.tmp i, .tmp j, .tmp k], argTypes := #[117, 89, 89] }) (ρ : Operand → Value)
    (hi : ρ (.tmp i) = x) (hj : ρ (.tmp j) = y) (hk : ρ (.tmp k) = z) (hf : ρ (.func 83) = .func (.func 83) #[] #[]) : (execOp ρ o).run Tryz.prog w = .ok (.enter 83 #[x, y, z]) w := by
  obtain ⟨_, op, ty, _, _, _⟩ := o
  simp only at h1
  subst h1
  go_simp

end Go.Proofs.YtmdabdpghcjplaaGreatDoor
